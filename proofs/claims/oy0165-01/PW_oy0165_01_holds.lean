import PyProof.Rows.All
import Wide.All
import OpenK.AllK
import Wide.FinOn
import PySem.Challenge.RW_oy0165_01
open PySem PySem.W PyProof.Rows
set_option Elab.async false
set_option maxRecDepth 100000
namespace Mine
set_option maxHeartbeats 8000000 in
open_top hd for PySem.Challenge.rw_oy0165_01
end Mine
section
open PySem PySem.W PyProof.Rows
namespace Mine
/-- everything that stands in h stands so in h' -/
def Le (h h' : Heap) : Prop := ∀ b o, h.get? b = some o → h'.get? b = some o
theorem Le.refl (h : Heap) : Le h h := fun _ _ e => e
theorem Le.trans {a b c : Heap} (x : Le a b) (y : Le b c) : Le a c := fun _ _ e => y _ _ (x _ _ e)
theorem Le.none {a b : Heap} (x : Le a b) {p : Addr} (e : b.get? p = none) : a.get? p = none := by
  cases q : a.get? p with
  | none => rfl
  | some o => rw [x _ _ q] at e; cases e
/-- K is the part that stays for good; it grew from (K, h) to (K', h') and nothing of h was changed -/
structure Grown (K h K' h' : Heap) : Prop where
  ext : Le h h'
  kk : Le K K'
  kh : Le K' h'
  new : ∀ a o, K'.get? a = some o → K.get? a = none → h.get? a = none
theorem Grown.refl {K h : Heap} (x : Le K h) : Grown K h K h := ⟨Le.refl _, Le.refl _, x, fun a o e n => by rw [n] at e; cases e⟩
theorem Grown.trans {K h K' h' K'' h'' : Heap} (x : Grown K h K' h') (y : Grown K' h' K'' h'') : Grown K h K'' h'' :=
  ⟨x.ext.trans y.ext, x.kk.trans y.kk, y.kh, fun a o e n => by
    cases q : K'.get? a with
    | none => exact x.ext.none (y.new a o e q)
    | some o' => exact x.new a o' q n⟩
/-- the heap grows, the kept part stays -/
theorem Grown.more {K h h' : Heap} (x : Le K h) (y : Le h h') : Grown K h K h' := ⟨y, Le.refl _, x.trans y, fun a o e n => by rw [n] at e; cases e⟩
/-- a heap with only some of its objects -/
def mask (h : Heap) (p : Addr → Bool) : Heap := { h with objs := h.objs.mapIdx fun i o => if p i then o else { cls := .none, data := .freed } }
theorem mask_get (h : Heap) (p : Addr → Bool) (a : Addr) : (mask h p).get? a = if p a then h.get? a else none := by
  unfold mask Heap.get?
  simp only [Array.getElem?_mapIdx]
  cases e : h.objs[a]? with
  | none => simp
  | some o =>
    simp only [Option.map_some]
    by_cases q : p a = true
    · simp only [q, if_true]
    · have q' : p a = false := by simpa using q
      simp only [q', Bool.false_eq_true, if_false]
/-- one object more in the kept part -/
def freeze (K h : Heap) (a : Addr) : Heap := mask h fun b => (K.get? b).isSome || b == a
theorem freeze_get {K h : Heap} (x : Le K h) (a b : Addr) : (freeze K h a).get? b = if b = a then h.get? a else K.get? b := by
  unfold freeze
  rw [mask_get]
  by_cases e : b = a
  · subst e; simp
  · cases q : K.get? b with
    | none => simp [e]
    | some o => simp [e, x _ _ q]
structure Base (w : World) (K : Heap) : Prop where
  frag : (hd.heap_39 w.params).In K
  bns : ∃ mb, K.Ns builtinsNs mb ∧ ∀ x : Str, x ≠ "__name__" → mb x = bootBuiltins x
  nolim : K.NoLimit
theorem Base.le {w : World} {K K' : Heap} (x : Base w K) (l : Le K K') : Base w K' :=
  ⟨x.frag.keeps l, let ⟨mb, a, b⟩ := x.bns; ⟨mb, a.keeps l, b⟩, x.nolim.keeps l⟩
/-- what an expression may read -/
structure X (w : World) (K : Heap) (env : Env) (m cm : Str → Option Value) (h : Heap) : Prop where
  ns : h.Ns env.locals m
  cell : ∀ n c, env.cells.lookup n = some c → h.IsCell c (cm n)
  kh : Le K h
  base : Base w K
theorem X.grow {w : World} {K h K' h' : Heap} {env : Env} {m cm : Str → Option Value} (x : X w K env m cm h) (g : Grown K h K' h') : X w K' env m cm h' :=
  ⟨x.ns.keeps g.ext, fun n c e => (x.cell n c e).keeps g.ext, g.kh, x.base.le g.kk⟩
theorem X.more {w : World} {K h h' : Heap} {env : Env} {m cm : Str → Option Value} (x : X w K env m cm h) (g : Le h h') : X w K env m cm h' :=
  x.grow (Grown.more x.kh g)
abbrev OwnL := List (Addr × (Obj → Prop))
/-- what a statement may read and change: h₀, Kb: the heap and the kept part at the start; oc: the cells are the frame's own -/
structure S (oc : Bool) (w : World) (h₀ Kb : Heap) (env : Env) (K : Heap) (m cm : Str → Option Value) (own : OwnL) (h : Heap) : Prop where
  x : X w K env m cm h
  base : Le h₀ h
  kk : Le Kb K
  new : ∀ a o, K.get? a = some o → Kb.get? a = none → h₀.get? a = none
  L0 : h₀.get? env.locals = none
  LK : K.get? env.locals = none
  has : ∀ p ∈ own, (∃ o, h.get? p.1 = some o ∧ p.2 o) ∧ h₀.get? p.1 = none ∧ K.get? p.1 = none ∧ p.1 ≠ env.locals
  nd : own.Pairwise fun p q => p.1 ≠ q.1
  cellL : ∀ n c, env.cells.lookup n = some c → c ≠ env.locals ∧ ∀ p ∈ own, p.1 ≠ c
  cellO : oc = true → ∀ n c, env.cells.lookup n = some c → h₀.get? c = none ∧ K.get? c = none
  cellA : env.cells.Pairwise fun p q => p.2 ≠ q.2
section
variable {oc : Bool} {w : World} {h₀ Kb K h K' h' : Heap} {env : Env} {m cm : Str → Option Value} {own : OwnL}
theorem S.grown (x : S oc w h₀ Kb env K m cm own h) : Grown Kb h₀ K h := ⟨x.base, x.kk, x.x.kh, x.new⟩
theorem S.grow (x : S oc w h₀ Kb env K m cm own h) (g : Grown K h K' h') : S oc w h₀ Kb env K' m cm own h' := by
  have fresh : ∀ a, K.get? a = none → (∃ o, h.get? a = some o) → K'.get? a = none := by
    rintro a n ⟨o, e⟩
    cases q : K'.get? a with
    | none => rfl
    | some o' => rw [g.new a o' q n] at e; cases e
  refine ⟨x.x.grow g, x.base.trans g.ext, x.kk.trans g.kk, fun a o e n => ?_, x.L0, fresh _ x.LK ?_, ?_, x.nd, x.cellL, fun t n c hc => ?_, x.cellA⟩
  · exact (x.grown.trans g).new a o e n
  · obtain ⟨o, _, _, e, _⟩ := x.x.ns
    exact ⟨o, e⟩
  · intro p hp
    obtain ⟨⟨o, e, s⟩, a, b, c⟩ := x.has p hp
    exact ⟨⟨o, g.ext _ _ e, s⟩, a, fresh _ b ⟨o, e⟩, c⟩
  · obtain ⟨a, b⟩ := x.cellO t n c hc
    obtain ⟨o, e, r⟩ := x.x.cell n c hc
    exact ⟨a, fresh _ b ⟨o, e⟩⟩
theorem S.more (x : S oc w h₀ Kb env K m cm own h) (g : Le h h') : S oc w h₀ Kb env K m cm own h' := x.grow (Grown.more x.x.kh g)
/-- a name of the frame's is stored -/
theorem S.store {m' : Str → Option Value} (x : S oc w h₀ Kb env K m cm own h) (n : h'.Ns env.locals m') (sb : Heap.SameBut env.locals h h') : S oc w h₀ Kb env K m' cm own h' := by
  have up : ∀ b o, b ≠ env.locals → h.get? b = some o → h'.get? b = some o := fun b o e q => (sb.2 b e).trans q
  refine ⟨⟨n, fun y c e => ?_, fun b o e => up b o (fun q => ?_) (x.x.kh _ _ e), x.x.base⟩, fun b o e => up b o (fun q => ?_) (x.base _ _ e), x.kk, x.new, x.L0, x.LK, ?_, x.nd, x.cellL, x.cellO, x.cellA⟩
  · exact (x.x.cell y c e).sameBut sb ((x.cellL y c e).1)
  · rw [q, x.LK] at e; cases e
  · rw [q, x.L0] at e; cases e
  · intro p hp
    obtain ⟨⟨o, e, s⟩, a, b, c⟩ := x.has p hp
    exact ⟨⟨o, up _ _ c e, s⟩, a, b, c⟩
/-- a cell of the frame's is stored -/
theorem S.storeC {y : Str} {c : Addr} {v : Value} (x : S true w h₀ Kb env K m cm own h) (hc : env.cells.lookup y = some c) (n : h'.IsCell c (some v)) (sb : Heap.SameBut c h h') :
    S true w h₀ Kb env K m (fun z => if z = y then some v else cm z) own h' := by
  have up : ∀ b o, b ≠ c → h.get? b = some o → h'.get? b = some o := fun b o e q => (sb.2 b e).trans q
  have C := x.cellO rfl y c hc
  have C' := x.cellL y c hc
  refine ⟨⟨?_, fun z d e => ?_, fun b o e => up b o (fun q => ?_) (x.x.kh _ _ e), x.x.base⟩, fun b o e => up b o (fun q => ?_) (x.base _ _ e), x.kk, x.new, x.L0, x.LK, ?_, x.nd, x.cellL, x.cellO, x.cellA⟩
  · exact x.x.ns.sameBut sb (Ne.symm C'.1)
  · by_cases hz : z = y
    · subst hz
      rw [hc] at e; cases e
      simpa using n
    · simp only [hz, if_false]
      exact (x.x.cell z d e).sameBut sb fun q => hz (name_of_addr x.cellA (mem_of_lookup e) (q ▸ mem_of_lookup hc))
  · rw [q, C.2] at e; cases e
  · rw [q, C.1] at e; cases e
  · intro p hp
    obtain ⟨⟨o, e, s⟩, a, b, d⟩ := x.has p hp
    exact ⟨⟨o, up _ _ (C'.2 p hp) e, s⟩, a, b, d⟩
/-- an own object is changed -/
theorem S.upd {l₁ l₂ : OwnL} {a : Addr} {P P' : Obj → Prop} (x : S oc w h₀ Kb env K m cm (l₁ ++ (a, P) :: l₂) h) (n : ∃ o, h'.get? a = some o ∧ P' o) (up : ∀ b o, b ≠ a → h.get? b = some o → h'.get? b = some o) :
    S oc w h₀ Kb env K m cm (l₁ ++ (a, P') :: l₂) h' := by
  have A := x.has (a, P) (by simp)
  have nd := x.nd
  have nd' : ∀ p ∈ l₁ ++ l₂, p.1 ≠ a := by
    intro p hp
    rw [List.pairwise_append] at nd
    obtain ⟨_, h2, h3⟩ := nd
    rcases List.mem_append.mp hp with q | q
    · exact h3 p q (a, P) List.mem_cons_self
    · exact fun e => (List.pairwise_cons.mp h2).1 p q e.symm
  refine ⟨⟨?_, fun z d e => ?_, fun b o e => up b o (fun q => ?_) (x.x.kh _ _ e), x.x.base⟩, fun b o e => up b o (fun q => ?_) (x.base _ _ e), x.kk, x.new, x.L0, x.LK, ?_, ?_, ?_, x.cellO, x.cellA⟩
  · exact x.x.ns.at' fun o q => up _ o (Ne.symm A.2.2.2) q
  · obtain ⟨o, q, r⟩ := x.x.cell z d e
    exact ⟨o, up _ o (fun q => (x.cellL z d e).2 (a, P) (by simp) q.symm) q, r⟩
  · rw [q, A.2.2.1] at e; cases e
  · rw [q, A.2.1] at e; cases e
  · intro p hp
    rcases List.mem_append.mp hp with q | q
    · obtain ⟨⟨o, e, s⟩, r⟩ := x.has p (List.mem_append_left _ q)
      exact ⟨⟨o, up _ _ (nd' p (List.mem_append_left _ q)) e, s⟩, r⟩
    · rcases List.mem_cons.mp q with rfl | q
      · exact ⟨n, A.2⟩
      · obtain ⟨⟨o, e, s⟩, r⟩ := x.has p (List.mem_append_right _ (List.mem_cons_of_mem _ q))
        exact ⟨⟨o, up _ _ (nd' p (List.mem_append_right _ q)) e, s⟩, r⟩
  · rw [List.pairwise_append, List.pairwise_cons] at nd ⊢
    refine ⟨nd.1, ⟨fun p hp => nd.2.1.1 p hp, nd.2.1.2⟩, fun p hp q hq => ?_⟩
    rcases List.mem_cons.mp hq with rfl | hq
    · exact nd.2.2 p hp (a, P) List.mem_cons_self
    · exact nd.2.2 p hp q (List.mem_cons_of_mem _ hq)
  · intro z d hd'
    obtain ⟨e3, e4⟩ := x.cellL z d hd'
    refine ⟨e3, fun p hp => ?_⟩
    rcases List.mem_append.mp hp with q | q
    · exact e4 p (List.mem_append_left _ q)
    · rcases List.mem_cons.mp q with rfl | q
      · exact e4 (a, P) (by simp)
      · exact e4 p (List.mem_append_right _ (List.mem_cons_of_mem _ q))
theorem S.upd0 {l : OwnL} {a : Addr} {P P' : Obj → Prop} (x : S oc w h₀ Kb env K m cm ((a, P) :: l) h) (n : ∃ o, h'.get? a = some o ∧ P' o) (up : ∀ b o, b ≠ a → h.get? b = some o → h'.get? b = some o) :
    S oc w h₀ Kb env K m cm ((a, P') :: l) h' := S.upd (l₁ := []) x n up
/-- a new object of its own -/
theorem S.push {a : Addr} {P : Obj → Prop} (x : S oc w h₀ Kb env K m cm own h) (g : Le h h') (n : ∃ o, h'.get? a = some o ∧ P o) (f : h.get? a = none) :
    S oc w h₀ Kb env K m cm ((a, P) :: own) h' := by
  have y := x.more g
  have ne : ∀ b, (∃ o, h.get? b = some o) → b ≠ a := by
    rintro b ⟨o, e⟩ rfl
    rw [f] at e; cases e
  refine ⟨y.x, y.base, y.kk, y.new, y.L0, y.LK, ?_, ?_, ?_, y.cellO, y.cellA⟩
  · intro p hp
    rcases List.mem_cons.mp hp with rfl | hp
    · refine ⟨n, x.base.none f, x.x.kh.none f, ?_⟩
      obtain ⟨o, _, _, e, _⟩ := x.x.ns
      exact Ne.symm (ne _ ⟨o, e⟩)
    · exact y.has p hp
  · refine List.pairwise_cons.mpr ⟨fun p hp => ?_, y.nd⟩
    obtain ⟨⟨o, e, _⟩, _⟩ := x.has p hp
    exact Ne.symm (ne _ ⟨o, e⟩)
  · intro z d hd'
    obtain ⟨e3, e4⟩ := y.cellL z d hd'
    refine ⟨e3, fun p hp => ?_⟩
    rcases List.mem_cons.mp hp with rfl | hp
    · obtain ⟨o, e, _⟩ := x.x.cell z d hd'
      exact Ne.symm (ne _ ⟨o, e⟩)
    · exact e4 p hp
/-- fewer own objects -/
theorem S.fewer {own' : OwnL} (x : S oc w h₀ Kb env K m cm own h) (sl : own'.Sublist own) : S oc w h₀ Kb env K m cm own' h :=
  ⟨x.x, x.base, x.kk, x.new, x.L0, x.LK, fun p hp => x.has p (sl.mem hp), x.nd.sublist sl, fun n c hc => let ⟨d, f⟩ := x.cellL n c hc; ⟨d, fun p hp => f p (sl.mem hp)⟩, x.cellO, x.cellA⟩
theorem S.perm {own' : OwnL} (x : S oc w h₀ Kb env K m cm own h) (sl : own'.Perm own) : S oc w h₀ Kb env K m cm own' h :=
  ⟨x.x, x.base, x.kk, x.new, x.L0, x.LK, fun p hp => x.has p (sl.mem_iff.mp hp), (sl.pairwise_iff fun h => Ne.symm h).mpr x.nd, fun n c hc => let ⟨d, f⟩ := x.cellL n c hc; ⟨d, fun p hp => f p (sl.mem_iff.mp hp)⟩, x.cellO, x.cellA⟩
/-- what is known of the own objects, weaker -/
theorem S.weaker {l₁ l₂ : OwnL} {a : Addr} {P P' : Obj → Prop} (x : S oc w h₀ Kb env K m cm (l₁ ++ (a, P) :: l₂) h) (n : ∀ o, P o → P' o) : S oc w h₀ Kb env K m cm (l₁ ++ (a, P') :: l₂) h := by
  obtain ⟨⟨o, e, p⟩, _⟩ := x.has (a, P) (by simp)
  exact S.upd x ⟨o, e, n o p⟩ fun _ _ _ q => q
/-- some own objects are changed, all at once -/
theorem S.updAll {l l' : OwnL} (x : S oc w h₀ Kb env K m cm (own ++ l) h) (hl : l'.map (·.1) = l.map (·.1)) (n : ∀ p ∈ l', ∃ o, h'.get? p.1 = some o ∧ p.2 o)
    (up : ∀ b o, b ∉ l.map (·.1) → h.get? b = some o → h'.get? b = some o) : S oc w h₀ Kb env K m cm (own ++ l') h' := by
  have old : ∀ p ∈ l', ∃ q ∈ l, q.1 = p.1 := fun p hp => by
    have : p.1 ∈ l.map (·.1) := hl ▸ List.mem_map.mpr ⟨p, hp, rfl⟩
    exact List.mem_map.mp this
  have off : ∀ b, (∀ p ∈ l, p.1 ≠ b) → b ∉ l.map (·.1) := fun b hb hm => by
    obtain ⟨p, hp, e⟩ := List.mem_map.mp hm
    exact hb p hp e
  have nd := x.nd
  rw [List.pairwise_append] at nd
  refine ⟨⟨?_, fun z d e => ?_, fun b o e => up b o (off b fun p hp q => ?_) (x.x.kh _ _ e), x.x.base⟩, fun b o e => up b o (off b fun p hp q => ?_) (x.base _ _ e), x.kk, x.new, x.L0, x.LK, ?_, ?_, ?_, x.cellO, x.cellA⟩
  · exact x.x.ns.at' fun o q => up _ o (off _ fun p hp => (x.has p (List.mem_append_right _ hp)).2.2.2) q
  · obtain ⟨o, q, r⟩ := x.x.cell z d e
    exact ⟨o, up _ o (off _ fun p hp => (x.cellL z d e).2 p (List.mem_append_right _ hp)) q, r⟩
  · rw [← q, (x.has p (List.mem_append_right _ hp)).2.2.1] at e; cases e
  · rw [← q, (x.has p (List.mem_append_right _ hp)).2.1] at e; cases e
  · intro p hp
    rcases List.mem_append.mp hp with q | q
    · obtain ⟨⟨o, e, s⟩, r⟩ := x.has p (List.mem_append_left _ q)
      exact ⟨⟨o, up _ _ (off _ fun p' hp' => Ne.symm (nd.2.2 p q p' hp')) e, s⟩, r⟩
    · obtain ⟨p', hp', e⟩ := old p q
      exact ⟨n p q, e ▸ (x.has p' (List.mem_append_right _ hp')).2⟩
  · rw [List.pairwise_append]
    refine ⟨nd.1, ?_, fun p hp q hq => ?_⟩
    · have h1 : (l.map (·.1)).Pairwise (· ≠ ·) := List.pairwise_map.mpr nd.2.1
      rw [← hl] at h1
      exact List.pairwise_map.mp h1
    · obtain ⟨q', hq', e⟩ := old q hq
      exact e ▸ nd.2.2 p hp q' hq'
  · intro z d hd'
    obtain ⟨e3, e4⟩ := x.cellL z d hd'
    refine ⟨e3, fun p hp => ?_⟩
    rcases List.mem_append.mp hp with q | q
    · exact e4 p (List.mem_append_left _ q)
    · obtain ⟨p', hp', e⟩ := old p q
      exact e ▸ e4 p' (List.mem_append_right _ hp')
/-- some own objects are changed and given up -/
theorem S.dropAll {l : OwnL} (x : S oc w h₀ Kb env K m cm (own ++ l) h) (up : ∀ b o, b ∉ l.map (·.1) → h.get? b = some o → h'.get? b = some o) : S oc w h₀ Kb env K m cm own h' := by
  have off : ∀ b, (∀ p ∈ l, p.1 ≠ b) → b ∉ l.map (·.1) := fun b hb hm => by
    obtain ⟨p, hp, e⟩ := List.mem_map.mp hm
    exact hb p hp e
  have nd := x.nd
  rw [List.pairwise_append] at nd
  refine ⟨⟨?_, fun z d e => ?_, fun b o e => up b o (off b fun p hp q => ?_) (x.x.kh _ _ e), x.x.base⟩, fun b o e => up b o (off b fun p hp q => ?_) (x.base _ _ e), x.kk, x.new, x.L0, x.LK, ?_, nd.1, ?_, x.cellO, x.cellA⟩
  · exact x.x.ns.at' fun o q => up _ o (off _ fun p hp => (x.has p (List.mem_append_right _ hp)).2.2.2) q
  · obtain ⟨o, q, r⟩ := x.x.cell z d e
    exact ⟨o, up _ o (off _ fun p hp => (x.cellL z d e).2 p (List.mem_append_right _ hp)) q, r⟩
  · rw [← q, (x.has p (List.mem_append_right _ hp)).2.2.1] at e; cases e
  · rw [← q, (x.has p (List.mem_append_right _ hp)).2.1] at e; cases e
  · intro p hp
    obtain ⟨⟨o, e, s⟩, r⟩ := x.has p (List.mem_append_left _ hp)
    exact ⟨⟨o, up _ _ (off _ fun p' hp' => Ne.symm (nd.2.2 p hp p' hp')) e, s⟩, r⟩
  · intro z d hd'
    obtain ⟨e3, e4⟩ := x.cellL z d hd'
    exact ⟨e3, fun p hp => e4 p (List.mem_append_left _ hp)⟩
/-- an own object stays for good from here on -/
theorem S.freeze {a : Addr} {P : Obj → Prop} (x : S oc w h₀ Kb env K m cm ((a, P) :: own) h) :
    ∃ K' o, S oc w h₀ Kb env K' m cm own h ∧ Le K K' ∧ K'.get? a = some o ∧ P o ∧ ∀ b, K'.get? b = if b = a then some o else K.get? b := by
  obtain ⟨⟨o, e, p⟩, a0, aK, aL⟩ := x.has (a, P) List.mem_cons_self
  have G : ∀ b, (Mine.freeze K h a).get? b = if b = a then some o else K.get? b := fun b => by rw [freeze_get x.x.kh]; split <;> simp [e]
  have le : Le K (Mine.freeze K h a) := fun b o' e' => by
    rw [G]; split
    · rename_i q; rw [q, aK] at e'; cases e'
    · exact e'
  have off : ∀ b, K.get? b = none → b ≠ a → (Mine.freeze K h a).get? b = none := fun b n q => by rw [G, if_neg q]; exact n
  refine ⟨Mine.freeze K h a, o, ⟨⟨x.x.ns, x.x.cell, ?_, x.x.base.le le⟩, x.base, x.kk.trans le, ?_, x.L0, off _ x.LK (Ne.symm aL), ?_, (List.pairwise_cons.mp x.nd).2, ?_, ?_, x.cellA⟩, le, by rw [G, if_pos rfl], p, G⟩
  · intro b o' e'
    rw [G] at e'
    split at e'
    · rename_i q; rw [q]; rw [← e']; exact e
    · exact x.x.kh _ _ e'
  · intro b o' e' n
    rw [G] at e'
    split at e'
    · rename_i q; rw [q]; exact a0
    · exact x.new b o' e' n
  · intro q hq
    obtain ⟨r1, r2, r3, r4⟩ := x.has q (List.mem_cons_of_mem _ hq)
    exact ⟨r1, r2, off _ r3 (Ne.symm ((List.pairwise_cons.mp x.nd).1 q hq)), r4⟩
  · intro n c hc
    obtain ⟨r3, r4⟩ := x.cellL n c hc
    exact ⟨r3, fun q hq => r4 q (List.mem_cons_of_mem _ hq)⟩
  · intro t n c hc
    obtain ⟨r1, r2⟩ := x.cellO t n c hc
    exact ⟨r1, off _ r2 (Ne.symm ((x.cellL n c hc).2 (a, P) List.mem_cons_self))⟩
end
/-- room for n calls more -/
structure AOk (n : Nat) (A : Around) : Prop where
  handled : A.handled = none
  depth : A.depth + n < 900
  units : A.units + 8 * n < 9000
theorem AOk.deeper {n : Nat} {A : Around} (x : AOk (n + 1) A) (env : Env) : AOk n (A.deeper env) :=
  ⟨x.handled, by have := x.depth; show A.depth + 1 + n < 900; omega, by have := x.units; show A.units + 3 + 8 * n < 9000; omega⟩
theorem AOk.le {n k : Nat} {A : Around} (x : AOk n A) (h : k ≤ n) : AOk k A := ⟨x.handled, by have := x.depth; omega, by have := x.units; omega⟩
end Mine
end
section
open PySem PySem.W PyProof.Rows
namespace Mine
abbrev prg : Program := PySem.Challenge.pw_oy0165_01
section
variable {w : World} {A : Around} {E : Value → Shared → Prop} {s : Shared} {K : Heap} {env : Env} {m cm : Str → Option Value}
theorem x_local {n : Str} {pos : Pos} {v : Value} {Q : Value → Shared → Prop} (x : X w K env m cm s.heap) (hv : m n = some v) (h : Q v s)
    (hk : env.scope.kind = .function := by rfl) (hl : env.kindOf n = some .local := by rfl) (hd : (n == ("__debug__" : Str)) = false := by decide) :
    wpAny (model prg w) A (eval (.Name n pos) env) Q E s := wpAny_Name (wpAny_loadName_local hk hl x.ns hv h) hd
theorem x_cell {n : Str} {c : Addr} {pos : Pos} {v : Value} {Q : Value → Shared → Prop} (x : X w K env m cm s.heap) (hv : cm n = some v) (h : Q v s)
    (hc : env.cells.lookup n = some c := by rfl) (hk : env.scope.kind = .function := by rfl) (hl : env.kindOf n = some .cell := by rfl) (hd : (n == ("__debug__" : Str)) = false := by decide) :
    wpAny (model prg w) A (eval (.Name n pos) env) Q E s := wpAny_Name (wpAny_loadName_cell hk hl hc (hv ▸ x.cell n c hc) h) hd
theorem x_free {n : Str} {c : Addr} {pos : Pos} {v : Value} {Q : Value → Shared → Prop} (x : X w K env m cm s.heap) (hv : cm n = some v) (h : Q v s)
    (hc : env.cells.lookup n = some c := by rfl) (hk : env.scope.kind = .function := by rfl) (hl : env.kindOf n = some .free := by rfl) (hd : (n == ("__debug__" : Str)) = false := by decide) (hn : (n == ("__classdict__" : Str)) = false := by decide) :
    wpAny (model prg w) A (eval (.Name n pos) env) Q E s := wpAny_Name (wpAny_loadName_free hk hl hc (hv ▸ x.cell n c hc) h hn) hd
theorem x_global {n : Str} {pos : Pos} {v : Value} {Q : Value → Shared → Prop} (x : X w K env m cm s.heap) (e : nsIn (hd.heap_39 w.params) mainGlobals n = some (some v)) (h : Q v s)
    (hg : env.globals = mainGlobals := by rfl) (hk : env.scope.kind = .function := by rfl) (hl : env.kindOf n = some .globalImplicit := by rfl) (hd : (n == ("__debug__" : Str)) = false := by decide) :
    wpAny (model prg w) A (eval (.Name n pos) env) Q E s := by
  refine Calls.Name_function_global hk hl ?_ hd
  unfold loadGlobal
  rw [hg]
  refine wpAny_bind ((looks_nsIn (x.base.frag.keeps x.kh) e).here ?_)
  exact wpAny_pure h
theorem x_builtin {n : Str} {pos : Pos} {v : Value} {Q : Value → Shared → Prop} (x : X w K env m cm s.heap) (e : nsIn (hd.heap_39 w.params) mainGlobals n = some none) (hv : bootBuiltins n = some v) (h : Q v s)
    (hg : env.globals = mainGlobals := by rfl) (hb : env.builtins = builtinsNs := by rfl) (hk : env.scope.kind = .function := by rfl) (hl : env.kindOf n = some .globalImplicit := by rfl)
    (hd : (n == ("__debug__" : Str)) = false := by decide) (hn : n ≠ "__name__" := by decide) :
    wpAny (model prg w) A (eval (.Name n pos) env) Q E s := by
  refine Calls.Name_function_global hk hl ?_ hd
  unfold loadGlobal
  rw [hg, hb]
  refine wpAny_bind ((looks_nsIn (x.base.frag.keeps x.kh) e).here ?_)
  obtain ⟨mb, a, b⟩ := x.base.bns
  refine wpAny_bind (wpAny_nsGet (a.keeps x.kh) ?_)
  rw [b n hn, hv]
  exact wpAny_pure h
end
section
variable {w : World} {A : Around} {E : Value → Shared → Prop} {s : Shared} {oc : Bool} {K Kb h₀ : Heap} {env : Env} {m cm : Str → Option Value} {own : OwnL}
/-- a name of the frame's is stored -/
theorem st_local {n : Str} {v : Value} {Q : Unit → Shared → Prop} (x : S oc w h₀ Kb env K m cm own s.heap)
    (h : ∀ h' tk, S oc w h₀ Kb env K (fun y => if y = n then some v else m y) cm own h' → Q () { s with heap := h', toks := tk })
    (hk : env.scope.kind = .function := by rfl) (hl : env.kindOf n = some .local := by rfl) : wpAny (model prg w) A (storeName env n v) Q E s :=
  wpAny_storeName_local hl x.x.ns (fun h' hn hs => h h' _ (x.store hn hs)) (by rw [hk]; rfl)
theorem st_cell {n : Str} {c : Addr} {v : Value} {Q : Unit → Shared → Prop} (x : S true w h₀ Kb env K m cm own s.heap)
    (h : ∀ h', S true w h₀ Kb env K m (fun y => if y = n then some v else cm y) own h' → Q () { s with heap := h' })
    (hc : env.cells.lookup n = some c := by rfl) (hk : env.scope.kind = .function := by rfl) (hl : env.kindOf n = some .cell := by rfl) : wpAny (model prg w) A (storeName env n v) Q E s :=
  wpAny_storeName_cell hk hl hc (x.x.cell n c hc) fun h' hn hs => h h' (x.storeC hc hn hs)
end
theorem cells_acc : ∀ (names : List (Str × NameKind)) (k : Nat) (acc : List (Str × Addr)) (x : Str), (acc.lookup x).isSome = true → ((cellsFrom k names acc).lookup x).isSome = true
  | [], _, _, _, h => h
  | (n, kd) :: r, k, acc, x, h => by
    unfold cellsFrom
    split
    · refine cells_acc r _ _ x ?_
      rw [List.lookup_cons]
      cases x == n <;> simp [h]
    · exact cells_acc r _ _ x h
theorem cells_has : ∀ (names : List (Str × NameKind)) (k : Nat) (acc : List (Str × Addr)) (x : Str), names.lookup x = some .cell → ((cellsFrom k names acc).lookup x).isSome = true
  | [], _, _, _, h => by simp at h
  | (n, kd) :: r, k, acc, x, h => by
    unfold cellsFrom
    rw [List.lookup_cons] at h
    cases q : x == n with
    | true =>
      rw [q] at h
      injection h with h
      subst h
      rw [if_pos (by rfl)]
      refine cells_acc r _ _ x ?_
      rw [List.lookup_cons, q]; rfl
    | false =>
      rw [q] at h
      split
      · exact cells_has r _ _ x h
      · exact cells_has r _ _ x h
def kindsOk (names : List (Str × NameKind)) (l : List Str) : Bool := l.all fun n => names.lookup n == some .local || names.lookup n == some .cell
theorem kinds_of {names : List (Str × NameKind)} {binds : List (Str × Value)} {k : Nat} (h : kindsOk names (binds.map (·.1)) = true) :
    ∀ x ∈ binds, names.lookup x.1 = some .local ∨ (names.lookup x.1 = some .cell ∧ ((cellsFrom k names []).lookup x.1).isSome = true) := by
  intro x hx
  have := List.all_eq_true.mp h x.1 (List.mem_map.mpr ⟨x, hx, rfl⟩)
  simp only [Bool.or_eq_true, beq_iff_eq] at this
  rcases this with e | e
  · exact .inl e
  · exact .inr ⟨e, cells_has _ _ _ _ e⟩
/-- what a call of a plain def is -/
theorem call_def {w : World} {A : Around} {E : Value → Shared → Prop} {s : Shared} {K : Heap} {n : Nat} {a : Addr} {o : Obj} {fd : FuncData} {body : List Stmt} {vals : List Value} {binds : List (Str × Value)} {Q : Value → Shared → Prop}
    (hA : AOk (n + 1) A) (hB : Base w K) (hle : Le K s.heap) (ho : K.get? a = some o) (hdata : o.data = .func fd) (hcd : K.CodeRec fd.code fd.qualname)
    (hbody : fd.body = .stmts body) (hbind : bindArgs fd ⟨vals, []⟩ = pure binds)
    (hkind : kindsOk fd.scope.names (binds.map (·.1)) = true)
    (h : ∀ h₁ tk, AOk n (A.deeper (callEnvC fd s.heap.objs.size a)) →
      S true w s.heap K (callEnvC fd s.heap.objs.size a) K (bindL (callEnvC fd s.heap.objs.size a).kindOf binds fun _ => none) (bindC (callEnvC fd s.heap.objs.size a).kindOf binds fun _ => none) [] h₁ →
      wpAny (model prg w) (A.deeper (callEnvC fd s.heap.objs.size a)) (execs body (callEnvC fd s.heap.objs.size a)) (fun f s' => Q (match f with | .ret v => v | _ => .none) s') (fun _ _ => False) { s with heap := h₁, toks := tk })
    (hclo : fd.closure = [] := by rfl) (hco : fd.scope.isCoroutine = false := by rfl) (hgen : fd.scope.isGenerator = false := by rfl) (hk : fd.scope.kind = .function := by rfl) :
    wpAny (model prg w) A (call (.ref a) vals) Q E s := by
  refine wpAny_call (codeAny_call_cells (by have := hA.depth; show A.depth < 1000; omega) (hle _ _ ho) hdata (hB.nolim.keeps hle) (hcd.keeps hle) hbody hbind hclo (kinds_of hkind) (fun s₁ x => ?_) hco hgen hk)
  obtain ⟨⟨⟨h₁, tk, rfl⟩, ns, keep, fresh⟩, cell, apart, above⟩ := x
  have hL : (callEnvC fd s.heap.objs.size a).locals = s.heap.objs.size := rfl
  have none_ge : ∀ b, s.heap.objs.size ≤ b → s.heap.get? b = none := fun b hb => by
    cases q : s.heap.get? b with
    | none => rfl
    | some o' => exact absurd (Heap.lt_size q) (Nat.not_lt.mpr hb)
  have cge : ∀ y c, (callEnvC fd s.heap.objs.size a).cells.lookup y = some c → s.heap.objs.size < c := fun y c hc => above y c (mem_of_lookup hc)
  refine wpAny_mono (h h₁ tk (hA.deeper _) ⟨⟨ns, cell, hle.trans keep, hB⟩, keep, Le.refl _, (fun a o e n => by rw [n] at e; cases e), none_ge _ (Nat.le_of_eq hL.symm), hle.none (none_ge _ (Nat.le_of_eq hL.symm)), fun p hp => (nomatch hp), List.Pairwise.nil, ?_, ?_, apart⟩) (fun f s' q => q) fun _ _ e => e.elim
  · exact fun y c hc => ⟨Nat.ne_of_gt (cge y c hc), fun p hp => (nomatch hp)⟩
  · exact fun _ y c hc => ⟨none_ge _ (Nat.le_of_lt (cge y c hc)), hle.none (none_ge _ (Nat.le_of_lt (cge y c hc)))⟩
end Mine
end
section
open PySem PySem.W PyProof.Rows
namespace Mine
section
variable {w : World} {A : Around} {E : Value → Shared → Prop} {s : Shared} {K : Heap} {n : Nat}
set_option maxHeartbeats 400000 in
theorem spec_ifmt {x : Int} {t : Tok} {Q : Value → Shared → Prop} (hA : AOk (n + 1) A) (hB : Base w K) (hle : Le K s.heap)
    (h : ∀ h' tk t', Le s.heap h' → Q (.int (Builtin.bitAnd x 61440) t') { s with heap := h', toks := tk }) :
    wpAny (model prg w) A (call (.ref 71) [.int x t]) Q E s := by
  refine call_def (binds := [("mode", .int x t)]) hA hB hle (hB.frag 71 _ rfl) rfl ⟨_, _, _, _, rfl, hB.frag 70 _ rfl, rfl, rfl⟩ rfl rfl rfl ?_
  intro h₁ tk hA' x'
  refine wpAny_execs_cons ?_
  refine wpAny_Return_some ?_
  refine wpAny_BinOp ?_
  refine x_local x'.x rfl ?_
  refine wpAny_Constant_int ?_
  refine and_int ?_
  exact h _ _ _ x'.base
end
end Mine
end
section
open PySem PySem.W PyProof.Rows
namespace Mine
/-- every text that may be a rung -/
def U : List Str := (["a.local", "a.com", "a.7", "b.local", "b.com", "b.7", "a.a.local", "a.a.com", "a.a.7", "a.b.local", "a.b.com", "a.b.7", "b.a.local", "b.a.com", "b.a.7", "b.b.local", "b.b.com", "b.b.7", "a.a.a.local", "a.a.a.com", "a.a.a.7", "a.a.b.local", "a.a.b.com", "a.a.b.7", "a.b.a.local", "a.b.a.com", "a.b.a.7", "a.b.b.local", "a.b.b.com", "a.b.b.7", "b.a.a.local", "b.a.a.com", "b.a.a.7", "b.a.b.local", "b.a.b.com", "b.a.b.7", "b.b.a.local", "b.b.a.com", "b.b.a.7", "b.b.b.local", "b.b.b.com", "b.b.b.7", "local"] : List String).map Str.ofString
def reCode : Array Nat := #[14, 8, 1, 2, 4294967295, 1, 1, 46, 0, 16, 46, 24, 9, 1, 4294967295, 13, 4, 8, 0, 0, 1, 6, 5, 1]
theorem re_target (P : Params) (x : Str) (t : Tok) : peek (hd.heap_39 P) ⟨prg, P⟩ (Builtin.Re.reTarget "re.Pattern.search" "search" ⟨[.ref 36, .str x t], []⟩) =
    some ⟨.ref 36, .str x t, reCode, x.cps, 0, 0, min 0 x.cps.size, min (2 ^ 63 - 1) x.cps.size⟩ := by kernel_rfl
open Builtin.Re in
def driveK : Nat → Sre.M → Option Sre.M
  | 0, _ => none
  | k + 1, m => let m := m.runFor reTurnSteps; if m.outcome.isSome then some m else driveK k m
section
variable {w : World} {A : Around} {E : Value → Shared → Prop} {s : Shared}
open Builtin.Re
theorem drive_of {Q : Sre.M → Shared → Prop} {m' : Sre.M} (hq : Q m' s) : ∀ (k n : Nat) (m : Sre.M), k ≤ n → driveK k m = some m' → wpAny (model prg w) A (reDrive n m) Q E s
  | 0, _, _, _, h => by cases h
  | k + 1, 0, _, h, _ => absurd h (Nat.not_succ_le_zero k)
  | k + 1, n + 1, m, h, e => by
    unfold driveK at e
    unfold reDrive
    dsimp only at e ⊢
    by_cases q : (m.runFor reTurnSteps).outcome.isSome = true
    · rw [if_pos q] at e ⊢
      cases e
      exact wpAny_pure hq
    · rw [if_neg q] at e ⊢
      exact wpAny_bind (wpAny_rule (drive_of hq k n _ (Nat.le_of_succ_le_succ h) e))
theorem rules_of {Q : PUnit → Shared → Prop} (f : Nat → PUnit → Sem (ForInStep PUnit)) (hf : ∀ i (Q' : ForInStep PUnit → Shared → Prop), Q' (.yield ⟨⟩) s → wpAny (model prg w) A (f i ⟨⟩) Q' E s) (hq : Q ⟨⟩ s) :
    ∀ l : List Nat, wpAny (model prg w) A (forIn l PUnit.unit f) Q E s
  | [] => by rw [List.forIn_nil]; exact wpAny_pure hq
  | i :: l => by
    rw [List.forIn_cons]
    exact wpAny_bind (hf i _ (rules_of f hf hq l))
theorem toEnd_of {Q : Option Sre.M → Shared → Prop} {m m' : Sre.M} {k : Nat} (hk : k ≤ 2 ^ 64) (e : driveK k m = some m') (r : Option Sre.M)
    (hr : (m'.outcome = some .matched ∧ r = some m') ∨ (m'.outcome = some .failed ∧ r = none)) (hq : Q r s) : wpAny (model prg w) A (reRunToEnd m) Q E s := by
  unfold reRunToEnd
  refine wpAny_bind (drive_of ?_ k _ m hk e)
  refine wpAny_bind (rules_of _ (fun i Q' h => ?_) ?_ _)
  · split
    · exact wpAny_bind (wpAny_rule (wpAny_pure h))
    · exact wpAny_pure h
  rcases hr with ⟨h, rfl⟩ | ⟨h, rfl⟩ <;> rw [h] <;> exact wpAny_pure hq
end
/-- the text ends in a dot and figures -/
def sevenF (x : Str) : Bool := x.cps.toList.getLast? == some 55
def searchM (x : Str) : Sre.M := Sre.forSearch reCode x.cps 0 (min 0 x.cps.size) (min (2 ^ 63 - 1) x.cps.size) false
def reOk (x : Str) : Bool := match driveK 60 (searchM x) with
  | some m => (match m.outcome with | some .matched => sevenF x | some .failed => !sevenF x | _ => false)
  | none => false
theorem U_re : U.all reOk = true := by decide +kernel
end Mine
end
section
open PySem PySem.W PyProof.Rows
namespace Mine
theorem pa_pat : PlainAttrs "re.Pattern" :=
  ⟨⟨"object.__getattribute__", by rw [typeLookup_type, builtinLookup_eq_fast]; kernel_rfl, by decide +kernel⟩, by rw [typeLookup_type, builtinLookup_eq_fast]; kernel_rfl⟩
theorem slot_search : Slot "re.Pattern" "search" "re.Pattern.search" :=
  .of (owner := "re.Pattern") (n := "search") (by rw [typeLookup_type, builtinLookup_eq_fast]; kernel_rfl) (by decide +kernel) (by decide +kernel) (by decide +kernel)
    (by first | exact .inl (by decide +kernel) | exact .inr (by decide +kernel)) (by rw [isSubtype_type]; kernel_rfl)
theorem type_search : typeOf (.builtin "re.Pattern.search") = pure (.type "method_descriptor") := by show builtinType _ = _; rw [builtinType_eq_fast]; kernel_rfl
theorem entry_search : entryFor table "re.Pattern.search" = some Builtin.«re.Pattern.search» := entryFor_of_tree (by kernel_rfl)
theorem args_search (a b : Value) : argsOk "re.Pattern.search" ⟨[a, b], []⟩ := by
  unfold argsOk; kernel_rfl
theorem noBool_match : typeLookup (.type "re.Match") "__bool__" = pure none := by rw [typeLookup_type, builtinLookup_eq_fast]; kernel_rfl
theorem noLen_match : typeLookup (.type "re.Match") "__len__" = pure none := by rw [typeLookup_type, builtinLookup_eq_fast]; kernel_rfl
section
variable {w : World} {A : Around} {E : Value → Shared → Prop} {s : Shared} {K : Heap}
open Builtin.Re
theorem search_call {x : Str} {t : Tok} {Q : Value → Shared → Prop} (hB : Base w K) (hle : Le K s.heap) (hx : x ∈ U)
    (h1 : sevenF x = true → ∀ a h', Le s.heap h' → (∃ o, h'.get? a = some o ∧ o.cls = .type "re.Match") → Q (.ref a) { s with heap := h' })
    (h2 : sevenF x = false → Q .none s) : wpAny (model prg w) A (call (.builtin "re.Pattern.search") [.ref 36, .str x t]) Q E s := by
  have hU : reOk x = true := List.all_eq_true.mp U_re x hx
  refine wpAny_call_entry slot_search ⟨_, hle _ _ (hB.frag 36 _ rfl), rfl⟩ entry_search ?_ (args_search _ _)
  show wpAny _ _ (reTarget "re.Pattern.search" "search" ⟨[.ref 36, .str x t], []⟩ >>= fun t => reAnswer t (Sre.forSearch t.code t.text t.groups t.pos t.lim false)) _ _ _
  refine wpAny_bind ((Looks.of_peek (hB.frag.keeps hle) (re_target w.params x t)).here ?_)
  unfold reOk at hU
  cases e : driveK 60 (searchM x) with
  | none => rw [e] at hU; cases hU
  | some m =>
    rw [e] at hU
    dsimp only at hU
    unfold reAnswer
    dsimp only
    cases o : m.outcome with
    | none => rw [o] at hU; cases hU
    | some oc =>
      rw [o] at hU
      cases oc with
      | matched =>
        refine wpAny_bind (toEnd_of (by decide) e (some m) (.inl ⟨o, rfl⟩) ?_)
        dsimp only
        unfold reNewMatch
        show wpAny _ _ ((newTuple _ >>= fun t => newFields "re.Match" _) >>= _) _ _ _
        refine wpAny_bind (wpAny_bind (wpAny_newObj_type (wpAny_newObj_type ?_) (by show (2 : Nat) ≤ 2 ^ 24; decide)))
        refine wpAny_pure ⟨_, rfl, h1 hU _ _ ?_ ?_⟩
        · intro b o' e'
          exact Heap.get?_push_of_some _ (Heap.get?_push_of_some _ e')
        · exact ⟨_, Heap.get?_push_size _ rfl, rfl⟩
      | failed =>
        refine wpAny_bind (toEnd_of (by decide) e none (.inr ⟨o, rfl⟩) ?_)
        exact wpAny_pure ⟨_, rfl, h2 (by simpa using hU)⟩
      | stuck why => cases hU
theorem truthy_match {a : Addr} {Q : Bool → Shared → Prop} (ho : ∃ o, s.heap.get? a = some o ∧ o.cls = .type "re.Match") (h : Q true s) : wpAny (model prg w) A (truthy (.ref a)) Q E s := by
  have hT : s.TypeIs (.ref a) "re.Match" := ho
  unfold truthy
  first
    | refine wpAny_bind (wpAny_callSpecial?_none (name := Str.ofString "__bool__") hT noBool_match ?_)
    | refine wpAny_bind (wpAny_pure (wpAny_bind (wpAny_callSpecial?_none (name := Str.ofString "__bool__") hT noBool_match ?_)))
  first
    | refine wpAny_bind (wpAny_specialOf (name := Str.ofString "__len__") hT noLen_match ?_)
    | refine wpAny_bind (wpAny_pure (wpAny_bind (wpAny_specialOf (name := Str.ofString "__len__") hT noLen_match ?_)))
  exact wpAny_pure h
end
end Mine
end
section
open PySem PySem.W PyProof.Rows
namespace Mine
theorem br_t {P Q : Prop} {b : Bool} (hb : b = true) (h : P) : if b = true then P else Q := by rw [if_pos hb]; exact h
theorem br_f {P Q : Prop} {b : Bool} (hb : b = false) (h : Q) : if b = true then P else Q := by rw [if_neg (by rw [hb]; exact Bool.false_ne_true)]; exact h
theorem kept_le {h : Heap} : KeptH (Le h) := fun _ _ e => fun b o q => Heap.get?_push_of_some _ (e b o q)
theorem le_push (h : Heap) (o : Obj) : Le h (h.push o) := fun _ _ e => Heap.get?_push_of_some _ e
section
variable {w : World} {A : Around} {E : Value → Shared → Prop} {s : Shared} {K : Heap} {env : Env}
/-- x[i:] of a text -/
theorem sub_str_from {value lo : Expr} {p pos : Pos} {Q : Value → Shared → Prop}
    (h : wpAny (model prg w) A (eval value env) (fun v s₁ => ∃ x t, v = .str x t ∧ x.length ≤ sizeLine ∧ wpAny (model prg w) A (eval lo env) (fun i s₂ => ∃ n u, i = .int n u ∧
      ∀ h' t' k, Le s₂.heap h' → Q (.str (Txt.slice x (some n) none) t') { s₂ with heap := h', toks := k }) E s₁) E s)
    (hs : ∀ o i, subscripted (.Slice (some lo) none none p) false o i = operate [i, o] (getItem o i) := by intro _ _; with_unfolding_all rfl)
    (ht : ∀ x t r, letTemporaryGo value (.str x t) r = pure () := by intro _ _ _; with_unfolding_all rfl) :
    wpAny (model prg w) A (eval (.Subscript value (.Slice (some lo) none none p) pos) env) Q E s := by
  refine Subscript_ (wpAny_mono h (fun v s₁ h₁ => ?_) fun _ _ e => e)
  obtain ⟨x, t, rfl, hsz, h₁⟩ := h₁
  refine wpAny_Slice (wpAny_evalPart_some (wpAny_mono h₁ (fun i s₂ h₂ => ?_) fun _ _ e => e))
  obtain ⟨n, u, rfl, h₂⟩ := h₂
  refine wpAny_evalPart_none (wpAny_evalPart_none ?_)
  exact tail_of_ItemOn (SBH.sliceItem_sn kept_le (Le.refl _) (fun h' t' k l => h₂ h' t' k l) hsz) (hs _ _) (ht _ _)
end
section
variable {M : Model} {A : Around} {E : Value → Shared → Prop} {s : Shared} {pos : Pos} {Q : Value → Shared → Prop}
theorem cw_m1 {id : String} {self : Value} {x : Sem Value} (h : wpAny M A x (fun v s₁ => wpAny M A (call (.builtin id) [self, v]) Q E s₁) E s) : wpAny M A (callWith pos (.builtin id) [self] [(false, x)] []) Q E s :=
  Calls.callWith_builtin rfl (Calls.evalArgs_plain (Calls.spliced_cons (wpAny_mono h (fun _ _ h₁ => Calls.spliced_nil h₁) fun _ _ e => e)))
theorem cw_m2 {id : String} {self : Value} {x y : Sem Value} (h : wpAny M A x (fun v s₁ => wpAny M A y (fun u s₂ => wpAny M A (call (.builtin id) [self, v, u]) Q E s₂) E s₁) E s) : wpAny M A (callWith pos (.builtin id) [self] [(false, x), (false, y)] []) Q E s :=
  Calls.callWith_builtin rfl (Calls.evalArgs_plain (Calls.spliced_cons (wpAny_mono h (fun _ _ h₁ => Calls.spliced_cons (wpAny_mono h₁ (fun _ _ h₂ => Calls.spliced_nil h₂) fun _ _ e => e)) fun _ _ e => e)))
end
section
variable {w : World} {A : Around} {E : Value → Shared → Prop} {s : Shared} {K : Heap} {n : Nat}
def edgeOk (x : Str) : Bool := (x != "") && (Txt.item x 0 != ".") && (Txt.item x (-1) != ".") && decide (0 < x.length) && decide (x.length ≤ 20)
theorem U_edge : U.all edgeOk = true := by decide +kernel
set_option maxHeartbeats 1000000 in
theorem spec_hdn {x : Str} {t : Tok} {Q : Value → Shared → Prop} (hA : AOk (n + 1) A) (hB : Base w K) (hle : Le K s.heap) (hx : x ∈ U)
    (h : ∀ h' tk, Le s.heap h' → Q (.bool (!sevenF x)) { s with heap := h', toks := tk }) :
    wpAny (model prg w) A (call (.ref 43) [.str x t]) Q E s := by
  have hU : edgeOk x = true := List.all_eq_true.mp U_edge x hx
  simp only [edgeOk, Bool.and_eq_true, bne_iff_ne, decide_eq_true_eq] at hU
  obtain ⟨⟨⟨⟨e1, e2⟩, e3⟩, e4⟩, e5⟩ := hU
  refine call_def (binds := [("text", .str x t)]) hA hB hle (hB.frag 43 _ rfl) rfl ⟨_, _, _, _, rfl, hB.frag 42 _ rfl, rfl, rfl⟩ rfl rfl rfl ?_
  intro h₁ tk hA' S₁
  refine wpAny_execs_cons (wpAny_If (wpAny_isTrue_value (Call_method1 rfl rfl rfl (x_global S₁.x rfl ?_))))
  refine ⟨"re.Pattern", "re.Pattern.search", pa_pat, slot_search, type_search, ⟨_, S₁.x.kh _ _ (hB.frag 36 _ rfl), rfl⟩, (fun a e => ⟨_, by cases e; exact S₁.x.kh _ _ (hB.frag 36 _ rfl), rfl⟩), ?_⟩
  refine cw_m1 (x_local S₁.x rfl (search_call hB S₁.x.kh hx (fun h7 a h' l ho => ?_) fun h7 => ?_))
  · refine truthy_match ho ?_
    refine wpAny_execs_cons (wpAny_Return_some (wpAny_Constant_bool ?_))
    have := h h' tk (S₁.base.trans l)
    rw [h7] at this
    exact this
  · refine truthy_none ?_
    refine wpAny_execs_nil ?_
    refine wpAny_execs_cons (wpAny_If (wpAny_isTrue_Compare1 (x_local S₁.x rfl (wpAny_Constant_str (eq_str ?_)))))
    have e1' : (x == Str.ofString "") = false := by simpa using e1
    rw [e1']
    refine wpAny_truthy_bool (wpAny_execs_nil ?_)
    refine wpAny_execs_cons (wpAny_If (wpAny_isTrue_BoolOp (wpAny_allTrue_Or_cons (wpAny_isTrue_Compare1 (Subscript_ (x_local S₁.x rfl (wpAny_Constant_int (item_str rfl (by omega) (by omega) ?_))))))))
    intro _
    refine wpAny_Constant_str (eq_str ?_)
    have e2' : (Txt.item x 0 == Str.ofString ".") = false := by simpa using e2
    rw [e2']
    refine wpAny_truthy_bool ?_
    refine wpAny_allTrue_Or_cons (wpAny_isTrue_Compare1 (Subscript_ (x_local S₁.x rfl (wpAny_UnaryOp (wpAny_Constant_int (neg_int (item_str rfl (by omega) (by omega) ?_)))))))
    intro _
    refine wpAny_Constant_str (eq_str ?_)
    have e3' : (Txt.item x (-1) == Str.ofString ".") = false := by simpa using e3
    rw [e3']
    refine wpAny_truthy_bool (wpAny_allTrue_Or_nil (wpAny_execs_nil ?_))
    refine wpAny_execs_cons (wpAny_Return_some (wpAny_Constant_bool ?_))
    have hb : ∀ tk', Q (.bool true) { s with heap := h₁, toks := tk' } := fun tk' => by have := h h₁ tk' S₁.base; rwa [h7] at this
    exact hb _
def tailF (x : Str) : Str := Txt.slice x (some (Txt.find x "." + 1)) none
def upF (x : Str) : Bool := !sevenF x && (decide (Txt.find (tailF x) "." ≥ 0) || tailF x == "local")
/-- what reach gives -/
def reachF (x : Str) : Str := if Txt.find x "." ≥ 0 then if upF x then "." ++ tailF x else x else x
set_option maxHeartbeats 1000000 in
theorem spec_reach {x : Str} {t : Tok} {Q : Value → Shared → Prop} (hA : AOk (n + 2) A) (hB : Base w K) (hle : Le K s.heap) (hx : x ∈ U)
    (h : ∀ h' tk t', Le s.heap h' → Q (.str (reachF x) t') { s with heap := h', toks := tk }) :
    wpAny (model prg w) A (call (.ref 50) [.str x t]) Q E s := by
  have hU : edgeOk x = true := List.all_eq_true.mp U_edge x hx
  simp only [edgeOk, Bool.and_eq_true, bne_iff_ne, decide_eq_true_eq] at hU
  obtain ⟨⟨⟨⟨e1, e2⟩, e3⟩, e4⟩, e5⟩ := hU
  refine call_def (binds := [("h", .str x t)]) hA hB hle (hB.frag 50 _ rfl) rfl ⟨_, _, _, _, rfl, hB.frag 49 _ rfl, rfl, rfl⟩ rfl rfl rfl ?_
  intro h₁ tk hA' S₁
  refine wpAny_execs_cons (wpAny_Assign_Name (Call_method1 rfl rfl rfl (x_local S₁.x rfl (SB.find (wpAny_Constant_str ⟨_, _, rfl, ?_⟩)))))
  refine st_local S₁ fun h₂ tk₂ S₂ => ?_
  refine wpAny_execs_cons (wpAny_If (wpAny_isTrue_Compare1 (x_local S₂.x rfl (wpAny_Constant_int (ge_int (wpAny_truthy_bool ?_))))))
  unfold reachF at h
  by_cases hi : Txt.find x "." ≥ 0
  · rw [if_pos hi] at h
    refine br_t (decide_eq_true hi) ?_
    have hbl : (tailF x).length ≤ 20 := Nat.le_trans (PyProof.Txt.length_slice_le x _ _) e5
    refine wpAny_execs_cons (wpAny_Assign_Name (sub_str_from (x_local S₂.x rfl ⟨_, _, rfl, by show _ ≤ 16777216; omega, wpAny_BinOp (x_local S₂.x rfl (wpAny_Constant_int (add_int ⟨_, _, rfl, fun h₃ t₃ k₃ l₃ => ?_⟩)))⟩)))
    refine st_local (S₂.more l₃) fun h₄ tk₄ S₄ => ?_
    refine wpAny_execs_cons (wpAny_Assign_Name (Call_method1 rfl rfl rfl (x_local S₄.x rfl (SB.find (wpAny_Constant_str ⟨_, _, rfl, ?_⟩)))))
    refine st_local S₄ fun h₅ tk₅ S₅ => ?_
    refine wpAny_execs_cons (wpAny_If (wpAny_isTrue_BoolOp (wpAny_allTrue_And_cons (wpAny_isTrue_value (Call_ (x_global S₅.x rfl (callWith_def rfl (spliced_more (x_local S₅.x rfl (spliced_none ⟨S₅.x.kh _ _ (hB.frag 43 _ rfl), ?_⟩))))))))))
    refine spec_hdn hA' hB S₅.x.kh hx fun h₆ tk₆ l₆ => wpAny_truthy_bool ?_
    have S₆ := S₅.more l₆
    have yes : upF x = true → ∀ tk' t', Q (.str ("." ++ tailF x) t') { s with heap := h₆, toks := tk' } := fun e tk' t' => by
      have := h h₆ tk' t' S₆.base
      rwa [if_pos e] at this
    have no : upF x = false → ∀ tk' t', Q (.str x t') { s with heap := h₆, toks := tk' } := fun e tk' t' => by
      have := h h₆ tk' t' S₆.base
      rwa [if_neg (by rw [e]; exact Bool.false_ne_true)] at this
    clear h
    by_cases h7 : sevenF x = true
    · refine br_f (by rw [h7]; rfl) ?_
      refine br_f rfl (wpAny_execs_nil (wpAny_execs_nil (wpAny_execs_cons (wpAny_Return_some (x_local S₆.x rfl ?_)))))
      exact no (by unfold upF; rw [h7]; rfl) _ _
    · have h7 : sevenF x = false := by simpa using h7
      refine br_t (by rw [h7]; rfl) ?_
      refine wpAny_allTrue_And_cons (wpAny_isTrue_BoolOp (wpAny_allTrue_Or_cons (wpAny_isTrue_Compare1 (x_local S₆.x rfl (wpAny_Constant_int (ge_int (wpAny_truthy_bool ?_)))))))
      by_cases hj : Txt.find (tailF x) "." ≥ 0
      · refine br_t (decide_eq_true hj) (br_t rfl (wpAny_allTrue_And_nil (br_t rfl ?_)))
        refine wpAny_execs_cons (wpAny_Return_some (wpAny_BinOp (wpAny_Constant_str (x_local S₆.x rfl (SB.add (fun t' k => ?_) (by show 1 + (tailF x).length ≤ 16777216; omega))))))
        exact yes (by unfold upF; rw [h7, decide_eq_true hj]; rfl) _ _
      · refine br_f (decide_eq_false hj) ?_
        refine wpAny_allTrue_Or_cons (wpAny_isTrue_Compare1 (x_local S₆.x rfl (wpAny_Constant_str (eq_str (wpAny_truthy_bool ?_)))))
        by_cases hl : (tailF x == Str.ofString "local") = true
        · refine br_t hl (br_t rfl (wpAny_allTrue_And_nil (br_t rfl ?_)))
          refine wpAny_execs_cons (wpAny_Return_some (wpAny_BinOp (wpAny_Constant_str (x_local S₆.x rfl (SB.add (fun t' k => ?_) (by show 1 + (tailF x).length ≤ 16777216; omega))))))
          exact yes (by unfold upF; rw [h7, hl]; simp) _ _
        · have hl : (tailF x == Str.ofString "local") = false := by simpa using hl
          refine br_f hl (wpAny_allTrue_Or_nil (br_f rfl (br_f rfl (wpAny_execs_nil (wpAny_execs_nil (wpAny_execs_cons (wpAny_Return_some (x_local S₆.x rfl ?_))))))))
          exact no (by unfold upF; rw [h7, hl, decide_eq_false hj]; rfl) _ _
  · rw [if_neg hi] at h
    refine br_f (decide_eq_false hi) ?_
    refine wpAny_execs_nil (wpAny_execs_cons (wpAny_Return_some (x_local S₂.x rfl ?_)))
    exact h _ _ _ S₂.base
end
end Mine
end
section
open PySem PySem.W PyProof.Rows
namespace Mine
inductive Rel2 {α β : Type} (P : α → β → Prop) : List α → List β → Prop
  | nil : Rel2 P [] []
  | cons {a : α} {b : β} {as : List α} {bs : List β} : P a b → Rel2 P as bs → Rel2 P (a :: as) (b :: bs)
section
variable {α β : Type} {P Q : α → β → Prop}
theorem Rel2.length {as : List α} {bs : List β} (h : Rel2 P as bs) : as.length = bs.length := by
  induction h with
  | nil => rfl
  | cons _ _ ih => simp [ih]
theorem Rel2.mono {as : List α} {bs : List β} (h : Rel2 P as bs) (f : ∀ a b, P a b → Q a b) : Rel2 Q as bs := by
  induction h with
  | nil => exact .nil
  | cons h _ ih => exact .cons (f _ _ h) ih
theorem Rel2.append {as as' : List α} {bs bs' : List β} (h : Rel2 P as bs) (h' : Rel2 P as' bs') : Rel2 P (as ++ as') (bs ++ bs') := by
  induction h with
  | nil => exact h'
  | cons h _ ih => exact .cons h ih
theorem Rel2.get {as : List α} {bs : List β} (h : Rel2 P as bs) {i : Nat} {a : α} (e : as[i]? = some a) : ∃ b, bs[i]? = some b ∧ P a b := by
  induction h generalizing i with
  | nil => simp at e
  | cons h _ ih =>
    cases i with
    | zero => simp at e; subst e; exact ⟨_, by simp, h⟩
    | succ i => simp at e; simpa using ih e
theorem Rel2.get' {as : List α} {bs : List β} (h : Rel2 P as bs) {i : Nat} {b : β} (e : bs[i]? = some b) : ∃ a, as[i]? = some a ∧ P a b := by
  induction h generalizing i with
  | nil => simp at e
  | cons h _ ih =>
    cases i with
    | zero => simp at e; subst e; exact ⟨_, by simp, h⟩
    | succ i => simp at e; simpa using ih e
theorem Rel2.drop {as : List α} {bs : List β} (h : Rel2 P as bs) (n : Nat) : Rel2 P (as.drop n) (bs.drop n) := by
  induction h generalizing n with
  | nil => simpa using Rel2.nil
  | cons h hr ih =>
    cases n with
    | zero => exact .cons h hr
    | succ n => simpa using ih n
theorem Rel2.take {as : List α} {bs : List β} (h : Rel2 P as bs) (n : Nat) : Rel2 P (as.take n) (bs.take n) := by
  induction h generalizing n with
  | nil => simpa using Rel2.nil
  | cons h hr ih =>
    cases n with
    | zero => simpa using Rel2.nil
    | succ n => simpa using Rel2.cons h (ih n)
end
def IsS (v : Value) (x : Str) : Prop := ∃ t, v = .str x t
def IsI (v : Value) (i : Int) : Prop := ∃ t, v = .int i t
def listO (vs : List Value) : Obj → Prop := fun o => ∃ n, o = { cls := .type "list", data := .seq vs.toArray n }
theorem plain_of {h : Heap} {a : Addr} {vs : List Value} (x : ∃ o, h.get? a = some o ∧ listO vs o) : h.PlainList a vs.toArray := by
  obtain ⟨o, e, n, rfl⟩ := x
  exact ⟨n, e⟩
theorem of_plain {h : Heap} {a : Addr} {vs : List Value} (x : h.PlainList a vs.toArray) : ∃ o, h.get? a = some o ∧ listO vs o := by
  obtain ⟨n, e⟩ := x
  exact ⟨_, e, n, rfl⟩
theorem pl_le {h h' : Heap} {a : Addr} {vs : Array Value} (x : h.PlainList a vs) (l : Le h h') : h'.PlainList a vs := x.at fun o e => l _ _ e
def TurnPost (Q : Flow → Shared → Prop) (J : Heap → (Str → Option Value) → (Str → Option Value) → OwnL → Prop) (oc : Bool) (w : World) (h₀ Kb : Heap) (env : Env) (K : Heap) (R : OwnL) (s : Shared) (f : Flow) (s₃ : Shared) : Prop :=
  match f with
  | .next | .cont => ∃ h' tk' K' m' cm' own', s₃ = { s with heap := h', toks := tk' } ∧ Le K K' ∧ J K' m' cm' own' ∧ S oc w h₀ Kb env K' m' cm' (own' ++ R) h'
  | .brk => Q .next s₃
  | .ret v => Q (.ret v) s₃
def exact1 (h : Heap) (wr : List Addr) : OwnL := wr.map fun b => (b, fun o => h.get? b = some o)
def any1 (wr : List Addr) : OwnL := wr.map fun b => (b, fun _ => True)
theorem exact1_fst (h : Heap) (wr : List Addr) : (exact1 h wr).map (·.1) = wr := by simp [exact1, Function.comp_def]
theorem any1_fst (wr : List Addr) : (any1 wr).map (·.1) = wr := by simp [any1, Function.comp_def]
section
variable {oc : Bool} {w : World} {A : Around} {E : Value → Shared → Prop} {s : Shared} {K Kb h₀ : Heap} {env : Env} {m cm : Str → Option Value} {own : OwnL}
/-- a for loop, by what holds between its turns -/
theorem for_walk {target : Expr} {body orelse : List Stmt} {I : Addr} {fp wr : List Addr} {n : Nat} {P : Nat → Value → Prop} {St : Nat → Heap → Prop} {R₀ : Result → Shared → Prop}
    (W : Walks prg w A I fp wr n P St) (hob : ∀ i h, St i h → ∀ b ∈ wr, ∃ o, h.get? b = some o) (hfp : ∀ b ∈ fp, b ∈ wr ∨ ∃ o, K.get? b = some o)
    (hgo : ∀ i (s' : Shared) v (Q' : Unit → Shared → Prop) E', St i s'.heap → Q' () s' → wpAny (model prg w) A (letOwnedTupleGo target (.ref I) v) Q' E' s')
    (J : Nat → Heap → (Str → Option Value) → (Str → Option Value) → OwnL → Prop) (S₀ : S oc w h₀ Kb env K m cm (own ++ any1 wr) s.heap) (st : St 0 s.heap) (h0 : J 0 K m cm own)
    (turn : ∀ i v K₁ m₁ cm₁ own₁ R h tk E', i < n → P i v → Le K K₁ → J i K₁ m₁ cm₁ own₁ → S oc w h₀ Kb env K₁ m₁ cm₁ (own₁ ++ R) h →
      wpAny (model prg w) A (assign target env v) (fun _ s₂ => wpAny (model prg w) A (execs body env) (TurnPost (fun f s' => R₀ (.ok f) s') (J (i + 1)) oc w h₀ Kb env K₁ R s) E' s₂) E' { s with heap := h, toks := tk })
    (done : ∀ K₁ m₁ cm₁ own₁ h tk E', Le K K₁ → J n K₁ m₁ cm₁ own₁ → S oc w h₀ Kb env K₁ m₁ cm₁ own₁ h → wpAny (model prg w) A (execs orelse env) (fun f s' => R₀ (.ok f) s') E' { s with heap := h, toks := tk }) :
    codeAny (model prg w) A (.forLoop target (.ref I) body orelse env) R₀ s := by
  refine codeAny_forLoop_any
    (fun k s' => ∃ i h' tk' K' m' cm' own', s' = { s with heap := h', toks := tk' } ∧ i ≤ n ∧ k = n + 1 - i ∧ Le K K' ∧ J i K' m' cm' own' ∧ S oc w h₀ Kb env K' m' cm' (own' ++ any1 wr) h' ∧ St i h') ?_ (n + 1)
    ⟨0, s.heap, s.toks, K, m, cm, own, rfl, Nat.zero_le _, rfl, Le.refl _, h0, S₀, st⟩
  rintro k s' ⟨i, h', tk', K', m', cm', own', rfl, hi, rfl, hK, hJ, S', st'⟩
  by_cases hlt : i < n
  · refine W.item i _ _ _ hlt st' fun v h₁ tk₁ hP st₁ up => ?_
    have S₁ : S oc w h₀ Kb env K' m' cm' (own' ++ exact1 h₁ wr) h₁ := by
      refine S'.updAll (by rw [exact1_fst, any1_fst]) (fun p hp => ?_) (fun b o hb e => up b o (by rwa [any1_fst] at hb) e)
      obtain ⟨b, hb, rfl⟩ := List.mem_map.mp hp
      obtain ⟨o, e⟩ := hob _ _ st₁ b hb
      exact ⟨o, e, e⟩
    have fin : ∀ s₃, (∃ h' tk' K₂ m' cm' own', s₃ = { s with heap := h', toks := tk' } ∧ Le K' K₂ ∧ J (i + 1) K₂ m' cm' own' ∧ S oc w h₀ Kb env K₂ m' cm' (own' ++ exact1 h₁ wr) h') →
        ∃ m, m < n + 1 - i ∧ ∃ i h' tk' K' m' cm' own', s₃ = { s with heap := h', toks := tk' } ∧ i ≤ n ∧ m = n + 1 - i ∧ Le K K' ∧ J i K' m' cm' own' ∧ S oc w h₀ Kb env K' m' cm' (own' ++ any1 wr) h' ∧ St i h' := by
      rintro s₃ ⟨h₂, tk₂, K₂, m₂, cm₂, own₂, rfl, hK₂, hJ₂, S₂⟩
      refine ⟨n + 1 - (i + 1), by omega, i + 1, h₂, tk₂, K₂, m₂, cm₂, own₂, rfl, hlt, rfl, hK.trans hK₂, hJ₂, ?_, ?_⟩
      · refine S₂.updAll (by rw [exact1_fst, any1_fst]) (fun p hp => ?_) (fun b o hb e => e)
        obtain ⟨b, hb, rfl⟩ := List.mem_map.mp hp
        obtain ⟨⟨o, e, _⟩, _⟩ := S₂.has (b, _) (List.mem_append_right _ (List.mem_map.mpr ⟨b, hb, rfl⟩))
        exact ⟨o, e, trivial⟩
      · refine W.frame _ _ _ st₁ fun b hb o e => ?_
        rcases hfp b hb with hb | ⟨o', e'⟩
        · obtain ⟨⟨o₂, e₂, q⟩, _⟩ := S₂.has (b, _) (List.mem_append_right _ (List.mem_map.mpr ⟨b, hb, rfl⟩))
          have q' : h₁.get? b = some o₂ := q
          rw [e] at q'
          cases q'
          exact e₂
        · have e1 := S₁.x.kh _ _ (hK _ _ e')
          rw [e] at e1
          cases e1
          exact S₂.x.kh _ _ (hK₂ _ _ (hK _ _ e'))
    dsimp only
    refine hgo (i + 1) _ v _ _ st₁ ?_
    refine wpAny_mono (turn i v K' m' cm' own' (exact1 h₁ wr) h₁ tk₁ _ hlt hP hK hJ S₁) (fun _ s₂ q => wpAny_mono q (fun f s₃ p => ?_) fun _ _ e => e) fun _ _ e => e
    cases f with
    | ret v => exact p
    | brk => exact p
    | next => exact fin _ p
    | cont => exact fin _ p
  · have hin : i = n := by omega
    subst hin
    refine W.done _ _ _ st' fun h₁ tk₁ up => ?_
    dsimp only
    exact done K' m' cm' own' h₁ tk₁ _ hK hJ (S'.dropAll fun b o hb e => up b o (by rwa [any1_fst] at hb) e)
end
end Mine
end
section
open PySem PySem.W PyProof.Rows
namespace Mine
theorem none_size (h : Heap) : h.get? h.objs.size = none := by
  cases q : h.get? h.objs.size with
  | none => rfl
  | some o => exact absurd (Heap.lt_size q) (Nat.lt_irrefl _)
/-- one new object of the heap goes into the kept part -/
theorem Grown.one {K h h' : Heap} {a : Addr} {o : Obj} (x : Le K h) (g : Le h h') (f : h.get? a = none) (e : h'.get? a = some o) : ∃ K', Grown K h K' h' ∧ K'.get? a = some o := by
  have x' := x.trans g
  have aK : K.get? a = none := x.none f
  have G : ∀ b, (freeze K h' a).get? b = if b = a then some o else K.get? b := fun b => by rw [freeze_get x']; split <;> simp [e]
  refine ⟨freeze K h' a, ⟨g, fun b o' e' => ?_, fun b o' e' => ?_, fun b o' e' n => ?_⟩, by rw [G, if_pos rfl]⟩
  · rw [G]; split
    · rename_i q; rw [q, aK] at e'; cases e'
    · exact e'
  · rw [G] at e'; split at e'
    · rename_i q; rw [q, ← e']; exact e
    · exact x' _ _ e'
  · rw [G] at e'; split at e'
    · rename_i q; rw [q]; exact f
    · rw [n] at e'; cases e'
theorem Grown.push {K h : Heap} (x : Le K h) (o : Obj) (hf : o.isFreed = false) : ∃ K', Grown K h K' (h.push o) ∧ K'.get? h.objs.size = some o :=
  Grown.one x (le_push h o) (none_size h) (Heap.get?_push_size _ hf)
def tupO (vs : List Value) : Obj → Prop := fun o => ∃ n, o = { cls := .type "tuple", data := .seq vs.toArray n }
def Tup (h : Heap) (a : Addr) (vs : List Value) : Prop := ∃ n, h.get? a = some { cls := .type "tuple", data := .seq vs.toArray n }
theorem Tup.isTup {h : Heap} {a : Addr} {vs : List Value} (x : Tup h a vs) : IsTup h a vs.toArray := let ⟨n, e⟩ := x; ⟨_, e, rfl, n, rfl⟩
theorem Tup.le {h h' : Heap} {a : Addr} {vs : List Value} (x : Tup h a vs) (l : Le h h') : Tup h' a vs := let ⟨n, e⟩ := x; ⟨n, l _ _ e⟩
theorem strsAre {vs : List Value} {xs : List Str} (h : Rel2 IsS vs xs) : StrsAre vs xs := by
  induction h with
  | nil => exact .nil
  | cons h _ ih => obtain ⟨t, rfl⟩ := h; exact .cons _ t ih
theorem intsAre {vs : List Value} {xs : List Int} (h : IntsAre vs xs) : Rel2 IsI vs xs := by
  induction h with
  | nil => exact .nil
  | cons n t _ ih => exact .cons ⟨_, rfl⟩ ih
section
variable {w : World} {A : Around} {E : Value → Shared → Prop} {s : Shared} {K : Heap} {env : Env}
theorem nl {vs : List Value} {Q : Value → Shared → Prop} (h : ∀ h', Le s.heap h' → h'.PlainList s.heap.objs.size vs.toArray → Q (.ref s.heap.objs.size) { s with heap := h' }) (hsz : vs.length ≤ sizeLine := by size_fits) :
    wpAny (model prg w) A (newList vs) Q E s :=
  wpAny_newObj_type (h _ (le_push _ _) ⟨0, Heap.get?_push_size _ rfl⟩) (by show vs.toArray.size ≤ sizeLine; rw [List.size_toArray]; exact hsz)
theorem nlK {vs : List Value} {Q : Value → Shared → Prop} (x : Le K s.heap) (h : ∀ a h' K', Grown K s.heap K' h' → K'.PlainList a vs.toArray → K.get? a = none → Q (.ref a) { s with heap := h' }) (hsz : vs.length ≤ sizeLine := by size_fits) :
    wpAny (model prg w) A (newList vs) Q E s := by
  refine wpAny_newObj_type ?_ (by show vs.toArray.size ≤ sizeLine; rw [List.size_toArray]; exact hsz)
  obtain ⟨K', g, e⟩ := Grown.push x { cls := .type "list", data := .seq vs.toArray } rfl
  exact h _ _ K' g ⟨0, e⟩ (x.none (none_size _))
theorem ntK {vs : List Value} {Q : Value → Shared → Prop} (x : Le K s.heap) (h : ∀ a h' K', Grown K s.heap K' h' → Tup K' a vs → Q (.ref a) { s with heap := h' }) (hsz : vs.length ≤ sizeLine := by size_fits) :
    wpAny (model prg w) A (newTuple vs) Q E s := by
  refine wpAny_newObj_type ?_ (by show vs.toArray.size ≤ sizeLine; rw [List.size_toArray]; exact hsz)
  obtain ⟨K', g, e⟩ := Grown.push x { cls := .type "tuple", data := .seq vs.toArray } rfl
  exact h _ _ K' g ⟨0, e⟩
/-- xs[k] -/
theorem item_l {value slice : Expr} {l : Addr} {vs : List Value} {k : Int} {u : Tok} {v : Value} {Q : Value → Shared → Prop} (hl : s.heap.PlainList l vs.toArray) (h0 : 0 ≤ k) (hf : k < 2 ^ 63) (hx : vs[k.toNat]? = some v) (h : Q v s)
    (hs : subscripted slice false (.ref l) (.int k u) = operate [.ref l, .int k u] (getItem (.ref l) (.int k u)) := by with_unfolding_all rfl) :
    wpAny (model prg w) A (subscriptTail value slice (.ref l) (.int k u)) Q E s :=
  tail_any hl.isList.typeIs slot_list_getitem.lookup (wpAny_getItem_list hl.isList h0 hf (by simpa using hx) h) hs
/-- xs[-1] -/
theorem item_last {value slice : Expr} {l : Addr} {vs : List Value} {u : Tok} {v : Value} {Q : Value → Shared → Prop} (hl : s.heap.PlainList l vs.toArray) (hx : vs.getLast? = some v) (h : Q v s)
    (hs : subscripted slice false (.ref l) (.int (-1) u) = operate [.ref l, .int (-1) u] (getItem (.ref l) (.int (-1) u)) := by with_unfolding_all rfl) :
    wpAny (model prg w) A (subscriptTail value slice (.ref l) (.int (-1) u)) Q E s := by
  have hne : vs ≠ [] := by rintro rfl; cases hx
  have hlen : 0 < vs.length := List.length_pos_iff.mpr hne
  refine tail_any hl.isList.typeIs slot_list_getitem.lookup (wpAny_getItem_list_neg hl.isList (by decide) (by rw [List.size_toArray]; omega) (by decide) ?_ h) hs
  rw [List.size_toArray, show ((-1 : Int) + (vs.length : Int)).toNat = vs.length - 1 by omega]
  rw [List.getLast?_eq_getElem?] at hx
  simpa using hx
/-- xs[k:] -/
theorem sub_list_from {value : Expr} {p q pos : Pos} {k : Nat} {kk : Nat} {Q : Value → Shared → Prop}
    (h : wpAny (model prg w) A (eval value env) (fun v s₁ => ∃ (l : Addr) (vs : List Value) (K : Heap), v = .ref l ∧ s₁.heap.PlainList l vs.toArray ∧ Le K s₁.heap ∧ vs.length ≤ sizeLine ∧
      ∀ a h' K' tk, Grown K s₁.heap K' h' → K'.PlainList a (vs.drop k).toArray → K.get? a = none → Q (.ref a) { s₁ with heap := h', toks := tk }) E s)
    (hs : ∀ o i, subscripted (.Slice (some (.Constant (.int k) kk p)) none none q) false o i = operate [i, o] (getItem o i) := by intro _ _; with_unfolding_all rfl) :
    wpAny (model prg w) A (eval (.Subscript value (.Slice (some (.Constant (.int k) kk p)) none none q) pos) env) Q E s := by
  refine Subscript_ (wpAny_mono h (fun v s₁ h₁ => ?_) fun _ _ e => e)
  obtain ⟨l, vs, K, rfl, hl, hK, hsz, h₁⟩ := h₁
  refine wpAny_Slice (wpAny_evalPart_some (wpAny_Constant_int (wpAny_evalPart_none (wpAny_evalPart_none ?_))))
  have l1 : Le s₁.heap (s₁.heap.push { cls := .type "slice", data := .fields #[.int (k : Int) s₁.toks, .none, .none] }) := le_push _ _
  have hl' := pl_le hl l1
  refine tail_any (id := "list.__getitem__") hl'.isList.typeIs slot_list_getitem.lookup (wpAny_getItem_list_slice hl'.isList ⟨_, Heap.get?_push_size _ rfl, rfl, rfl⟩ (lo := some (k : Int)) (hi := none) (st := none) (IsPart.int _ _) IsPart.none IsPart.none (by simp) ?_ (by simpa using hsz)) (hs _ _)
  rw [slicePick_from']
  obtain ⟨K', g, e⟩ := Grown.push (hK.trans l1) { cls := .type "list", data := .seq (vs.drop k).toArray } rfl
  exact h₁ _ _ K' _ ((Grown.more hK l1).trans g) ⟨0, e⟩ (hK.none (l1.none (none_size _)))
/-- xs[:k] -/
theorem sub_list_upto {value : Expr} {p q pos : Pos} {k : Nat} {kk : Nat} {Q : Value → Shared → Prop}
    (h : wpAny (model prg w) A (eval value env) (fun v s₁ => ∃ (l : Addr) (vs : List Value) (K : Heap), v = .ref l ∧ s₁.heap.IsList l vs.toArray ∧ Le K s₁.heap ∧ vs.length ≤ sizeLine ∧
      ∀ a h' K' tk, Grown K s₁.heap K' h' → K'.PlainList a (vs.take k).toArray → K.get? a = none → Q (.ref a) { s₁ with heap := h', toks := tk }) E s)
    (hs : ∀ o i, subscripted (.Slice none (some (.Constant (.int k) kk p)) none q) false o i = operate [i, o] (getItem o i) := by intro _ _; with_unfolding_all rfl) :
    wpAny (model prg w) A (eval (.Subscript value (.Slice none (some (.Constant (.int k) kk p)) none q) pos) env) Q E s := by
  refine Subscript_ (wpAny_mono h (fun v s₁ h₁ => ?_) fun _ _ e => e)
  obtain ⟨l, vs, K, rfl, hl, hK, hsz, h₁⟩ := h₁
  refine wpAny_Slice (wpAny_evalPart_none (wpAny_evalPart_some (wpAny_Constant_int (wpAny_evalPart_none ?_))))
  have l1 : Le s₁.heap (s₁.heap.push { cls := .type "slice", data := .fields #[.none, .int (k : Int) s₁.toks, .none] }) := le_push _ _
  have hl' := hl.at (h' := s₁.heap.push { cls := .type "slice", data := .fields #[.none, .int (k : Int) s₁.toks, .none] }) fun o e => l1 _ _ e
  refine tail_any (id := "list.__getitem__") hl'.typeIs slot_list_getitem.lookup (wpAny_getItem_list_slice hl' ⟨_, Heap.get?_push_size _ rfl, rfl, rfl⟩ (lo := none) (hi := some (k : Int)) (st := none) IsPart.none (IsPart.int _ _) IsPart.none (by simp) ?_ (by simpa using hsz)) (hs _ _)
  rw [slicePick_upto']
  obtain ⟨K', g, e⟩ := Grown.push (hK.trans l1) { cls := .type "list", data := .seq (vs.take k).toArray } rfl
  exact h₁ _ _ K' _ ((Grown.more hK l1).trans g) ⟨0, e⟩ (hK.none (l1.none (none_size _)))
/-- x in xs, over texts -/
theorem in_l {l : Addr} {vs : List Value} {ys : List Str} {x : Str} {t : Tok} {Q : Value → Shared → Prop} (hl : s.heap.PlainList l vs.toArray) (hi : Rel2 IsS vs ys) (h : Q (.bool (decide (x ∈ ys))) s) :
    wpAny (model prg w) A (compareOp .In (.str x t) (.ref l)) Q E s := by
  refine in_list_strs hl.isList (strsAre hi) ?_
  have : ys.any (· == x) = decide (x ∈ ys) := by rw [Bool.eq_iff_iff]; simp
  rw [this]; exact h
theorem notin_l {l : Addr} {vs : List Value} {ys : List Str} {x : Str} {t : Tok} {Q : Value → Shared → Prop} (hl : s.heap.PlainList l vs.toArray) (hi : Rel2 IsS vs ys) (h : Q (.bool (!decide (x ∈ ys))) s) :
    wpAny (model prg w) A (compareOp .NotIn (.str x t) (.ref l)) Q E s := by
  refine notin_list_strs hl.isList (strsAre hi) ?_
  have : ys.any (· == x) = decide (x ∈ ys) := by rw [Bool.eq_iff_iff]; simp
  rw [this]; exact h
/-- xs + ys -/
theorem add_l {l b : Addr} {vs ws : List Value} {Q : Value → Shared → Prop} (hK : Le K s.heap) (hl : s.heap.PlainList l vs.toArray) (hb : s.heap.PlainList b ws.toArray)
    (h : ∀ a h' K', Grown K s.heap K' h' → K'.PlainList a (vs ++ ws).toArray → K.get? a = none → Q (.ref a) { s with heap := h' }) (hsz : vs.length + ws.length ≤ sizeLine := by size_fits) :
    wpAny (model prg w) A (binaryOp .Add (.ref l) (.ref b)) Q E s := by
  obtain ⟨n, ho⟩ := hl
  obtain ⟨n2, ho2⟩ := hb
  have e : vs.toArray ++ ws.toArray = (vs ++ ws).toArray := by simp
  refine concat_meets ⟨_, ho, rfl⟩ ⟨_, ho2, rfl⟩ noFill_list_add seq_list_add PySem.F.slot_list_add PySem.F.entry_list_add (PySem.F.args_list_add_2 _ _) (list_addW l b vs.toArray ws.toArray n n2 none none #[] #[] (by simpa using hsz)) ⟨ho, ho2, ?_⟩
  rw [e]
  obtain ⟨K', g, e'⟩ := Grown.push hK { cls := .type "list", data := .seq (vs ++ ws).toArray } rfl
  exact h _ _ K' g ⟨0, e'⟩ (hK.none (none_size _))
theorem truthy_l {l : Addr} {vs : List Value} {Q : Bool → Shared → Prop} (hl : s.heap.PlainList l vs.toArray) (hf : vs.length ≤ sizeLine) (h : ∀ tk, Q (!vs.isEmpty) { s with toks := tk }) : wpAny (model prg w) A (truthy (.ref l)) Q E s := by
  refine wpAny_truthy_list hl.isList ?_ ?_
  · have h1 : vs.length ≤ 16777216 := hf
    rw [List.size_toArray]; omega
  · have : (!vs.toArray.isEmpty) = !vs.isEmpty := by simp
    rw [this]; exact h _
theorem len_l {l : Addr} {vs : List Value} {Q : Value → Shared → Prop} (hl : s.heap.PlainList l vs.toArray) (hf : vs.length ≤ sizeLine) (h : ∀ tk t, Q (.int vs.length t) { s with toks := tk }) : wpAny (model prg w) A (call (.builtin "len") [.ref l]) Q E s := by
  refine len_list hl.isList ?_ ?_
  · have h1 : vs.length ≤ 16777216 := hf
    rw [List.size_toArray]; omega
  · rw [List.size_toArray]; exact h _ _
end
end Mine
end
section
open PySem PySem.W PyProof.Rows
namespace Mine
section
variable {oc : Bool} {w : World} {A : Around} {E : Value → Shared → Prop} {s : Shared} {K Kb h₀ : Heap} {env : Env} {m cm : Str → Option Value} {own : OwnL}
theorem letGo_plain {target : Expr} {I : Addr} {v : Value} {Q : Unit → Shared → Prop} {o : Obj} {T : String} (ho : s.heap.get? I = some o) (hc : o.cls = .type T)
    (hT : ["enumerate", "zip", "dict_itemiterator", "dict_reverseitemiterator", "odict_iterator", "itertools.zip_longest", "itertools.pairwise"].contains T = false) (h : Q () s) :
    wpAny (model prg w) A (letOwnedTupleGo target (.ref I) v) Q E s := by
  have key : ∀ a, wpAny (model prg w) A (do
      let o ← load I
      match o.cls, o.data with
      | .type n, .fields vs =>
        if ["enumerate", "zip", "dict_itemiterator", "dict_reverseitemiterator", "odict_iterator", "itertools.zip_longest", "itertools.pairwise"].contains n && vs[0]? == some (rawInt a) then
          rule "for.unpacks-the-owned-tuple"
          updateField I 0 .none
      | _, _ => pure ()) Q E s := by
    intro a
    refine wpAny_bind (wpAny_load ho ?_)
    rw [hc]
    split
    · rename_i n vs e1 e2
      cases e1
      rw [hT, Bool.false_and]
      exact wpAny_pure h
    · exact wpAny_pure h
  unfold letOwnedTupleGo
  split
  · cases v <;> first | exact key _ | exact wpAny_pure h
  · cases v <;> first | exact key _ | exact wpAny_pure h
  · exact wpAny_pure h
theorem own_any {a : Addr} {P : Obj → Prop} (x : S oc w h₀ Kb env K m cm ((a, P) :: own) s.heap) : S oc w h₀ Kb env K m cm (own ++ any1 [a]) s.heap := by
  have y : S oc w h₀ Kb env K m cm ((a, fun _ => True) :: own) s.heap := S.weaker (l₁ := []) x fun _ _ => trivial
  refine y.perm ?_
  show (own ++ [(a, fun _ => True)]).Perm _
  exact List.perm_append_comm
/-- for over a list of the kept part -/
theorem iter_list {target : Expr} {body orelse : List Stmt} {l : Addr} {vs : List Value} {R₀ : Result → Shared → Prop} (hh : A.handled = none) (S₀ : S oc w h₀ Kb env K m cm own s.heap) (hl : K.PlainList l vs.toArray)
    (J : Nat → Heap → (Str → Option Value) → (Str → Option Value) → OwnL → Prop) (h0 : J 0 K m cm own)
    (turn : ∀ i v K₁ m₁ cm₁ own₁ R h tk E', vs[i]? = some v → Le K K₁ → J i K₁ m₁ cm₁ own₁ → S oc w h₀ Kb env K₁ m₁ cm₁ (own₁ ++ R) h →
      wpAny (model prg w) A (assign target env v) (fun _ s₂ => wpAny (model prg w) A (execs body env) (TurnPost (fun f s' => R₀ (.ok f) s') (J (i + 1)) oc w h₀ Kb env K₁ R s) E' s₂) E' { s with heap := h, toks := tk })
    (done : ∀ K₁ m₁ cm₁ own₁ h tk E', Le K K₁ → J vs.length K₁ m₁ cm₁ own₁ → S oc w h₀ Kb env K₁ m₁ cm₁ own₁ h → wpAny (model prg w) A (execs orelse env) (fun f s' => R₀ (.ok f) s') E' { s with heap := h, toks := tk }) :
    wpAny (model prg w) A (pyIter (.ref l)) (fun it s₂ => codeAny (model prg w) A (.forLoop target it body orelse env) R₀ s₂) E s := by
  have hl' := pl_le hl S₀.x.kh
  obtain ⟨n, hk⟩ := id hl
  refine wpAny_pyIter_list hl'.isList ?_
  have hne : l ≠ s.heap.objs.size := Nat.ne_of_lt (Heap.lt_size (S₀.x.kh _ _ hk))
  have S₁ := S₀.push (a := s.heap.objs.size) (P := fun _ => True) (le_push s.heap { cls := .type "list_iterator", data := .fields #[.ref l, .int 0 0] }) ⟨_, Heap.get?_push_size _ rfl, trivial⟩ (none_size _)
  refine for_walk (own := own) (Walks.list hh s.heap.objs.size l hne vs.toArray) ?_ ?_ ?_ J (own_any S₁) ⟨⟨_, Heap.get?_push_size _ rfl, rfl, rfl⟩, hl'.isList.at fun o e => Heap.get?_push_of_some _ e⟩ h0 ?_ ?_
  · rintro i h ⟨⟨o, e, _⟩, _⟩ b hb
    cases List.mem_singleton.mp hb
    exact ⟨o, e⟩
  · intro b hb
    rcases List.mem_cons.mp hb with rfl | hb
    · exact .inl List.mem_cons_self
    · cases List.mem_singleton.mp hb
      exact .inr ⟨_, hk⟩
  · rintro i s' v Q' E' ⟨⟨o, e, hc, _⟩, _⟩ h
    exact letGo_plain e hc (by decide) h
  · intro i v K₁ m₁ cm₁ own₁ R h tk E' hi hv hK hJ S'
    exact turn i v K₁ m₁ cm₁ own₁ R h tk E' (by simpa using hv) hK hJ S'
  · intro K₁ m₁ cm₁ own₁ h tk E' hK hJ S'
    exact done K₁ m₁ cm₁ own₁ h tk E' hK (by simpa using hJ) S'
/-- for over a tuple of the kept part -/
theorem iter_tup {target : Expr} {body orelse : List Stmt} {l : Addr} {vs : List Value} {R₀ : Result → Shared → Prop} (hh : A.handled = none) (S₀ : S oc w h₀ Kb env K m cm own s.heap) (hl : Tup K l vs)
    (J : Nat → Heap → (Str → Option Value) → (Str → Option Value) → OwnL → Prop) (h0 : J 0 K m cm own)
    (turn : ∀ i v K₁ m₁ cm₁ own₁ R h tk E', vs[i]? = some v → Le K K₁ → J i K₁ m₁ cm₁ own₁ → S oc w h₀ Kb env K₁ m₁ cm₁ (own₁ ++ R) h →
      wpAny (model prg w) A (assign target env v) (fun _ s₂ => wpAny (model prg w) A (execs body env) (TurnPost (fun f s' => R₀ (.ok f) s') (J (i + 1)) oc w h₀ Kb env K₁ R s) E' s₂) E' { s with heap := h, toks := tk })
    (done : ∀ K₁ m₁ cm₁ own₁ h tk E', Le K K₁ → J vs.length K₁ m₁ cm₁ own₁ → S oc w h₀ Kb env K₁ m₁ cm₁ own₁ h → wpAny (model prg w) A (execs orelse env) (fun f s' => R₀ (.ok f) s') E' { s with heap := h, toks := tk }) :
    wpAny (model prg w) A (pyIter (.ref l)) (fun it s₂ => codeAny (model prg w) A (.forLoop target it body orelse env) R₀ s₂) E s := by
  have hl' : s.heap.IsTuple l vs.toArray := (hl.le S₀.x.kh).isTup
  obtain ⟨n, hk⟩ := id hl
  refine wpAny_pyIter_tuple hl' ?_
  have hne : l ≠ s.heap.objs.size := Nat.ne_of_lt (Heap.lt_size (S₀.x.kh _ _ hk))
  have S₁ := S₀.push (a := s.heap.objs.size) (P := fun _ => True) (le_push s.heap { cls := .type "tuple_iterator", data := .fields #[.ref l, .int 0 0] }) ⟨_, Heap.get?_push_size _ rfl, trivial⟩ (none_size _)
  refine for_walk (own := own) (Walks.tuple hh s.heap.objs.size l hne vs.toArray) ?_ ?_ ?_ J (own_any S₁) ⟨⟨_, Heap.get?_push_size _ rfl, rfl, rfl⟩, hl'.at fun o e => Heap.get?_push_of_some _ e⟩ h0 ?_ ?_
  · rintro i h ⟨⟨o, e, _⟩, _⟩ b hb
    cases List.mem_singleton.mp hb
    exact ⟨o, e⟩
  · intro b hb
    rcases List.mem_cons.mp hb with rfl | hb
    · exact .inl List.mem_cons_self
    · cases List.mem_singleton.mp hb
      exact .inr ⟨_, hk⟩
  · rintro i s' v Q' E' ⟨⟨o, e, hc, _⟩, _⟩ h
    exact letGo_plain e hc (by decide) h
  · intro i v K₁ m₁ cm₁ own₁ R h tk E' hi hv hK hJ S'
    exact turn i v K₁ m₁ cm₁ own₁ R h tk E' (by simpa using hv) hK hJ S'
  · intro K₁ m₁ cm₁ own₁ h tk E' hK hJ S'
    exact done K₁ m₁ cm₁ own₁ h tk E' hK (by simpa using hJ) S'
/-- while, by what holds between its turns and a measure -/
theorem while_rule {test : Expr} {body orelse : List Stmt} {R₀ : Result → Shared → Prop} (J : Nat → Heap → (Str → Option Value) → (Str → Option Value) → OwnL → Prop) (k : Nat)
    (S₀ : S oc w h₀ Kb env K m cm own s.heap) (h0 : J k K m cm own)
    (turn : ∀ k K₁ m₁ cm₁ own₁ h tk E', Le K K₁ → J k K₁ m₁ cm₁ own₁ → S oc w h₀ Kb env K₁ m₁ cm₁ own₁ h →
      wpAny (model prg w) A (isTrue test env (eval test env)) (fun b s₂ =>
        if b then wpAny (model prg w) A (execs body env) (TurnPost (fun f s' => R₀ (.ok f) s') (fun K' m' cm' own' => ∃ k', k' < k ∧ J k' K' m' cm' own') oc w h₀ Kb env K₁ [] s) E' s₂
        else wpAny (model prg w) A (execs orelse env) (fun f s' => R₀ (.ok f) s') E' s₂) E' { s with heap := h, toks := tk }) :
    codeAny (model prg w) A (.whileLoop test body orelse env) R₀ s := by
  refine codeAny_whileLoop (fun k s' => ∃ h' tk' K' m' cm' own', s' = { s with heap := h', toks := tk' } ∧ Le K K' ∧ J k K' m' cm' own' ∧ S oc w h₀ Kb env K' m' cm' own' h') ?_ k ⟨s.heap, s.toks, K, m, cm, own, rfl, Le.refl _, h0, S₀⟩
  rintro k s' ⟨h', tk', K', m', cm', own', rfl, hK, hJ, S'⟩
  refine wpAny_mono (turn k K' m' cm' own' h' tk' _ hK hJ S') (fun b s₂ q => ?_) fun _ _ e => e
  cases b with
  | false => exact q
  | true =>
    refine wpAny_mono q (fun f s₃ p => ?_) fun _ _ e => e
    have fin : (∃ h' tk' K₂ m' cm' own', s₃ = { s with heap := h', toks := tk' } ∧ Le K' K₂ ∧ (∃ k', k' < k ∧ J k' K₂ m' cm' own') ∧ S oc w h₀ Kb env K₂ m' cm' (own' ++ []) h') →
        ∃ m, m < k ∧ ∃ h' tk' K' m' cm' own', s₃ = { s with heap := h', toks := tk' } ∧ Le K K' ∧ J m K' m' cm' own' ∧ S oc w h₀ Kb env K' m' cm' own' h' := by
      rintro ⟨h₂, tk₂, K₂, m₂, cm₂, own₂, e, hK₂, ⟨k', hk, hJ₂⟩, S₂⟩
      rw [List.append_nil] at S₂
      exact ⟨k', hk, h₂, tk₂, K₂, m₂, cm₂, own₂, e, hK.trans hK₂, hJ₂, S₂⟩
    cases f with
    | ret v => exact p
    | brk => exact p
    | next => exact fin p
    | cont => exact fin p
/-- xs.append(v) on an own list -/
theorem append_own {pos : Pos} {x : Sem Value} {a : Addr} {l₁ l₂ : OwnL} {vs : List Value} {Q : Value → Shared → Prop} (hd : ∃ o, s.heap.get? a = some o ∧ listO vs o)
    (h : wpAny (model prg w) A x (fun v s₁ => ∃ K m cm, S oc w h₀ Kb env K m cm (l₁ ++ (a, listO vs) :: l₂) s₁.heap ∧ vs.length ≤ sizeLine ∧
      ∀ h', S oc w h₀ Kb env K m cm (l₁ ++ (a, listO (vs ++ [v])) :: l₂) h' → Q .none { s₁ with heap := h' }) E s) :
    MethodOnS prg w A E "append" (.ref a) pos [(false, x)] Q s := by
  obtain ⟨o, e, n, rfl⟩ := hd
  refine ⟨"list", "list.append", F.plainAttrs_list, F.slot_list_append, F.type_list_append, ⟨_, e, rfl⟩, (fun b q => ⟨_, by cases q; exact e, rfl⟩), cw_m1 (wpAny_mono h (fun v s₁ h₁ => ?_) fun _ _ e => e)⟩
  obtain ⟨K, m, cm, S₁, hsz, h₁⟩ := h₁
  obtain ⟨ho, _⟩ := S₁.has (a, listO vs) (by simp)
  refine wpAny_list_append_plain (plain_of ho) (fun h' hl sb => h₁ h' (S₁.upd (of_plain (by simpa using hl)) fun b o hb q => (sb.2 b hb).trans q)) (by simpa using hsz)
end
end Mine
end
section
open PySem PySem.W PyProof.Rows
namespace Mine
def parF (x : Str) : Option Str := if reachF x = x then none else some (Txt.slice (reachF x) (some 1) none)
def climbN : Nat → Str → List Str
  | 0, x => [x]
  | k + 1, x => x :: (match parF x with | none => [] | some y => climbN k y)
def climbF (x : Str) : List Str := climbN 5 x
def climbOk (x : Str) : Bool := climbF x == x :: (match parF x with | none => [] | some y => climbF y)
def parOk (x : Str) : Bool := (match parF x with | none => true | some y => decide (y ∈ U) && decide (y.length < x.length)) && decide ((reachF x).length ≤ 30)
theorem U_climb : U.all climbOk = true := by decide +kernel
theorem U_par : U.all parOk = true := by decide +kernel
theorem climb_eq {x : Str} (hx : x ∈ U) : climbF x = x :: (match parF x with | none => [] | some y => climbF y) := by
  have := List.all_eq_true.mp U_climb x hx
  simpa [climbOk] using this
theorem par_mem {x y : Str} (hx : x ∈ U) (h : parF x = some y) : y ∈ U ∧ y.length < x.length := by
  have := List.all_eq_true.mp U_par x hx
  simp only [parOk, h, Bool.and_eq_true, decide_eq_true_eq] at this
  exact this.1
theorem reach_len {x : Str} (hx : x ∈ U) : (reachF x).length ≤ 30 := by
  have := List.all_eq_true.mp U_par x hx
  simp only [parOk, Bool.and_eq_true, decide_eq_true_eq] at this
  exact this.2
theorem U_len {x : Str} (hx : x ∈ U) : x.length ≤ 20 := by
  have := List.all_eq_true.mp U_edge x hx
  simp only [edgeOk, Bool.and_eq_true, decide_eq_true_eq] at this
  exact this.2
section
variable {w : World} {A : Around} {E : Value → Shared → Prop} {s : Shared} {K : Heap} {n : Nat}
set_option maxHeartbeats 2000000 in
theorem spec_climbed {x : Str} {t : Tok} {Q : Value → Shared → Prop} (hA : AOk (n + 3) A) (hB : Base w K) (hle : Le K s.heap) (hx : x ∈ U)
    (h : ∀ a h' K' tk vs, Grown K s.heap K' h' → K'.PlainList a vs.toArray → Rel2 IsS vs (climbF x) → K.get? a = none → Q (.ref a) { s with heap := h', toks := tk }) :
    wpAny (model prg w) A (call (.ref 123) [.str x t]) Q E s := by
  refine call_def (binds := [("host", .str x t)]) hA hB hle (hB.frag 123 _ rfl) rfl ⟨_, _, _, _, rfl, hB.frag 122 _ rfl, rfl, rfl⟩ rfl rfl rfl ?_
  intro h₁ tk hA' S₁
  refine wpAny_execs_cons (wpAny_Assign_Name (List_ (spliced_more (x_local S₁.x rfl (spliced_none (nl fun h₂ l₂ p₂ => ?_))))))
  have S₂ := S₁.push l₂ (of_plain p₂) (none_size _)
  generalize h₁.objs.size = r at S₂ p₂
  refine st_local S₂ fun h₃ tk₃ S₃ => ?_
  refine wpAny_execs_cons (wpAny_Assign_Name (Call_ (x_global S₃.x rfl (callWith_def rfl (spliced_more (x_local S₃.x rfl (spliced_none ⟨S₃.x.kh _ _ (hB.frag 50 _ rfl), ?_⟩)))))))
  refine spec_reach hA' hB S₃.x.kh hx fun h₄ tk₄ t₄ l₄ => ?_
  refine st_local (S₃.more l₄) fun h₅ tk₅ S₅ => ?_
  refine wpAny_execs_cons (wpAny_While (while_rule (fun k K' m' cm' own' => K' = K ∧ ∃ pre y vs t, k = y.length ∧ y ∈ U ∧ climbF x = pre ++ climbF y ∧ own' = [(r, listO vs)] ∧ Rel2 IsS vs (pre ++ [y]) ∧ pre.length + y.length ≤ 20 ∧
    m' "rungs" = some (.ref r) ∧ m' "above" = some (.str (reachF y) t)) _ S₅ ⟨rfl, [], x, _, _, rfl, hx, rfl, rfl, .cons ⟨_, rfl⟩ .nil, by have := U_len hx; simpa using this, rfl, rfl⟩ ?_))
  rintro k K' m₁ cm₁ own₁ h₆ tk₆ E' - ⟨rfl, pre, y, vs, ty, rfl, hy, hc, rfl, hv, hn, m1, m2⟩ S₆
  have last : ∃ v, vs.getLast? = some v ∧ IsS v y := by
    have e : vs.length = pre.length + 1 := by rw [hv.length]; simp
    obtain ⟨v, e1, e2⟩ := hv.get' (i := pre.length) (b := y) (by simp)
    exact ⟨v, by rw [List.getLast?_eq_getElem?, e]; simpa using e1, e2⟩
  obtain ⟨v, hlast, tv, rfl⟩ := last
  refine wpAny_isTrue_Compare1 (x_local S₆.x m2 (Subscript_ (x_local S₆.x m1 (wpAny_UnaryOp (wpAny_Constant_int (neg_int (item_last (plain_of (S₆.has _ List.mem_cons_self).1) hlast ?_)))))))
  refine ne_str (wpAny_truthy_bool ?_)
  by_cases hr : reachF y = y
  · refine br_f (by rw [hr]; simp) ?_
    refine wpAny_execs_nil ?_
    refine wpAny_execs_cons (wpAny_Return_some (x_local S₆.x m1 ?_))
    obtain ⟨K', o, S₇, hK, hko, hO, _⟩ := S₆.freeze
    refine h r _ K' _ vs S₇.grown (plain_of ⟨o, hko, hO⟩) ?_ (S₆.has _ List.mem_cons_self).2.2.1
    rw [hc, climb_eq hy]
    simpa [parF, hr] using hv
  · have hp : parF y = some (Txt.slice (reachF y) (some 1) none) := by simp [parF, hr]
    obtain ⟨hz, hzl⟩ := par_mem hy hp
    generalize hze : Txt.slice (reachF y) (some 1) none = z at hp hz hzl
    refine br_t (by simpa using hr) ?_
    refine wpAny_execs_cons (wpAny_Expr (Call_method1 rfl rfl rfl (x_local S₆.x m1 (append_own (l₁ := []) (l₂ := []) (S₆.has _ List.mem_cons_self).1 (sub_str_from (x_local S₆.x m2 ⟨_, _, rfl, ?_, wpAny_Constant_int ⟨_, _, rfl, fun h₇ t₇ k₇ l₇ => ⟨_, _, _, S₆.more l₇, ?_, fun h₈ S₈ => ?_⟩⟩⟩))))))
    · have := reach_len hy
      show _ ≤ 16777216
      omega
    · have := hv.length
      simp at this
      show _ ≤ 16777216
      omega
    rw [hze] at S₈
    refine wpAny_execs_cons (wpAny_Assign_Name (Call_ (x_global S₈.x rfl (callWith_def rfl (spliced_more (Subscript_ (x_local S₈.x m1 (wpAny_UnaryOp (wpAny_Constant_int (neg_int (item_last (plain_of (S₈.has _ List.mem_cons_self).1) List.getLast?_concat (spliced_none ⟨S₈.x.kh _ _ (hB.frag 50 _ rfl), ?_⟩)))))))))))) 
    refine spec_reach hA' hB S₈.x.kh hz fun h₉ tk₉ t₉ l₉ => ?_
    refine st_local (S₈.more l₉) fun h₁₀ tk₁₀ S₁₀ => ?_
    refine wpAny_execs_nil ?_
    refine ⟨h₁₀, _, _, _, _, [(r, listO (vs ++ [.str z t₇]))], rfl, Le.refl _, ⟨z.length, hzl, rfl, pre ++ [y], z, _, _, rfl, hz, ?_, rfl, hv.append (.cons ⟨_, rfl⟩ .nil), ?_, ?_, rfl⟩, S₁₀⟩
    · rw [hc, climb_eq hy, hp, List.append_assoc]; rfl
    · simp; omega
    · exact m1
end
end Mine
end
section
open PySem PySem.W PyProof.Rows
namespace Mine
abbrev tests (env : Env) (ifs : List Expr) : Sem Bool := forIn ifs true fun c r => if r = true then do let ok ← isTrue c env (eval c env); pure (ForInStep.yield ok) else pure (ForInStep.yield r)
section
variable {w : World} {A : Around} {E : Value → Shared → Prop} {s : Shared}
theorem compLoop_go {R : Result → Shared → Prop} {elt target iter : Expr} {ifs : List Expr} {scope : Scope} {pos : Pos} {it acc : Value} {env : Env} (I : Nat → Shared → Prop)
    (turn : ∀ n s, I n s → wpAny (model prg w) A (pyNext it) (fun r s₁ => match r with
      | none => R (.ok .next) s₁
      | some v => wpAny (model prg w) A (letOwnedTupleGo target it v) (fun _ s₁' => wpAny (model prg w) A (assign target env v) (fun _ s₂ => wpAny (model prg w) A (tests env ifs) (fun ok s₃ =>
            if ok = true then wpAny (model prg w) A (eval elt env) (fun x s₄ =>
              wpAny (model prg w) A (call (.builtin "list.append") [acc, x]) (fun _ s₅ => ∃ m, m < n ∧ I m s₅) (notedBy (model prg w) A env fun e s' => R (.error e) s') s₄) (notedBy (model prg w) A env fun e s' => R (.error e) s') s₃
            else ∃ m, m < n ∧ I m s₃) (notedBy (model prg w) A env fun e s' => R (.error e) s') s₂) (notedBy (model prg w) A env fun e s' => R (.error e) s') s₁') (notedBy (model prg w) A env fun e s' => R (.error e) s') s₁)
        (notedBy (model prg w) A env fun e s' => R (.error e) s') s)
    (n : Nat) (h : I n s) : codeAny (model prg w) A (.compLoop (.ListComp elt [⟨target, iter, ifs, 0⟩] scope pos) 0 it acc env) R s := by
  refine codeAny_loop rfl I (fun n s hI => ?_) n h
  show wpAny _ A ((compTurn (.ListComp elt [⟨target, iter, ifs, 0⟩] scope pos) 0 it acc env).onRaise (fun x => do noteFrame x env; theTreesLotGoes x)) _ _ s
  refine wpAny_noted ?_
  rw [compTurn_list]
  refine wpAny_bind (wpAny_standAt (wpAny_bind (wpAny_mono (turn n s hI) (fun r s₁ h₁ => ?_) fun _ _ h' => h')))
  cases r with
  | none => exact wpAny_pure h₁
  | some v =>
    refine wpAny_bind (wpAny_mono h₁ (fun _ s₁' h₁' => ?_) fun _ _ h' => h')
    refine wpAny_bind (wpAny_mono h₁' (fun _ s₂ h₂ => wpAny_bind (wpAny_mono h₂ (fun ok s₃ h₃ => ?_) fun _ _ h' => h')) fun _ _ h' => h')
    cases ok with
    | false => exact wpAny_pure ⟨rfl, h₃⟩
    | true => exact wpAny_bind (wpAny_bind (wpAny_mono h₃ (fun x s₄ h₄ => wpAny_bind (wpAny_mono h₄ (fun _ s₅ h₅ => wpAny_pure (wpAny_pure ⟨rfl, h₅⟩)) fun _ _ h' => h')) fun _ _ h' => h'))
end
section
variable {w : World} {A : Around} {E : Value → Shared → Prop} {s : Shared} {K Kb h₀ : Heap} {cenv : Env} {m cm : Str → Option Value}
/-- what one item of a comprehension must come to -/
def CompEnd (w : World) (J : Heap → List Value → Prop) (h₀ Kb : Heap) (cenv : Env) (cm : Str → Option Value) (K : Heap) (R : OwnL) (s : Shared) (acc : List Value) (s₄ : Shared) : Prop :=
  ∃ h' tk' K' m', s₄ = { s with heap := h', toks := tk' } ∧ Le K K' ∧ J K' acc ∧ S false w h₀ Kb cenv K' m' cm R h'
theorem comp_loop {R₀ : Result → Shared → Prop} {elt target iter : Expr} {ifs : List Expr} {scope : Scope} {pos : Pos} {I D : Addr} {fp wr : List Addr} {n : Nat} {P : Nat → Value → Prop} {St : Nat → Heap → Prop}
    (W : Walks prg w A I fp wr n P St) (hob : ∀ i h, St i h → ∀ b ∈ wr, ∃ o, h.get? b = some o) (hfp : ∀ b ∈ fp, b ∈ wr ∨ ∃ o, K.get? b = some o)
    (hgo : ∀ i (s' : Shared) v (Q' : Unit → Shared → Prop) E', St i s'.heap → Q' () s' → wpAny (model prg w) A (letOwnedTupleGo target (.ref I) v) Q' E' s')
    (J : Nat → Heap → List Value → Prop) (S₀ : S false w h₀ Kb cenv K m cm ([(D, listO [])] ++ any1 wr) s.heap) (st : St 0 s.heap) (h0 : J 0 K [])
    (turn : ∀ i v K₁ m₁ acc R h tk E', i < n → P i v → Le K K₁ → J i K₁ acc → S false w h₀ Kb cenv K₁ m₁ cm R h →
      wpAny (model prg w) A (assign target cenv v) (fun _ s₂ => wpAny (model prg w) A (tests cenv ifs) (fun ok s₃ =>
        if ok = true then wpAny (model prg w) A (eval elt cenv) (fun y s₄ => CompEnd w (J (i + 1)) h₀ Kb cenv cm K₁ R s (acc ++ [y]) s₄) E' s₃
        else CompEnd w (J (i + 1)) h₀ Kb cenv cm K₁ R s acc s₃) E' s₂) E' { s with heap := h, toks := tk })
    (fin : ∀ K₁ m₁ ys h tk, Le K K₁ → ys.length ≤ n → J n K₁ ys → S false w h₀ Kb cenv K₁ m₁ cm [(D, listO ys)] h → R₀ (.ok .next) { s with heap := h, toks := tk })
    (hsz : n ≤ sizeLine) :
    codeAny (model prg w) A (.compLoop (.ListComp elt [⟨target, iter, ifs, 0⟩] scope pos) 0 (.ref I) (.ref D) cenv) R₀ s := by
  refine compLoop_go
    (fun k s' => ∃ i h' tk' K' m' acc, s' = { s with heap := h', toks := tk' } ∧ i ≤ n ∧ acc.length ≤ i ∧ k = n + 1 - i ∧ Le K K' ∧ J i K' acc ∧ S false w h₀ Kb cenv K' m' cm ([(D, listO acc)] ++ any1 wr) h' ∧ St i h') ?_ (n + 1)
    ⟨0, s.heap, s.toks, K, m, [], rfl, Nat.zero_le _, Nat.le_refl _, rfl, Le.refl _, h0, S₀, st⟩
  rintro k s' ⟨i, h', tk', K', m', acc, rfl, hi, hacc, rfl, hK, hJ, S', st'⟩
  by_cases hlt : i < n
  · refine W.item i _ _ _ hlt st' fun v h₁ tk₁ hP st₁ up => ?_
    have S₁ : S false w h₀ Kb cenv K' m' cm ([(D, listO acc)] ++ exact1 h₁ wr) h₁ := by
      refine S'.updAll (by rw [exact1_fst, any1_fst]) (fun p hp => ?_) (fun b o hb e => up b o (by rwa [any1_fst] at hb) e)
      obtain ⟨b, hb, rfl⟩ := List.mem_map.mp hp
      obtain ⟨o, e⟩ := hob _ _ st₁ b hb
      exact ⟨o, e, e⟩
    have fin' : ∀ acc' h₂ tk₂ K₂ m₂, acc'.length ≤ i + 1 → Le K' K₂ → J (i + 1) K₂ acc' → S false w h₀ Kb cenv K₂ m₂ cm ([(D, listO acc')] ++ exact1 h₁ wr) h₂ →
        ∃ m, m < n + 1 - i ∧ ∃ i h' tk' K' m' acc, { s with heap := h₂, toks := tk₂ } = { s with heap := h', toks := tk' } ∧ i ≤ n ∧ acc.length ≤ i ∧ m = n + 1 - i ∧ Le K K' ∧ J i K' acc ∧ S false w h₀ Kb cenv K' m' cm ([(D, listO acc)] ++ any1 wr) h' ∧ St i h' := by
      intro acc' h₂ tk₂ K₂ m₂ hl hK₂ hJ₂ S₂
      refine ⟨n + 1 - (i + 1), by omega, i + 1, h₂, tk₂, K₂, m₂, acc', rfl, hlt, hl, rfl, hK.trans hK₂, hJ₂, ?_, ?_⟩
      · refine S₂.updAll (by rw [exact1_fst, any1_fst]) (fun p hp => ?_) (fun b o hb e => e)
        obtain ⟨b, hb, rfl⟩ := List.mem_map.mp hp
        obtain ⟨⟨o, e, _⟩, _⟩ := S₂.has (b, _) (List.mem_append_right _ (List.mem_map.mpr ⟨b, hb, rfl⟩))
        exact ⟨o, e, trivial⟩
      · refine W.frame _ _ _ st₁ fun b hb o e => ?_
        rcases hfp b hb with hb | ⟨o', e'⟩
        · obtain ⟨⟨o₂, e₂, q⟩, _⟩ := S₂.has (b, _) (List.mem_append_right _ (List.mem_map.mpr ⟨b, hb, rfl⟩))
          have q' : h₁.get? b = some o₂ := q
          rw [e] at q'
          cases q'
          exact e₂
        · have e1 := S₁.x.kh _ _ (hK _ _ e')
          rw [e] at e1
          cases e1
          exact S₂.x.kh _ _ (hK₂ _ _ (hK _ _ e'))
    dsimp only
    refine hgo (i + 1) _ v _ _ st₁ ?_
    refine wpAny_mono (turn i v K' m' acc _ h₁ tk₁ _ hlt hP hK hJ S₁) (fun _ s₂ q => wpAny_mono q (fun ok s₃ p => ?_) fun _ _ e => e) fun _ _ e => e
    cases ok with
    | false =>
      obtain ⟨h₂, tk₂, K₂, m₂, rfl, hK₂, hJ₂, S₂⟩ := p
      exact fin' acc h₂ tk₂ K₂ m₂ (Nat.le_succ_of_le hacc) hK₂ hJ₂ S₂
    | true =>
      refine wpAny_mono p (fun y s₄ q => ?_) fun _ _ e => e
      obtain ⟨h₂, tk₂, K₂, m₂, rfl, hK₂, hJ₂, S₂⟩ := q
      refine wpAny_list_append_plain (plain_of (S₂.has (D, listO acc) (by simp)).1) (fun h₃ hl sb => ?_) (by rw [List.size_toArray]; omega)
      exact fin' (acc ++ [y]) h₃ tk₂ K₂ m₂ (by simpa using hacc) hK₂ hJ₂ (S.upd (l₁ := []) S₂ (of_plain (by simpa using hl)) fun b o hb q => (sb.2 b hb).trans q)
  · have hin : i = n := by omega
    subst hin
    refine W.done _ _ _ st' fun h₁ tk₁ up => ?_
    exact fin K' m' acc h₁ tk₁ hK hacc hJ (S'.dropAll fun b o hb e => up b o (by rwa [any1_fst] at hb) e)
end
end Mine
end
section
open PySem PySem.W PyProof.Rows
namespace Mine
/-- what can be gone through: n items, the i-th with P i -/
def Src (w : World) (A : Around) (K : Heap) (v : Value) (n : Nat) (P : Nat → Value → Prop) : Prop :=
  ∀ (s : Shared) (E : Value → Shared → Prop) (Q : Value → Shared → Prop), Le K s.heap →
    (∀ I wr fp St h', Le s.heap h' → Walks prg w A I fp wr n P St → (∀ i h, St i h → ∀ b ∈ wr, ∃ o, h.get? b = some o) → (∀ b ∈ fp, b ∈ wr ∨ ∃ o, K.get? b = some o) →
      (∀ target i (s' : Shared) v (Q' : Unit → Shared → Prop) E', St i s'.heap → Q' () s' → wpAny (model prg w) A (letOwnedTupleGo target (.ref I) v) Q' E' s') → St 0 h' →
      (∀ b ∈ wr, s.heap.get? b = none) → wr.Pairwise (· ≠ ·) → Q (.ref I) { s with heap := h' }) → wpAny (model prg w) A (pyIter v) Q E s
theorem src_list {w : World} {A : Around} {K : Heap} {l : Addr} {vs : List Value} (hh : A.handled = none) (hl : K.PlainList l vs.toArray) : Src w A K (.ref l) vs.length fun i v => vs[i]? = some v := by
  intro s E Q hK h
  have hl' := pl_le hl hK
  obtain ⟨n, hk⟩ := id hl
  refine wpAny_pyIter_list hl'.isList ?_
  have hne : l ≠ s.heap.objs.size := Nat.ne_of_lt (Heap.lt_size (hK _ _ hk))
  have W := Walks.list (prog := prg) (w := w) hh s.heap.objs.size l hne vs.toArray
  have e1 : vs.toArray.size = vs.length := by simp
  have e2 : (fun (i : Nat) (v : Value) => vs.toArray[i]? = some v) = fun i v => vs[i]? = some v := by funext i v; simp
  rw [e1, e2] at W
  refine h _ _ _ _ _ (le_push _ _) W ?_ ?_ ?_ ⟨⟨_, Heap.get?_push_size _ rfl, rfl, rfl⟩, hl'.isList.at fun o e => Heap.get?_push_of_some _ e⟩ (fun b hb => by rw [List.mem_singleton.mp hb]; exact none_size _) (List.pairwise_singleton _ _)
  · rintro i h ⟨⟨o, e, _⟩, _⟩ b hb
    cases List.mem_singleton.mp hb
    exact ⟨o, e⟩
  · intro b hb
    rcases List.mem_cons.mp hb with rfl | hb
    · exact .inl List.mem_cons_self
    · cases List.mem_singleton.mp hb
      exact .inr ⟨_, hk⟩
  · rintro target i s' v Q' E' ⟨⟨o, e, hc, _⟩, _⟩ h
    exact letGo_plain e hc (by decide) h
theorem src_tup {w : World} {A : Around} {K : Heap} {l : Addr} {vs : List Value} (hh : A.handled = none) (hl : Tup K l vs) : Src w A K (.ref l) vs.length fun i v => vs[i]? = some v := by
  intro s E Q hK h
  have hl' : s.heap.IsTuple l vs.toArray := (hl.le hK).isTup
  obtain ⟨n, hk⟩ := id hl
  refine wpAny_pyIter_tuple hl' ?_
  have hne : l ≠ s.heap.objs.size := Nat.ne_of_lt (Heap.lt_size (hK _ _ hk))
  have W := Walks.tuple (prog := prg) (w := w) hh s.heap.objs.size l hne vs.toArray
  have e1 : vs.toArray.size = vs.length := by simp
  have e2 : (fun (i : Nat) (v : Value) => vs.toArray[i]? = some v) = fun i v => vs[i]? = some v := by funext i v; simp
  rw [e1, e2] at W
  refine h _ _ _ _ _ (le_push _ _) W ?_ ?_ ?_ ⟨⟨_, Heap.get?_push_size _ rfl, rfl, rfl⟩, hl'.at fun o e => Heap.get?_push_of_some _ e⟩ (fun b hb => by rw [List.mem_singleton.mp hb]; exact none_size _) (List.pairwise_singleton _ _)
  · rintro i h ⟨⟨o, e, _⟩, _⟩ b hb
    cases List.mem_singleton.mp hb
    exact ⟨o, e⟩
  · intro b hb
    rcases List.mem_cons.mp hb with rfl | hb
    · exact .inl List.mem_cons_self
    · cases List.mem_singleton.mp hb
      exact .inr ⟨_, hk⟩
  · rintro target i s' v Q' E' ⟨⟨o, e, hc, _⟩, _⟩ h
    exact letGo_plain e hc (by decide) h
section
variable {w : World} {A : Around} {E : Value → Shared → Prop} {s : Shared} {env : Env}
/-- the frame of a comprehension, its accumulator and its iterator stand -/
theorem comp_start {elt target iter : Expr} {ifs : List Expr} {scope : Scope} {cl : List (Str × Addr)} {pos : Pos} {K : Heap} {m cm : Str → Option Value} {I : Addr} {wr fp : List Addr} {n : Nat} {P : Nat → Value → Prop} {St : Nat → Heap → Prop}
    {h' : Heap} {RR : Value → Addr → Result → Shared → Prop}
    (hcell : ∀ y ∈ scope.names, y.2 ≠ .cell) (hkind : scope.kind = .function) (hcl : ∀ y c, cl.lookup y = some c → env.cells.lookup y = some c) (hclA : cl.Pairwise fun p q => p.2 ≠ q.2)
    (x : X w K env m cm s.heap) (le : Le s.heap h') (W : Walks prg w A I fp wr n P St) (hob : ∀ i h, St i h → ∀ b ∈ wr, ∃ o, h.get? b = some o) (hfp : ∀ b ∈ fp, b ∈ wr ∨ ∃ o, K.get? b = some o)
    (hgo : ∀ target i (s' : Shared) v (Q' : Unit → Shared → Prop) E', St i s'.heap → Q' () s' → wpAny (model prg w) A (letOwnedTupleGo target (.ref I) v) Q' E' s') (st : St 0 h')
    (hwr : ∀ b ∈ wr, s.heap.get? b = none) (hnd : wr.Pairwise (· ≠ ·)) (hsz : n ≤ sizeLine)
    (J : Nat → Heap → List Value → Prop) (h0 : J 0 K [])
    (turn : ∀ C i v K₁ m₁ acc R h tk E', i < n → P i v → Le K K₁ → J i K₁ acc → S false w s.heap K (compEnvC scope cl C env) K₁ m₁ cm R h →
      wpAny (model prg w) A (assign target (compEnvC scope cl C env) v) (fun _ s₂ => wpAny (model prg w) A (tests (compEnvC scope cl C env) ifs) (fun ok s₃ =>
        if ok = true then wpAny (model prg w) A (eval elt (compEnvC scope cl C env)) (fun y s₄ => CompEnd w (J (i + 1)) s.heap K (compEnvC scope cl C env) cm K₁ R s (acc ++ [y]) s₄) E' s₃
        else CompEnd w (J (i + 1)) s.heap K (compEnvC scope cl C env) cm K₁ R s acc s₃) E' s₂) E' { s with heap := h, toks := tk })
    (fin : ∀ D C K₁ m₁ ys h tk, Le K K₁ → J n K₁ ys → ys.length ≤ n → S false w s.heap K (compEnvC scope cl C env) K₁ m₁ cm [(D, listO ys)] h → RR (.ref D) C (.ok .next) { s with heap := h, toks := tk }) :
    wpAny (model prg w) A (newList []) (fun acc s₃ => wpAny (model prg w) A (newFunctionEnv scope env.globals cl [] env.qual none .none (some env)) (fun cenv s₄ =>
      codeAny (model prg w) A (.compStart (.ListComp elt [⟨target, iter, ifs, 0⟩] scope pos) 0 (.ref I) acc { cenv with scope := relabel scope env }) (RR acc cenv.locals) s₄) E s₃) E { s with heap := h' } := by
  refine wpAny_newObj_type (wpAny_newFunctionEnv hcell (by intro y hy; simp at hy) (fun h₁ hns₁ hsb₁ => ?_) hkind)
  dsimp only at hns₁ hsb₁ ⊢
  have l1 := le_push h' { cls := .type "list", dict := none, data := .seq ([] : List Value).toArray }
  have hD1 : (h'.push { cls := .type "list", dict := none, data := .seq ([] : List Value).toArray }).get? h'.objs.size = some { cls := .type "list", dict := none, data := .seq ([] : List Value).toArray } := Heap.get?_push_size _ rfl
  generalize h'.push { cls := .type "list", dict := none, data := .seq ([] : List Value).toArray } = H2 at hns₁ hsb₁ l1 hD1 ⊢
  have l2 : Le H2 h₁ := fun b o e => hsb₁.extBut b o (fun q => by rw [q, none_size] at e; cases e) (Heap.get?_push_of_some _ e)
  have Cn : H2.get? H2.objs.size = none := none_size _
  have Dn : h'.get? h'.objs.size = none := none_size _
  generalize H2.objs.size = C at hns₁ Cn ⊢
  generalize h'.objs.size = D at hD1 Dn ⊢
  have lK : Le K h₁ := x.kh.trans (le.trans (l1.trans l2))
  have S₀ : S false w s.heap K (compEnvC scope cl C env) K (fun x => [].reverse.lookup x) cm ([(D, listO [])] ++ any1 wr) h₁ := by
    have Cs : s.heap.get? C = none := le.none (l1.none Cn)
    refine ⟨⟨hns₁, fun y c e => (x.cell y c (hcl y c e)).keeps (le.trans (l1.trans l2)), lK, x.base⟩, le.trans (l1.trans l2), Le.refl _, (fun a o e q => by rw [q] at e; cases e), Cs, x.kh.none Cs, ?_, ?_, ?_, (fun q => nomatch q), hclA⟩
    · intro p hp
      rcases List.mem_append.mp hp with q | q
      · cases List.mem_singleton.mp q
        have Ds : s.heap.get? D = none := le.none Dn
        refine ⟨⟨_, l2 _ _ hD1, 0, rfl⟩, Ds, x.kh.none Ds, fun e => ?_⟩
        have e : D = C := e
        rw [e, Cn] at hD1; cases hD1
      · obtain ⟨b, hb, rfl⟩ := List.mem_map.mp q
        obtain ⟨o, e⟩ := hob _ _ st b hb
        refine ⟨⟨o, l2 _ _ (l1 _ _ e), trivial⟩, hwr b hb, x.kh.none (hwr b hb), fun q => ?_⟩
        have q : b = C := q
        rw [q] at e
        rw [l1 _ _ e] at Cn; cases Cn
    · show ((D, listO []) :: any1 wr).Pairwise _
      refine List.pairwise_cons.mpr ⟨fun p hp => ?_, ?_⟩
      · obtain ⟨b, hb, rfl⟩ := List.mem_map.mp hp
        obtain ⟨o, e⟩ := hob _ _ st b hb
        intro q
        have q : D = b := q
        rw [← q, Dn] at e; cases e
      · exact List.pairwise_map.mpr hnd
    · intro y c hc
      obtain ⟨o, e, _⟩ := x.cell y c (hcl y c hc)
      refine ⟨fun q => ?_, fun p hp q => ?_⟩
      · have q : c = C := q
        rw [q, Cs] at e; cases e
      · rcases List.mem_append.mp hp with r | r
        · cases List.mem_singleton.mp r
          have q : D = c := q
          rw [← q, le.none Dn] at e; cases e
        · obtain ⟨b, hb, rfl⟩ := List.mem_map.mp r
          have q : b = c := q
          rw [← q, hwr b hb] at e; cases e
  have st₁ : St 0 h₁ := W.frame _ _ _ st fun b _ o e => l2 _ _ (l1 _ _ e)
  have loop : codeAny (model prg w) A (.compLoop (.ListComp elt [⟨target, iter, ifs, 0⟩] scope pos) 0 (.ref I) (.ref D) (compEnvC scope cl C env)) (RR (.ref D) C) { s with heap := h₁, toks := s.toks + ([] : List (Str × Value)).length } := by
    exact comp_loop W hob hfp (hgo target) J S₀ st₁ h0 (turn C) (fun K₁ m₁ ys h tk hK hl hJ S₁ => fin D C K₁ m₁ ys h tk hK hJ hl S₁) hsz
  exact codeAny_compStart_list loop (W.self 0 _ _ _ st₁ loop)
/-- a list comprehension as a value -/
theorem ListComp_K {elt target iter : Expr} {ifs : List Expr} {scope : Scope} {cl : List (Str × Addr)} {pos : Pos} {Q : Value → Shared → Prop}
    (hclos : closureFor scope env = pure cl) (hcell : ∀ y ∈ scope.names, y.2 ≠ .cell) (hkind : scope.kind = .function)
    (hnames : ∀ y ∈ scope.names, y.2 = .local → scope.names.lookup y.1 = some .local) (hcl : ∀ y c, cl.lookup y = some c → env.cells.lookup y = some c) (hclA : cl.Pairwise fun p q => p.2 ≠ q.2)
    (h : wpAny (model prg w) A (eval iter env) (fun v s₁ => ∃ (n : Nat) (P : Nat → Value → Prop) (K : Heap) (m cm : Str → Option Value) (J : Nat → Heap → List Value → Prop), Src w A K v n P ∧ X w K env m cm s₁.heap ∧ n ≤ sizeLine ∧ J 0 K [] ∧
      (∀ C i v K₁ m₁ acc R h tk E', i < n → P i v → Le K K₁ → J i K₁ acc → S false w s₁.heap K (compEnvC scope cl C env) K₁ m₁ cm R h →
        wpAny (model prg w) A (assign target (compEnvC scope cl C env) v) (fun _ s₂ => wpAny (model prg w) A (tests (compEnvC scope cl C env) ifs) (fun ok s₃ =>
          if ok = true then wpAny (model prg w) A (eval elt (compEnvC scope cl C env)) (fun y s₄ => CompEnd w (J (i + 1)) s₁.heap K (compEnvC scope cl C env) cm K₁ R s₁ (acc ++ [y]) s₄) E' s₃
          else CompEnd w (J (i + 1)) s₁.heap K (compEnvC scope cl C env) cm K₁ R s₁ acc s₃) E' s₂) E' { s₁ with heap := h, toks := tk }) ∧
      (∀ a ys K₁ K₂ h' tk, J n K₁ ys → Le K₁ K₂ → Grown K s₁.heap K₂ h' → K₂.PlainList a ys.toArray → K.get? a = none → ys.length ≤ n → Q (.ref a) { s₁ with heap := h', toks := tk })) E s)
    (hs : ∀ x, foldedSetIterable iter env x = pure x := by intro _; rfl) :
    wpAny (model prg w) A (eval (.ListComp elt [⟨target, iter, ifs, 0⟩] scope pos) env) Q E s := by
  rw [eval_ListComp]
  refine wpAny_comprehension_free (use := none) rfl hs hclos hkind hnames (wpAny_mono h (fun v s₁ h₁ => ?_) fun _ _ e => e)
  obtain ⟨n, P, K, m, cm, J, src, x, hsz, h0, turn, fin⟩ := h₁
  refine src s₁ E _ x.kh fun I wr fp St h' le W hob hfp hgo st hwr hnd => ?_
  refine comp_start (s := s₁) (RR := fun acc C => compPost (model prg w) A E none Q acc C) hcell hkind hcl hclA x le W hob hfp hgo st hwr hnd hsz J h0 turn ?_
  intro D C K₁ m₁ ys h tk hK hJ hl S₁
  refine ⟨m₁, S₁.x.ns, fun h'' sb => ?_⟩
  obtain ⟨K₂, o, S₃, hK₂, hko, hO, _⟩ := S₁.freeze
  have LK : K₂.get? C = none := S₃.LK
  have L0 : s₁.heap.get? C = none := S₃.L0
  have ne : ∀ b o, K₂.get? b = some o → b ≠ C := fun b o e q => by rw [q, LK] at e; cases e
  have ne0 : ∀ b o, s₁.heap.get? b = some o → b ≠ C := fun b o e q => by rw [q, L0] at e; cases e
  refine fin D ys K₁ K₂ h'' tk hJ hK₂ ⟨fun b o e => (sb.2 b (ne0 b o e)).trans (S₃.base _ _ e), S₃.kk, fun b o e => (sb.2 b (ne b o e)).trans (S₃.x.kh _ _ e), S₃.new⟩ (plain_of ⟨o, hko, hO⟩) ?_ hl
  exact x.kh.none (S₁.has (D, listO ys) (by simp)).2.1
/-- x = [..] of a frame's own name, stored ahead of the comprehension's end -/
theorem Assign_ListComp_K {oc : Bool} {h₀ Kb : Heap} {own : OwnL} {elt target iter : Expr} {ifs : List Expr} {scope : Scope} {cl : List (Str × Addr)} {y : Str} {py pos spos : Pos} {Q : Flow → Shared → Prop}
    (hsw : swapsWith (.ListComp elt [⟨target, iter, ifs, 0⟩] scope pos) (some (.Name y py)) spos.line env = pure true)
    (hclos : closureFor scope env = pure cl) (hcell : ∀ y ∈ scope.names, y.2 ≠ .cell) (hkind : scope.kind = .function)
    (hnames : ∀ y ∈ scope.names, y.2 = .local → scope.names.lookup y.1 = some .local) (hcl : ∀ y c, cl.lookup y = some c → env.cells.lookup y = some c) (hclA : cl.Pairwise fun p q => p.2 ≠ q.2)
    (hy : env.kindOf y = some .local) (hke : env.scope.kind = .function)
    (h : wpAny (model prg w) A (eval iter env) (fun v s₁ => ∃ (n : Nat) (P : Nat → Value → Prop) (K : Heap) (m cm : Str → Option Value) (J : Nat → Heap → List Value → Prop), Src w A K v n P ∧ S oc w h₀ Kb env K m cm own s₁.heap ∧ n ≤ sizeLine ∧ J 0 K [] ∧
      (∀ C i v K₁ m₁ acc R h tk E', i < n → P i v → Le K K₁ → J i K₁ acc → S false w s₁.heap K (compEnvC scope cl C env) K₁ m₁ cm R h →
        wpAny (model prg w) A (assign target (compEnvC scope cl C env) v) (fun _ s₂ => wpAny (model prg w) A (tests (compEnvC scope cl C env) ifs) (fun ok s₃ =>
          if ok = true then wpAny (model prg w) A (eval elt (compEnvC scope cl C env)) (fun y s₄ => CompEnd w (J (i + 1)) s₁.heap K (compEnvC scope cl C env) cm K₁ R s₁ (acc ++ [y]) s₄) E' s₃
          else CompEnd w (J (i + 1)) s₁.heap K (compEnvC scope cl C env) cm K₁ R s₁ acc s₃) E' s₂) E' { s₁ with heap := h, toks := tk }) ∧
      (∀ a ys K₁ K₂ h' tk, J n K₁ ys → Le K₁ K₂ → Le K K₂ → S oc w h₀ Kb env K₂ (fun z => if z = y then some (.ref a) else m z) cm own h' → K₂.PlainList a ys.toArray → K.get? a = none → ys.length ≤ n → Q .next { s₁ with heap := h', toks := tk })) E s)
    (hs : ∀ x, foldedSetIterable iter env x = pure x := by intro _; rfl) :
    wpAny (model prg w) A (exec (.Assign [.Name y py] (.ListComp elt [⟨target, iter, ifs, 0⟩] scope pos) spos) env) Q E s := by
  rw [exec_Assign_Name_used _ _ _ _ hsw]
  refine wpAny_bind (wpAny_standAt (wpAny_bind ?_))
  show wpAny _ A (do let _ ← comprehension (.ListComp elt [⟨target, iter, ifs, 0⟩] scope pos) scope env _ (newList []) false (eval iter env) (some (assign (.Name y py) env))) _ _ s
  refine wpAny_bind (wpAny_mono (wpAny_comprehension_free (use := some (assign (.Name y py) env)) (Q := fun _ s' => Q .next s') rfl hs hclos hkind hnames
    (wpAny_mono h (fun v s₁ h₁ => ?_) fun _ _ e => e)) (fun _ s' hq => wpAny_pure (wpAny_pure hq)) fun _ _ e => e)
  obtain ⟨n, P, K, m, cm, J, src, T, hsz, h0, turn, fin⟩ := h₁
  refine src s₁ E _ T.x.kh fun I wr fp St h' le W hob hfp hgo st hwr hnd => ?_
  refine comp_start (s := s₁) (RR := fun acc C => compPost (model prg w) A E (some (assign (.Name y py) env)) (fun _ s' => Q .next s') acc C) hcell hkind hcl hclA T.x le W hob hfp hgo st hwr hnd hsz J h0 turn ?_
  intro D C K₁ m₁ ys h tk hK hJ hl S₁
  obtain ⟨K₂, o, S₃, hK₂, hko, hO, _⟩ := S₁.freeze
  have T₁ : S oc w h₀ Kb env K₂ m cm own h := T.grow S₃.grown
  have Cn : s₁.heap.get? C = none := S₃.L0
  have CK : K₂.get? C = none := S₃.LK
  obtain ⟨oC, es, ep, eC, rC⟩ := id S₃.x.ns
  have T₂ : S oc w h₀ Kb env K₂ m cm ((C, fun o => o = oC) :: own) h := by
    refine ⟨T₁.x, T₁.base, T₁.kk, T₁.new, T₁.L0, T₁.LK, fun p hp => ?_, List.pairwise_cons.mpr ⟨fun p hp => ?_, T₁.nd⟩, fun z c hc => ?_, T₁.cellO, T₁.cellA⟩
    · rcases List.mem_cons.mp hp with rfl | hp
      · refine ⟨⟨oC, eC, rfl⟩, T.base.none Cn, CK, fun q => ?_⟩
        obtain ⟨oL, _, _, eL, _⟩ := id T.x.ns
        have q : C = env.locals := q
        rw [← q, Cn] at eL; cases eL
      · exact T₁.has p hp
    · obtain ⟨⟨o', e', _⟩, _⟩ := T.has p hp
      intro q
      have q : C = p.1 := q
      rw [← q, Cn] at e'; cases e'
    · obtain ⟨o', e', _⟩ := T.x.cell z c hc
      obtain ⟨c1, c2⟩ := T₁.cellL z c hc
      refine ⟨c1, fun p hp => ?_⟩
      rcases List.mem_cons.mp hp with rfl | hp
      · intro q
        have q : C = c := q
        rw [← q, Cn] at e'; cases e'
      · exact c2 p hp
  show wpAny _ A (assign (.Name y py) env (.ref D)) _ _ _
  refine wpAny_assign_Name (st_local T₂ (fun h₄ tk₄ T₄ => ?_) hke hy)
  obtain ⟨⟨o₄, e₄, q₄⟩, _⟩ := T₄.has (C, _) List.mem_cons_self
  have q₄ : o₄ = oC := q₄
  subst q₄
  refine ⟨_, ⟨o₄, es, ep, e₄, rC⟩, fun h₅ sb => ?_⟩
  refine fin D ys K₁ K₂ h₅ tk₄ hJ hK₂ S₃.kk ?_ (plain_of ⟨o, hko, hO⟩) (T.x.kh.none (S₁.has (D, listO ys) (by simp)).2.1) hl
  exact S.dropAll (l := [(C, fun o => o = o₄)]) (T₄.perm (List.perm_append_comm (l₁ := own) (l₂ := [(C, fun o => o = o₄)]))) fun b o hb e => (sb.2 b (by simpa using hb)).trans e
end
end Mine
end
section
open PySem PySem.W PyProof.Rows
namespace Mine
section
variable {oc : Bool} {w : World} {h₀ h₀' Kb K h K' h' : Heap} {env : Env} {m cm : Str → Option Value} {own : OwnL}
/-- less of the heap at the start must stay -/
theorem S.rebase (x : S oc w h₀ Kb env K m cm own h) (l : Le h₀' h₀) : S oc w h₀' Kb env K m cm own h :=
  ⟨x.x, l.trans x.base, x.kk, fun a o e n => l.none (x.new a o e n), l.none x.L0, x.LK, fun p hp => let ⟨a, b, c⟩ := x.has p hp; ⟨a, l.none b, c⟩, x.nd, x.cellL, fun t n c hc => let ⟨a, b⟩ := x.cellO t n c hc; ⟨l.none a, b⟩, x.cellA⟩
/-- objects that were there become own -/
theorem S.addOwn {l : OwnL} (x : S oc w h₀ Kb env K m cm [] h) (hl : ∀ p ∈ l, (∃ o, h.get? p.1 = some o ∧ p.2 o) ∧ h₀.get? p.1 = none ∧ K.get? p.1 = none ∧ p.1 ≠ env.locals) (nd : l.Pairwise fun p q => p.1 ≠ q.1)
    (hc : ∀ n c, env.cells.lookup n = some c → ∀ p ∈ l, p.1 ≠ c) : S oc w h₀ Kb env K m cm l h :=
  ⟨x.x, x.base, x.kk, x.new, x.L0, x.LK, hl, nd, fun n c e => ⟨(x.cellL n c e).1, hc n c e⟩, x.cellO, x.cellA⟩
/-- the heap grows, but for some own objects, which are given up; the kept part grows by new objects -/
theorem S.growBut {l : OwnL} (x : S oc w h₀ Kb env K m cm (own ++ l) h) (up : ∀ b o, b ∉ l.map (·.1) → h.get? b = some o → h'.get? b = some o) (kk : Le K K') (kh : Le K' h')
    (new : ∀ a o, K'.get? a = some o → K.get? a = none → a ∈ l.map (·.1) ∨ h.get? a = none) : S oc w h₀ Kb env K' m cm own h' := by
  have y := x.dropAll up
  have fresh : ∀ a, K.get? a = none → (∃ o, h.get? a = some o) → a ∉ l.map (·.1) → K'.get? a = none := by
    rintro a n ⟨o, e⟩ nl
    cases q : K'.get? a with
    | none => rfl
    | some o' =>
      rcases new a o' q n with r | r
      · exact absurd r nl
      · rw [r] at e; cases e
  have off : ∀ b, (∀ p ∈ l, p.1 ≠ b) → b ∉ l.map (·.1) := fun b hb hm => by
    obtain ⟨p, hp, e⟩ := List.mem_map.mp hm
    exact hb p hp e
  have nd := x.nd
  rw [List.pairwise_append] at nd
  refine ⟨⟨y.x.ns, y.x.cell, kh, y.x.base.le kk⟩, y.base, y.kk.trans kk, fun a o e n => ?_, y.L0, fresh _ x.LK ?_ (off _ fun p hp => (x.has p (List.mem_append_right _ hp)).2.2.2), fun p hp => ?_, y.nd, y.cellL, fun t n c hc => ?_, y.cellA⟩
  · cases q : K.get? a with
    | some o' => exact x.new a o' q n
    | none =>
      rcases new a o e q with r | r
      · obtain ⟨p, hp, e'⟩ := List.mem_map.mp r
        exact e' ▸ (x.has p (List.mem_append_right _ hp)).2.1
      · exact x.base.none r
  · obtain ⟨o, _, _, e, _⟩ := x.x.ns
    exact ⟨o, e⟩
  · obtain ⟨⟨o, e, _⟩, a, b, c⟩ := x.has p (List.mem_append_left _ hp)
    exact ⟨(y.has p hp).1, a, fresh _ b ⟨o, e⟩ (off _ fun q hq => Ne.symm (nd.2.2 p hp q hq)), c⟩
  · obtain ⟨a, b⟩ := x.cellO t n c hc
    obtain ⟨o, e, _⟩ := x.x.cell n c hc
    exact ⟨a, fresh _ b ⟨o, e⟩ (off _ fun p hp => (x.cellL n c hc).2 p (List.mem_append_right _ hp))⟩
end
/-- a statement goes on, with this -/
def Post5 {oc : Bool} {w : World} {h₀ Kb K h : Heap} {env : Env} {m cm : Str → Option Value} {own : OwnL} (_ : S oc w h₀ Kb env K m cm own h) (s : Shared)
    (P : Heap → (Str → Option Value) → (Str → Option Value) → Prop) (own' : OwnL) (f : Flow) (s' : Shared) : Prop :=
  f = .next ∧ ∃ h' tk' K' m' cm', s' = { s with heap := h', toks := tk' } ∧ Le K K' ∧ P K' m' cm' ∧ S oc w h₀ Kb env K' m' cm' own' h'
theorem seq5 {oc : Bool} {w : World} {A : Around} {E : Value → Shared → Prop} {s s₁ : Shared} {h₀ Kb K h : Heap} {env : Env} {m cm : Str → Option Value} {own own' : OwnL} {Q : Flow → Shared → Prop} {st : Stmt} {rest : List Stmt}
    (T : S oc w h₀ Kb env K m cm own h) (P : Heap → (Str → Option Value) → (Str → Option Value) → Prop) (h1 : wpAny (model prg w) A (exec st env) (Post5 T s P own') E s₁)
    (h2 : ∀ h' tk' K' m' cm', Le K K' → P K' m' cm' → S oc w h₀ Kb env K' m' cm' own' h' → wpAny (model prg w) A (execs rest env) Q E { s with heap := h', toks := tk' }) :
    wpAny (model prg w) A (execs (st :: rest) env) Q E s₁ := by
  refine wpAny_execs_cons (wpAny_mono h1 (fun f s' p => ?_) fun _ _ e => e)
  obtain ⟨rfl, h', tk', K', m', cm', rfl, hK, hP, S'⟩ := p
  exact h2 h' tk' K' m' cm' hK hP S'
end Mine
end
section
open PySem PySem.W PyProof.Rows
namespace Mine
/-- the first head that stands in no tail -/
def cand (all : List (List Str)) : List (List Str) → Option Str
  | [] => none
  | s :: r => match s with
    | [] => cand all r
    | x :: _ => if all.any (fun u => decide (x ∈ u.tail)) then cand all r else some x
def popH (x : Str) : List Str → List Str
  | [] => []
  | y :: r => if y = x then r else y :: r
def neF (s : List Str) : Bool := !s.isEmpty
def c3N : Nat → List (List Str) → Option (List Str)
  | 0, _ => none
  | k + 1, ss => if ss.filter neF = [] then some [] else
      match cand (ss.filter neF) (ss.filter neF) with
      | none => none
      | some x => (c3N k ((ss.filter neF).map (popH x))).map (x :: ·)
abbrev Seqs := List (Addr × List Value × List Str)
def ownS (ps : Seqs) : OwnL := ps.map fun p => (p.1, listO p.2.1)
def refsS (ps : Seqs) : List Value := ps.map fun p => .ref p.1
def strsS (ps : Seqs) : List (List Str) := ps.map fun p => p.2.2
def okS (ps : Seqs) : Prop := ∀ p ∈ ps, Rel2 IsS p.2.1 p.2.2 ∧ p.2.1.length ≤ 1000
theorem okS.ne {ps : Seqs} (h : okS ps) {p} (hp : p ∈ ps) : neF p.2.2 = !p.2.1.isEmpty := by
  have := (h p hp).1.length
  cases e : p.2.1 <;> cases e2 : p.2.2 <;> simp_all [neF]
theorem refs_get {ps : Seqs} {i : Nat} {v : Value} (h : (refsS ps)[i]? = some v) : ∃ p, ps[i]? = some p ∧ v = .ref p.1 := by
  unfold refsS at h
  rw [List.getElem?_map] at h
  cases e : ps[i]? with
  | none => rw [e] at h; cases h
  | some p => rw [e] at h; cases h; exact ⟨p, rfl, rfl⟩
theorem take_succ {α : Type} {l : List α} {i : Nat} {a : α} (h : l[i]? = some a) : l.take (i + 1) = l.take i ++ [a] := by
  simp [List.take_add_one, h]
theorem split_at {α : Type} {l : List α} {i : Nat} {a : α} (h : l[i]? = some a) : l = l.take i ++ a :: l.drop (i + 1) := by
  have := List.take_append_drop (i + 1) l
  rw [take_succ h, List.append_assoc] at this
  exact this.symm
section
variable {w : World} {A : Around} {E : Value → Shared → Prop} {s : Shared} {K : Heap} {n : Nat}
set_option maxHeartbeats 2000000 in
theorem spec_c3 {l₀ : Addr} {ps : Seqs} {k : Nat} {res : List Str} {Q : Value → Shared → Prop} (hA : AOk (n + 1) A) (hB : Base w K) (hle : Le K s.heap) (hl : K.PlainList l₀ (refsS ps).toArray) (hok : okS ps)
    (hown : ∀ p ∈ ps, s.heap.PlainList p.1 p.2.1.toArray ∧ K.get? p.1 = none) (hnd : (ps.map (·.1)).Pairwise (· ≠ ·)) (hpl : ps.length ≤ 1000) (hkl : k ≤ 1000) (hres : c3N k (strsS ps) = some res)
    (h : ∀ a h' K' tk vs, (∀ b o, b ∉ ps.map (·.1) → s.heap.get? b = some o → h'.get? b = some o) → Le K K' → Le K' h' → (∀ a o, K'.get? a = some o → K.get? a = none → a ∈ ps.map (·.1) ∨ s.heap.get? a = none) →
      K'.PlainList a vs.toArray → Rel2 IsS vs res → Q (.ref a) { s with heap := h', toks := tk }) :
    wpAny (model prg w) A (call (.ref 64) [.ref l₀]) Q E s := by
  refine call_def (binds := [("sequences", .ref l₀)]) hA hB hle (hB.frag 64 _ rfl) rfl ⟨_, _, _, _, rfl, hB.frag 63 _ rfl, rfl, rfl⟩ rfl rfl rfl ?_
  intro h₁ tk hA' S₁
  -- the lists are the frame's own from here on
  have m0 : ∀ b, (mask s.heap fun b => !(ps.map (·.1)).contains b).get? b = if b ∈ ps.map (·.1) then none else s.heap.get? b := fun b => by
    rw [mask_get]
    by_cases hb : b ∈ ps.map (·.1)
    · have : (ps.map (·.1)).contains b = true := by simpa using hb
      rw [this, if_pos hb]; rfl
    · have : (ps.map (·.1)).contains b = false := by simpa using hb
      rw [this, if_neg hb]; rfl
  have S₂ := (S₁.rebase (h₀' := mask s.heap fun b => !(ps.map (·.1)).contains b) (fun b o e => by
    rw [m0] at e; split at e
    · cases e
    · exact e)).addOwn (l := ownS ps) (fun p hp => by
      obtain ⟨q, hq, rfl⟩ := List.mem_map.mp hp
      obtain ⟨pl, kn⟩ := hown q hq
      refine ⟨of_plain (pl_le pl S₁.base), by rw [m0, if_pos (List.mem_map.mpr ⟨q, hq, rfl⟩)], kn, fun e => ?_⟩
      obtain ⟨_, e'⟩ := pl
      have e : q.1 = s.heap.objs.size := e
      rw [e, none_size] at e'; cases e') (List.pairwise_map.mpr (List.pairwise_map.mp hnd)) (fun _ _ e => by cases e)
  clear S₁
  generalize (mask s.heap fun b => !(ps.map (·.1)).contains b) = h₀ at m0 S₂
  refine wpAny_execs_cons (wpAny_Assign_Name (List_ (spliced_none (nl fun h₂ l₂ p₂ => ?_))))
  have S₃ := S₂.push l₂ (of_plain p₂) (none_size _)
  generalize h₁.objs.size = r at S₃
  refine st_local S₃ fun h₃ tk₃ S₄ => ?_
  clear S₂ S₃ p₂ l₂
  refine wpAny_execs_cons (wpAny_While (while_rule (fun j K' m' cm' own' => ∃ l qs vr pre rest, own' = (r, listO vr) :: ownS qs ∧ m' "sequences" = some (.ref l) ∧ m' "result" = some (.ref r) ∧
    K'.PlainList l (refsS qs).toArray ∧ okS qs ∧ qs.length ≤ 1000 ∧ j ≤ 1000 ∧ vr.length + j ≤ 1000 ∧ Rel2 IsS vr pre ∧ c3N j (strsS qs) = some rest ∧ res = pre ++ rest) k S₄
    ⟨l₀, ps, [], [], res, rfl, rfl, rfl, hl, hok, hpl, hkl, by simpa using hkl, .nil, hres, rfl⟩ ?_))
  clear S₄ hown hl hok hnd hpl hkl hres
  rintro j K₁ m₁ cm₁ own₁ h₁ tk₁ E' hK₁ ⟨l, qs, vr, pre, rest, rfl, m1, m2, hl, hok, hql, hj, hvr, hpre, hc3, hres⟩ S₁
  refine wpAny_isTrue_value (wpAny_Constant_bool (wpAny_truthy_bool (br_t rfl ?_)))
  -- sequences = [s for s in sequences if s]
  refine wpAny_execs_cons (Assign_ListComp_K rfl (closureFor_none (by decide)) (by decide) rfl (by decide) (fun y c e => by cases e) List.Pairwise.nil rfl rfl (x_local S₁.x m1
    ⟨_, _, _, _, _, (fun i K' acc => acc = refsS ((qs.take i).filter fun p => neF p.2.2)), src_list hA'.handled hl, S₁, ?_, rfl, ?_, ?_⟩))
  · show _ ≤ 16777216
    simp [refsS]; omega
  · rintro C i v K' m' acc R h' tk' E'' hi hv hK' rfl S'
    obtain ⟨p, hp, rfl⟩ := refs_get hv
    have hpm : p ∈ qs := List.mem_of_getElem? hp
    refine wpAny_assign_Name (st_local S' fun h₂ tk₂ S₂ => ?_)
    have pl : h₂.PlainList p.1 p.2.1.toArray := pl_le (plain_of (S₁.has (p.1, listO p.2.1) (List.mem_cons_of_mem _ (List.mem_map.mpr ⟨p, hpm, rfl⟩))).1) S₂.base
    have hlen := (hok p hpm).2
    refine wpAny_tests_one (wpAny_isTrue_value (x_local S₂.x rfl (truthy_l pl (by show _ ≤ 16777216; omega) fun tk₃ => ?_)))
    have e := hok.ne hpm
    by_cases hn : neF p.2.2 = true
    · refine br_t (by rw [← e]; exact hn) ?_
      refine x_local S₂.x rfl ?_
      refine ⟨h₂, _, K', _, rfl, Le.refl _, ?_, S₂⟩
      show _ = _
      rw [take_succ hp, List.filter_append]
      simp [refsS, hn]
    · have hn : neF p.2.2 = false := by simpa using hn
      refine br_f (by rw [← e]; exact hn) ?_
      refine ⟨h₂, _, K', _, rfl, Le.refl _, ?_, S₂⟩
      show _ = _
      rw [take_succ hp, List.filter_append]
      simp [refsS, hn]
  · rintro l' ys K₂ K₃ h₂ tk₂ rfl hK₂ hK₃ S₂ hl' - -
    have hfull : qs.take (refsS qs).length = qs := by rw [List.take_of_length_le]; simp [refsS]
    rw [hfull] at hl'
    have hqs : (qs.filter fun p => neF p.2.2).length ≤ 1000 := Nat.le_trans (List.length_filter_le _ _) hql
    have hstr : strsS (qs.filter fun p => neF p.2.2) = (strsS qs).filter neF := by
      unfold strsS; rw [List.filter_map]; rfl
    have hok' : okS (qs.filter fun p => neF p.2.2) := fun p hp => hok p (List.mem_filter.mp hp).1
    have hne : ∀ p ∈ qs.filter (fun p => neF p.2.2), neF p.2.2 = true := fun p hp => (List.mem_filter.mp hp).2
    have S₂ := S₂.fewer (own' := (r, listO vr) :: ownS (qs.filter fun p => neF p.2.2)) (List.Sublist.cons₂ _ (List.Sublist.map _ List.filter_sublist))
    generalize (qs.filter fun p => neF p.2.2) = q at hl' hqs hstr hok' hne S₂
    clear S₁ hl hok hfull
    -- if not sequences: return result
    refine wpAny_execs_cons (wpAny_If (wpAny_isTrue_Not (wpAny_isTrue_value (x_local S₂.x rfl (truthy_l (pl_le hl' S₂.x.kh) (by show _ ≤ 16777216; simp [refsS]; omega) fun tk₃ => ?_)))))
    cases j with
    | zero => cases hc3
    | succ j =>
    unfold c3N at hc3
    rw [← hstr] at hc3
    by_cases hq : q = []
    · subst hq
      refine br_t (by simp [refsS]) ?_
      refine wpAny_execs_cons (wpAny_Return_some (x_local S₂.x m2 ?_))
      rw [if_pos (show strsS [] = [] from rfl)] at hc3
      cases hc3
      obtain ⟨K₄, o, S₅, hK₄, hko, hO, _⟩ := S₂.freeze
      refine h r h₂ K₄ _ vr (fun b o hb e => ?_) S₅.kk S₅.x.kh (fun a o e q => ?_) (plain_of ⟨o, hko, hO⟩) (by rw [hres, List.append_nil]; exact hpre)
      · exact S₅.base _ _ (by rw [m0, if_neg hb]; exact e)
      · have := S₅.new a o e q
        rw [m0] at this
        by_cases hb : a ∈ ps.map (·.1)
        · exact .inl hb
        · rw [if_neg hb] at this; exact .inr this
    · refine br_f (by simpa [refsS] using hq) (wpAny_execs_nil ?_)
      have hsq : strsS q ≠ [] := by simpa [strsS] using hq
      rw [if_neg hsq] at hc3
      cases hcd : cand (strsS q) (strsS q) with
      | none => rw [hcd] at hc3; cases hc3
      | some x =>
      rw [hcd] at hc3
      dsimp only at hc3
      cases hc4 : c3N j ((strsS q).map (popH x)) with
      | none => rw [hc4] at hc3; cases hc3
      | some rest' =>
      rw [hc4] at hc3
      cases hc3
      -- the candidate
      refine seq5 (s := s) S₂ (own' := (r, listO vr) :: ownS q) (fun K' m' cm' => (∃ t, m' "candidate" = some (.str x t)) ∧ m' "sequences" = some (.ref l') ∧ m' "result" = some (.ref r)) ?_ ?_
      · refine wpAny_For (x_local S₂.x rfl (iter_list hA'.handled S₂ hl' (fun i K' m' cm' own' => own' = (r, listO vr) :: ownS q ∧ m' "sequences" = some (.ref l') ∧ m' "result" = some (.ref r) ∧ cand (strsS q) (strsS (q.drop i)) = some x) ⟨rfl, rfl, m2, hcd⟩ ?_ ?_))
        · rintro i v K₄ m₄ cm₄ own₄ R h₄ tk₄ E₄ hv hK₄ ⟨rfl, m3, m4, hc⟩ S₄
          obtain ⟨p, hp, rfl⟩ := refs_get hv
          have hpm : p ∈ q := List.mem_of_getElem? hp
          have hdrop : q.drop i = p :: q.drop (i + 1) := by
            have := List.drop_eq_getElem_cons (l := q) (i := i) (List.getElem?_eq_some_iff.mp hp).1
            rw [this, (List.getElem?_eq_some_iff.mp hp).2]
          rw [hdrop] at hc
          obtain ⟨y, ys, hy⟩ : ∃ y ys, p.2.2 = y :: ys := by
            have := hne p hpm
            cases e : p.2.2 with
            | nil => rw [e] at this; cases this
            | cons y ys => exact ⟨y, ys, rfl⟩
          have hc' : (if (strsS q).any (fun u => decide (y ∈ u.tail)) then cand (strsS q) (strsS (q.drop (i + 1))) else some y) = some x := by
            have : strsS (p :: q.drop (i + 1)) = (y :: ys) :: strsS (q.drop (i + 1)) := by simp [strsS, hy]
            rw [this] at hc
            exact hc
          refine wpAny_assign_Name (st_local S₄ fun h₅ tk₅ S₅ => ?_)
          have hv0 : ∃ v0, p.2.1[(0 : Int).toNat]? = some v0 ∧ IsS v0 y := (hok' p hpm).1.get' (i := 0) (by rw [hy]; rfl)
          obtain ⟨v0, hv0, t0, rfl⟩ := hv0
          refine wpAny_execs_cons (wpAny_Assign_Name (Subscript_ (x_local S₅.x rfl (wpAny_Constant_int (item_l (plain_of (S₅.has (p.1, listO p.2.1) (List.mem_append_left _ (List.mem_cons_of_mem _ (List.mem_map.mpr ⟨p, hpm, rfl⟩)))).1) (by decide) (by decide) hv0 ?_)))))
          refine st_local S₅ fun h₆ tk₆ S₆ => ?_
          -- the inner loop
          refine wpAny_execs_cons (wpAny_For (x_local S₆.x m3 (iter_list hA'.handled S₆ (pl_le hl' hK₄) (fun i₂ K' m' cm' own' => own' = ((r, listO vr) :: ownS q) ++ R ∧ m' "sequences" = some (.ref l') ∧ m' "result" = some (.ref r) ∧ m' "candidate" = some (.str y t0) ∧
            (strsS (q.take i₂)).any (fun u => decide (y ∈ u.tail)) = false) ⟨rfl, m3, m4, rfl, rfl⟩ ?_ ?_)))
          · rintro i₂ v K₇ m₇ cm₇ own₇ R₂ h₇ tk₇ E₇ hv₂ hK₇ ⟨rfl, m5, m6, m7, hnone⟩ S₇
            obtain ⟨p₂, hp₂, rfl⟩ := refs_get hv₂
            have hpm₂ : p₂ ∈ q := List.mem_of_getElem? hp₂
            refine wpAny_assign_Name (st_local S₇ fun h₈ tk₈ S₈ => ?_)
            have pl₂ := plain_of (S₈.has (p₂.1, listO p₂.2.1) (List.mem_append_left _ (List.mem_append_left _ (List.mem_cons_of_mem _ (List.mem_map.mpr ⟨p₂, hpm₂, rfl⟩))))).1
            have hlen₂ := (hok' p₂ hpm₂).2
            refine wpAny_execs_cons (wpAny_If (wpAny_isTrue_Compare1 (x_local S₈.x m7 (sub_list_from (k := 1) (x_local S₈.x rfl ⟨_, _, _, rfl, pl₂, S₈.x.kh, by show _ ≤ 16777216; omega, fun a₉ h₉ K₉ tk₉ g₉ pl₉ _ => ?_⟩)))))
            have S₉ := S₈.grow g₉
            refine in_l (pl_le pl₉ S₉.x.kh) ((hok' p₂ hpm₂).1.drop 1) (wpAny_truthy_bool ?_)
            by_cases hin : y ∈ p₂.2.2.drop 1
            · refine br_t (decide_eq_true hin) ?_
              refine wpAny_execs_cons (wpAny_Assign_Name (wpAny_Constant_none (st_local S₉ fun h₁₀ tk₁₀ S₁₀ => ?_)))
              refine wpAny_execs_cons (wpAny_Break ?_)
              -- the outer loop goes on
              refine wpAny_execs_nil ?_
              refine ⟨h₁₀, _, _, _, _, (r, listO vr) :: ownS q, rfl, hK₇.trans g₉.kk, ⟨rfl, ?_, ?_, ?_⟩, S₁₀.fewer (List.sublist_append_left _ _)⟩
              · exact m5
              · exact m6
              · have hany : (strsS q).any (fun u => decide (y ∈ u.tail)) = true := by
                  rw [List.any_eq_true]
                  exact ⟨p₂.2.2, List.mem_map.mpr ⟨p₂, hpm₂, rfl⟩, by rw [List.drop_one] at hin; exact decide_eq_true hin⟩
                rw [if_pos hany] at hc'
                exact hc'
            · refine br_f (decide_eq_false hin) (wpAny_execs_nil (wpAny_execs_nil ?_))
              refine ⟨h₉, _, K₉, _, _, ((r, listO vr) :: ownS q) ++ R, rfl, g₉.kk, ⟨rfl, ?_, ?_, ?_, ?_⟩, S₉⟩
              · exact m5
              · exact m6
              · exact m7
              · rw [take_succ hp₂]
                rw [List.drop_one] at hin
                simp only [strsS, List.map_append, List.any_append] at hnone ⊢
                rw [hnone]
                simp [hin]
          · rintro K₇ m₇ cm₇ own₇ h₇ tk₇ E₇ hK₇ ⟨rfl, m5, m6, m7, hnone⟩ S₇
            rw [List.take_of_length_le (by simp [refsS])] at hnone
            rw [if_neg (by rw [hnone]; exact Bool.false_ne_true)] at hc'
            cases hc'
            refine wpAny_execs_cons (wpAny_Break ?_)
            exact ⟨rfl, h₇, _, K₇, _, _, rfl, hK₄.trans hK₇, ⟨⟨_, m7⟩, m5, m6⟩, S₇.fewer (List.sublist_append_left _ _)⟩
        · rintro K₄ m₄ cm₄ own₄ h₄ tk₄ E₄ hK₄ ⟨rfl, m3, m4, hc⟩ S₄
          rw [List.drop_of_length_le (by simp [refsS])] at hc
          cases hc
      · rintro h₃ tk₃ K₄ m₃ cm₃ hK₄ ⟨⟨tc, m3⟩, m4, m5⟩ S₃
        refine wpAny_execs_cons (wpAny_If (wpAny_isTrue_Compare1 (x_local S₃.x m3 (wpAny_Constant_none (is_str_none (wpAny_truthy_bool (br_f rfl (wpAny_execs_nil ?_))))))))
        refine wpAny_execs_cons (wpAny_Expr (Call_method1 rfl rfl rfl (x_local S₃.x m5 (append_own (l₁ := []) (S₃.has _ List.mem_cons_self).1 (x_local S₃.x m3 ⟨_, _, _, S₃, by show _ ≤ 16777216; omega, fun h₄ S₄ => ?_⟩)))))
        -- the heads are taken off
        refine seq5 (s := s) S₄ (own' := (r, listO (vr ++ [.str x tc])) :: ownS (q.map fun p => (p.1, (if p.2.2.head? = some x then p.2.1.tail else p.2.1), popH x p.2.2))) (fun K' m' cm' => m' "sequences" = some (.ref l') ∧ m' "result" = some (.ref r)) ?_ ?_
        · refine wpAny_For (x_local S₄.x m4 (iter_list hA'.handled S₄ (pl_le hl' hK₄) (fun i K' m' cm' own' => m' "sequences" = some (.ref l') ∧ m' "result" = some (.ref r) ∧ m' "candidate" = some (.str x tc) ∧
            own' = (r, listO (vr ++ [.str x tc])) :: (ownS ((q.take i).map fun p => (p.1, (if p.2.2.head? = some x then p.2.1.tail else p.2.1), popH x p.2.2)) ++ ownS (q.drop i))) ⟨m4, m5, m3, rfl⟩ ?_ ?_))
          · rintro i v K₅ m₅ cm₅ own₅ R h₅ tk₅ E₅ hv hK₅ ⟨m6, m7, m8, rfl⟩ S₅
            obtain ⟨p, hp, rfl⟩ := refs_get hv
            have hpm : p ∈ q := List.mem_of_getElem? hp
            have hdrop : q.drop i = p :: q.drop (i + 1) := by
              have := List.drop_eq_getElem_cons (l := q) (i := i) (List.getElem?_eq_some_iff.mp hp).1
              rw [this, (List.getElem?_eq_some_iff.mp hp).2]
            obtain ⟨y, ys, hy⟩ : ∃ y ys, p.2.2 = y :: ys := by
              have := hne p hpm
              cases e : p.2.2 with
              | nil => rw [e] at this; cases this
              | cons y ys => exact ⟨y, ys, rfl⟩
            have hv0 : ∃ v0, p.2.1[(0 : Int).toNat]? = some v0 ∧ IsS v0 y := (hok' p hpm).1.get' (i := 0) (by rw [hy]; rfl)
            obtain ⟨v0, hv0, t0, rfl⟩ := hv0
            have e1 : ((r, listO (vr ++ [.str x tc])) :: (ownS ((q.take i).map fun p => (p.1, (if p.2.2.head? = some x then p.2.1.tail else p.2.1), popH x p.2.2)) ++ ownS (q.drop i))) ++ R =
                ((r, listO (vr ++ [.str x tc])) :: ownS ((q.take i).map fun p => (p.1, (if p.2.2.head? = some x then p.2.1.tail else p.2.1), popH x p.2.2))) ++ (p.1, listO p.2.1) :: (ownS (q.drop (i + 1)) ++ R) := by
              rw [hdrop]; simp [ownS]
            have e2 : ∀ (u : List Value), ((r, listO (vr ++ [.str x tc])) :: ownS ((q.take i).map fun p => (p.1, (if p.2.2.head? = some x then p.2.1.tail else p.2.1), popH x p.2.2))) ++ (p.1, listO u) :: (ownS (q.drop (i + 1)) ++ R) =
                ((r, listO (vr ++ [.str x tc])) :: (ownS (((q.take i).map fun p => (p.1, (if p.2.2.head? = some x then p.2.1.tail else p.2.1), popH x p.2.2)) ++ [(p.1, u, popH x p.2.2)]) ++ ownS (q.drop (i + 1)))) ++ R := by
              intro u; simp [ownS]
            have e3 : ∀ u, (if p.2.2.head? = some x then p.2.1.tail else p.2.1) = u → (q.take i).map (fun p => (p.1, (if p.2.2.head? = some x then p.2.1.tail else p.2.1), popH x p.2.2)) ++ [(p.1, u, popH x p.2.2)] =
                (q.take (i + 1)).map fun p => (p.1, (if p.2.2.head? = some x then p.2.1.tail else p.2.1), popH x p.2.2) := by
              intro u hu; rw [take_succ hp, List.map_append, ← hu]; rfl
            rw [e1] at S₅
            have hlen := (hok' p hpm).2
            refine wpAny_assign_Name (st_local S₅ fun h₆ tk₆ S₆ => ?_)
            have pl := plain_of (S₆.has (p.1, listO p.2.1) (by simp)).1
            refine wpAny_execs_cons (wpAny_If (wpAny_isTrue_Compare1 (Subscript_ (x_local S₆.x rfl (wpAny_Constant_int (item_l pl (by decide) (by decide) hv0 (x_local S₆.x m8 (eq_str (wpAny_truthy_bool ?_)))))))))
            have hcons : ∃ v0 vs0, p.2.1 = v0 :: vs0 := by
              cases e : p.2.1 with
              | nil => rw [e] at hv0; cases hv0
              | cons a b => exact ⟨a, b, rfl⟩
            have hidx : seqIndex? 0 p.2.1.toArray.size = some 0 := by
              obtain ⟨a, b, e⟩ := hcons
              rw [e]; simp [seqIndex?]
            have htail : p.2.1.toArray.eraseIdxIfInBounds 0 = p.2.1.tail.toArray := by
              obtain ⟨a, b, e⟩ := hcons
              rw [e]; simp
            by_cases hyx : y = x
            · refine br_t (by rw [hyx]; simp) ?_
              refine wpAny_execs_cons (wpAny_Delete (wpAny_deleteEach_cons (wpAny_delete_Subscript (x_local S₆.x rfl (wpAny_Constant_int (wpAny_delItem_plain (k := 0) pl rfl hidx (fun h₇ pl₇ sb => ?_) (by rw [List.size_toArray]; show _ ≤ 16777216; omega)))))))
              have S₇ := S₆.upd (P' := listO p.2.1.tail) (of_plain (by rw [← htail]; exact pl₇)) fun b o hb q => (sb.2 b hb).trans q
              refine wpAny_deleteEach_nil (wpAny_execs_nil (wpAny_execs_nil ?_))
              rw [e2, e3 _ (by rw [hy, hyx, if_pos (show (x :: ys).head? = some x from rfl)])] at S₇
              refine ⟨h₇, _, K₅, _, _, _, rfl, Le.refl _, ⟨?_, ?_, ?_, rfl⟩, S₇⟩
              · exact m6
              · exact m7
              · exact m8
            · refine br_f (by simpa using hyx) (wpAny_execs_nil (wpAny_execs_nil ?_))
              rw [e2, e3 _ (by rw [hy, if_neg (by simpa using hyx)])] at S₆
              refine ⟨h₆, _, K₅, _, _, _, rfl, Le.refl _, ⟨?_, ?_, ?_, rfl⟩, S₆⟩
              · exact m6
              · exact m7
              · exact m8
          · rintro K₅ m₅ cm₅ own₅ h₅ tk₅ E₅ hK₅ ⟨m6, m7, m8, rfl⟩ S₅
            rw [List.take_of_length_le (by simp [refsS]), List.drop_of_length_le (by simp [refsS])] at S₅
            rw [show ownS ([] : Seqs) = [] from rfl, List.append_nil] at S₅
            exact wpAny_execs_nil ⟨rfl, h₅, _, K₅, _, _, rfl, hK₅, ⟨m6, m7⟩, S₅⟩
        · rintro h₅ tk₅ K₅ m₅ cm₅ hK₅ ⟨m6, m7⟩ S₅
          refine wpAny_execs_nil ?_
          refine ⟨h₅, _, K₅, _, _, _, rfl, (hK₃.trans hK₄).trans hK₅, ⟨j, Nat.lt_succ_self j, l', q.map fun p => (p.1, (if p.2.2.head? = some x then p.2.1.tail else p.2.1), popH x p.2.2), _, pre ++ [x], rest', rfl, m6, m7, ?_, ?_, ?_, ?_, ?_, ?_, ?_, ?_⟩, by rw [List.append_nil]; exact S₅⟩
          · have : refsS (q.map fun p => (p.1, (if p.2.2.head? = some x then p.2.1.tail else p.2.1), popH x p.2.2)) = refsS q := by simp [refsS]
            rw [this]
            exact pl_le hl' (hK₄.trans hK₅)
          · intro p' hp'
            obtain ⟨p, hp, rfl⟩ := List.mem_map.mp hp'
            obtain ⟨a, b⟩ := hok' p hp
            obtain ⟨y, ys, hy⟩ : ∃ y ys, p.2.2 = y :: ys := by
              have := hne p hp
              cases e : p.2.2 with
              | nil => rw [e] at this; cases this
              | cons y ys => exact ⟨y, ys, rfl⟩
            dsimp only
            by_cases hyx : y = x
            · rw [hy, if_pos (by rw [hyx]; rfl)]
              refine ⟨?_, by rw [List.length_tail]; omega⟩
              have := a.drop 1
              rw [hy, List.drop_one] at this
              simpa [popH, hyx] using this
            · rw [hy, if_neg (by simpa using hyx)]
              refine ⟨?_, b⟩
              rw [hy] at a
              simpa [popH, hyx] using a
          · simpa using hqs
          · omega
          · simp; omega
          · exact hpre.append (.cons ⟨_, rfl⟩ .nil)
          · have : strsS (q.map fun p => (p.1, (if p.2.2.head? = some x then p.2.1.tail else p.2.1), popH x p.2.2)) = (strsS q).map (popH x) := by simp [strsS]
            rw [this]; exact hc4
          · rw [hres]; simp
end
end Mine
end
section
open PySem PySem.W PyProof.Rows PySem.SeqAt
namespace Mine
/-! lists compared -/
theorem rel_eqAll {α : Type} [DecidableEq α] {xs ys : List α} (h : xs.length = ys.length) : ((List.range xs.length).all fun j => decide (xs[j]? = ys[j]?)) = decide (xs = ys) := by
  rw [Bool.eq_iff_iff]
  simp only [List.all_eq_true, List.mem_range, decide_eq_true_eq]
  constructor
  · intro q
    refine List.ext_getElem? fun i => ?_
    by_cases hi : i < xs.length
    · exact q i hi
    · rw [List.getElem?_eq_none (by omega), List.getElem?_eq_none (by omega)]
  · rintro rfl _ _; rfl
section
variable {w : World} {A : Around} {E : Value → Shared → Prop} {s : Shared}
theorem eq_l {α : Type} [DecidableEq α] {P : Value → α → Prop} {l b : Addr} {vs ws : List Value} {xs ys : List α} {Q : Value → Shared → Prop} (hu : A.units < 9000) (hl : s.heap.PlainList l vs.toArray) (hb : s.heap.PlainList b ws.toArray)
    (hv : Rel2 P vs xs) (hw : Rel2 P ws ys) (he : ∀ v x u y, P v x → P u y → EqAt A.in1 s v u (decide (x = y))) (h : Q (.bool (decide (xs = ys))) s) : wpAny (model prg w) A (compareOp .Eq (.ref l) (.ref b)) Q E s := by
  have hu : A.units < cLine := by show A.units < 9900; omega
  by_cases hn : xs.length = ys.length
  · have hsz : vs.toArray.size = ws.toArray.size := by simp [hv.length, hw.length, hn]
    refine eq_listAt (e := fun j => decide (xs[j]? = ys[j]?)) hl.isList hb.isList hsz hu (fun j h1 h2 => ?_) ?_
    · have e1 : vs[j]? = some (vs.toArray[j]) := by simp at h1 ⊢; 
      have e2 : ws[j]? = some (ws.toArray[j]) := by simp at h2 ⊢; 
      obtain ⟨x, ex, px⟩ := hv.get e1
      obtain ⟨y, ey, py⟩ := hw.get e2
      have := he _ _ _ _ px py
      rw [ex, ey]
      have e3 : decide (x = y) = decide (some x = some y) := by simp
      rw [← e3]; exact this
    · have : vs.toArray.size = xs.length := by simp [hv.length]
      rw [this, rel_eqAll hn]; exact h
  · refine eq_list_lengthsAt hl.isList hb.isList (by simpa [hv.length, hw.length] using hn) hu ?_
    have : decide (xs = ys) = false := by
      rw [decide_eq_false_iff_not]; rintro rfl; exact hn rfl
    rw [← this]; exact h
theorem eqAt_str {v u : Value} {x y : Str} (hv : IsS v x) (hu : IsS u y) : EqAt A s v u (decide (x = y)) := by
  obtain ⟨t, rfl⟩ := hv
  obtain ⟨t', rfl⟩ := hu
  intro prog w E Q q
  refine eqBool_str ?_
  have : (x == y) = decide (x = y) := by rw [Bool.eq_iff_iff]; simp
  rw [this]; exact q
theorem eqAt_int {v u : Value} {x y : Int} (hv : IsI v x) (hu : IsI u y) : EqAt A s v u (decide (x = y)) := by
  obtain ⟨t, rfl⟩ := hv
  obtain ⟨t', rfl⟩ := hu
  intro prog w E Q q
  refine wpAny_eqBool_int ?_
  exact q
end
/-! tables by texts -/
def lookD {α : Type} (f : List (Str × α)) (k : Str) : Option α := (f.find? fun p => p.1 = k).map (·.2)
def putD {α : Type} (f : List (Str × α)) (k : Str) (v : α) : List (Str × α) := if f.any (fun p => p.1 = k) then f.map (fun p => if p.1 = k then (p.1, v) else p) else f ++ [(k, v)]
def RelD {α : Type} (P : Value → α → Prop) (kvs : List (Str × Value)) (f : List (Str × α)) : Prop := Rel2 (fun p q => p.1 = q.1 ∧ P p.2 q.2) kvs f
section
variable {α : Type} {P : Value → α → Prop}
theorem RelD.look {kvs : List (Str × Value)} {f : List (Str × α)} (h : RelD P kvs f) (k : Str) :
    (lookD f k = none ∧ valueAt kvs k = none) ∨ ∃ y v, lookD f k = some y ∧ valueAt kvs k = some v ∧ P v y := by
  induction h with
  | nil => exact .inl ⟨rfl, rfl⟩
  | @cons p q kvs f h _ ih =>
    obtain ⟨e, hp⟩ := h
    by_cases hk : q.1 = k
    · refine .inr ⟨q.2, p.2, ?_, ?_, hp⟩
      · simp [lookD, List.find?_cons, hk]
      · simp [valueAt, List.find?_cons, e, hk]
    · have e1 : lookD (q :: f) k = lookD f k := by simp [lookD, List.find?_cons, hk]
      have e2 : valueAt (p :: kvs) k = valueAt kvs k := by simp [valueAt, List.find?_cons, e, hk]
      rw [e1, e2]; exact ih
theorem RelD.any {kvs : List (Str × Value)} {f : List (Str × α)} (h : RelD P kvs f) (k : Str) : kvs.any (fun p => p.1 = k) = f.any (fun p => p.1 = k) := by
  induction h with
  | nil => rfl
  | cons h _ ih => rw [List.any_cons, List.any_cons, ih, h.1]
theorem RelD.put {kvs : List (Str × Value)} {f : List (Str × α)} (h : RelD P kvs f) {k : Str} {v : Value} {y : α} (hp : P v y) : RelD P (stored kvs k v) (putD f k y) := by
  unfold stored putD
  rw [h.any k]
  by_cases ha : f.any (fun p => p.1 = k) = true
  · rw [if_pos ha, if_pos ha]
    clear ha
    induction h with
    | nil => exact .nil
    | @cons p q kvs f h _ ih =>
      refine .cons ?_ ih
      dsimp only
      by_cases hk : q.1 = k
      · have hk' : p.1 = k := h.1.trans hk
        rw [if_pos hk, if_pos hk']; exact ⟨h.1, hp⟩
      · have hk' : ¬ p.1 = k := fun e => hk (h.1.symm.trans e)
        rw [if_neg hk, if_neg hk']; exact h
  · rw [if_neg ha, if_neg ha]
    exact h.append (.cons ⟨rfl, hp⟩ .nil)
theorem RelD.mono {Q : Value → α → Prop} {kvs : List (Str × Value)} {f : List (Str × α)} (h : RelD P kvs f) (g : ∀ v x, P v x → Q v x) : RelD Q kvs f := Rel2.mono h fun _ _ q => ⟨q.1, g _ _ q.2⟩
end
theorem putD_length {α : Type} (f : List (Str × α)) (k : Str) (v : α) : (putD f k v).length ≤ f.length + 1 := by
  unfold putD; split <;> simp
def dictO (w : World) (kvs : List (Str × Value)) : Obj → Prop := fun o => o.IsDictOf (strKind prg w) kvs
theorem dict_of {w : World} {h : Heap} {a : Addr} {kvs : List (Str × Value)} (x : ∃ o, h.get? a = some o ∧ dictO w kvs o) : h.DictOf (strKind prg w) a kvs := Heap.dictOf_iff.mpr x
theorem of_dict {w : World} {h : Heap} {a : Addr} {kvs : List (Str × Value)} (x : h.DictOf (strKind prg w) a kvs) : ∃ o, h.get? a = some o ∧ dictO w kvs o := Heap.dictOf_iff.mp x
section
variable {w : World} {A : Around} {E : Value → Shared → Prop} {s : Shared}
theorem ne_mods {d : Addr} (h : d ≠ 1) : (d == sysModules) = false := by
  show (d == 1) = false
  simpa using h
/-- d.get(k, n) -/
theorem get_d {pos : Pos} {x y : Sem Value} {d : Addr} {Q : Value → Shared → Prop} (hd : ∃ kvs, s.heap.DictOf (strKind prg w) d kvs) (h1 : d ≠ 1)
    (h : wpAny (model prg w) A x (fun key s₁ => wpAny (model prg w) A y (fun dflt s₂ => ∃ (k : Str) (t : Tok) (n : Int) (u : Tok) (kvs : List (Str × Value)) (f : List (Str × Int)), key = .str k t ∧ dflt = .int n u ∧ s₂.heap.DictOf (strKind prg w) d kvs ∧ RelD IsI kvs f ∧
      ∀ t' tk, Q (.int ((lookD f k).getD n) t') { s₂ with toks := tk }) E s₁) E s) :
    MethodOnS prg w A E "get" (.ref d) pos [(false, x), (false, y)] Q s := by
  obtain ⟨kvs, hd⟩ := hd
  refine ⟨"dict", "dict.get", F.plainAttrs_dict, F.slot_dict_get, F.type_dict_get, hd.typeIs, hd.mapOf.noDict, wpAny_dict_get2 (knd := strKind prg w) (ne_mods h1) (wpAny_mono h (fun key s₁ h₁ => wpAny_mono h₁ (fun dflt s₂ h₂ => ?_) fun _ _ e => e) fun _ _ e => e)⟩
  obtain ⟨k, t, n, u, kvs', f, rfl, rfl, hd', hr, h₂⟩ := h₂
  refine ⟨k, _, strKind_is _ _ _ _, hd'.mapOf, ?_⟩
  rcases hr.look k with ⟨e1, e2⟩ | ⟨y, v, e1, e2, t', rfl⟩
  · rw [e2]
    have := h₂ u (s₂.toks + 1)
    rw [e1] at this
    exact this
  · rw [e2]
    have := h₂ t' (s₂.toks + 1)
    rw [e1] at this
    exact this
/-- d.get(k, x), texts -/
theorem get_ds {pos : Pos} {x y : Sem Value} {d : Addr} {Q : Value → Shared → Prop} (hd : ∃ kvs, s.heap.DictOf (strKind prg w) d kvs) (h1 : d ≠ 1)
    (h : wpAny (model prg w) A x (fun key s₁ => wpAny (model prg w) A y (fun dflt s₂ => ∃ (k : Str) (t : Tok) (n : Str) (u : Tok) (kvs : List (Str × Value)) (f : List (Str × Str)), key = .str k t ∧ dflt = .str n u ∧ s₂.heap.DictOf (strKind prg w) d kvs ∧ RelD IsS kvs f ∧
      ∀ t' tk, Q (.str ((lookD f k).getD n) t') { s₂ with toks := tk }) E s₁) E s) :
    MethodOnS prg w A E "get" (.ref d) pos [(false, x), (false, y)] Q s := by
  obtain ⟨kvs, hd⟩ := hd
  refine ⟨"dict", "dict.get", F.plainAttrs_dict, F.slot_dict_get, F.type_dict_get, hd.typeIs, hd.mapOf.noDict, wpAny_dict_get2 (knd := strKind prg w) (ne_mods h1) (wpAny_mono h (fun key s₁ h₁ => wpAny_mono h₁ (fun dflt s₂ h₂ => ?_) fun _ _ e => e) fun _ _ e => e)⟩
  obtain ⟨k, t, n, u, kvs', f, rfl, rfl, hd', hr, h₂⟩ := h₂
  refine ⟨k, _, strKind_is _ _ _ _, hd'.mapOf, ?_⟩
  rcases hr.look k with ⟨e1, e2⟩ | ⟨y, v, e1, e2, t', rfl⟩
  · rw [e2]
    have := h₂ u (s₂.toks + 1)
    rw [e1] at this
    exact this
  · rw [e2]
    have := h₂ t' (s₂.toks + 1)
    rw [e1] at this
    exact this
/-- k in d -/
theorem in_d {α : Type} {P : Value → α → Prop} {d : Addr} {k : Str} {t : Tok} {kvs : List (Str × Value)} {f : List (Str × α)} {Q : Value → Shared → Prop} (hd : s.heap.DictOf (strKind prg w) d kvs) (h1 : d ≠ 1) (hr : RelD P kvs f)
    (h : ∀ tk, Q (.bool (lookD f k).isSome) { s with toks := tk }) : wpAny (model prg w) A (compareOp .In (.str k t) (.ref d)) Q E s := by
  refine wpAny_in_of (knd := strKind prg w) (strKind_is _ _ k _) (ne_mods h1) hd.mapOf ?_
  have e : (valueAt kvs k).isSome = (lookD f k).isSome := by
    rcases hr.look k with ⟨e1, e2⟩ | ⟨y, v, e1, e2, _⟩ <;> rw [e1, e2] <;> rfl
  rw [e]; exact h _
/-- d[k] -/
theorem item_d {value slice : Expr} {d : Addr} {k : Str} {t : Tok} {kvs : List (Str × Value)} {f : List (Str × Int)} {n : Int} {Q : Value → Shared → Prop} (hd : s.heap.DictOf (strKind prg w) d kvs) (hr : RelD IsI kvs f) (hk : lookD f k = some n)
    (h : ∀ t' tk, Q (.int n t') { s with toks := tk })
    (hs : subscripted slice false (.ref d) (.str k t) = operate [.ref d, .str k t] (getItem (.ref d) (.str k t)) := by with_unfolding_all rfl) :
    wpAny (model prg w) A (subscriptTail value slice (.ref d) (.str k t)) Q E s := by
  rcases hr.look k with ⟨e1, _⟩ | ⟨y, v, e1, e2, t', rfl⟩
  · rw [hk] at e1; cases e1
  · rw [hk] at e1; cases e1
    exact tail_any hd.typeIs slot_dict_getitem.lookup (wpAny_getItem_of (knd := strKind prg w) (strKind_is _ _ k _) hd.mapOf e2 (h _ _)) hs
end
section
variable {oc : Bool} {w : World} {A : Around} {E : Value → Shared → Prop} {s : Shared} {K Kb h₀ : Heap} {env : Env} {m cm : Str → Option Value}
/-- d[k] = v on an own table -/
theorem put_d {l₁ l₂ : OwnL} {d : Addr} {k : Str} {t : Tok} {v : Value} {kvs : List (Str × Value)} {Q : Unit → Shared → Prop} (x : S oc w h₀ Kb env K m cm (l₁ ++ (d, dictO w kvs) :: l₂) s.heap) (hsz : kvs.length ≤ sizeLine)
    (h : ∀ h' tk, S oc w h₀ Kb env K m cm (l₁ ++ (d, dictO w (stored kvs k v)) :: l₂) h' → Q () { s with heap := h', toks := tk }) : wpAny (model prg w) A (setItem (.ref d) (.str k t) v) Q E s :=
  wpAny_setItem_pairs (knd := strKind prg w) (strKind_is _ _ k _) (dict_of (x.has (d, dictO w kvs) (by simp)).1) (fun h' hd sb => h h' _ (x.upd (of_dict hd) fun b o hb q => (sb.2 b hb).trans q)) hsz
end
end Mine
end
section
open PySem PySem.W PyProof.Rows
namespace Mine
theorem boot_len : bootBuiltins "len" = some (.builtin "len") := by decide +kernel
theorem boot_min : bootBuiltins "min" = some (.builtin "min") := by decide +kernel
theorem boot_sum : bootBuiltins "sum" = some (.builtin "sum") := by decide +kernel
theorem boot_iter : bootBuiltins "iter" = some (.builtin "iter") := by decide +kernel
theorem boot_range : bootBuiltins "range" = some (.type "range") := by decide +kernel
theorem boot_enumerate : bootBuiltins "enumerate" = some (.type "enumerate") := by decide +kernel
section
variable {M : Model} {w : World} {A : Around} {E : Value → Shared → Prop} {s : Shared} {env : Env} {pos : Pos} {Q : Value → Shared → Prop}
theorem cw_bi {id : String} {e : Expr} {rest : List Expr} (h : wpAny M A (spliced (backTo pos (starEach (e :: rest) env))) (fun vs s₁ => wpAny M A (call (.builtin id) vs) Q E s₁) E s)
    (he : starEach (e :: rest) env = (false, eval e env) :: starEach rest env := by rfl) (hplain : (backTo pos (starEach rest env)).any (·.1) = false := by rfl) :
    wpAny M A (callWith pos (.builtin id) [] (backTo pos (starEach (e :: rest) env)) []) Q E s := by
  rw [he] at h ⊢
  exact Calls.callWith_builtin (by show (false || (backTo pos (starEach rest env)).any (·.1)) = false; rw [hplain]; rfl) (Calls.evalArgs_plain h)
/-- sep.join(xs) -/
theorem join_m {x : Sem Value} {sep : Str} {t : Tok}
    (h : wpAny (model prg w) A x (fun v s₁ => ∃ (l : Addr) (vs : List Value) (ys : List Str), v = .ref l ∧ s₁.heap.PlainList l vs.toArray ∧ Rel2 IsS vs ys ∧ (ys.map (·.length)).sum + ys.length * sep.length ≤ 16777216 ∧ ∀ t' k, Q (.str (Txt.join sep ys) t') { s₁ with toks := k }) E s) :
    MethodOnS prg w A E "join" (.str sep t) pos [(false, x)] Q s := by
  refine ⟨"str", "str.join", F.plainAttrs_str, F.slot_str_join, F.type_str_join, typeIs_str _ _ _, (fun _ e => nomatch e), cw_m1 (wpAny_mono h (fun v s₁ h₁ => ?_) fun _ _ e => e)⟩
  obtain ⟨l, vs, ys, rfl, hl, hr, hok, h₁⟩ := h₁
  exact join_list hl.isList (strsAre hr) hok h₁
end
/-- a test comes out so -/
def PostB {oc : Bool} {w : World} {h₀ Kb K h : Heap} {env : Env} {m cm : Str → Option Value} {own : OwnL} (_ : S oc w h₀ Kb env K m cm own h) (s : Shared) (b₀ : Bool) (b : Bool) (s' : Shared) : Prop :=
  b = b₀ ∧ ∃ h' tk' K', s' = { s with heap := h', toks := tk' } ∧ Le K K' ∧ S oc w h₀ Kb env K' m cm own h'
theorem test5 {oc : Bool} {w : World} {A : Around} {E : Value → Shared → Prop} {s s₁ : Shared} {h₀ Kb K h : Heap} {env : Env} {m cm : Str → Option Value} {own : OwnL} {Q : Bool → Shared → Prop} {t : Sem Bool}
    (T : S oc w h₀ Kb env K m cm own h) (b₀ : Bool) (h1 : wpAny (model prg w) A t (PostB T s b₀) E s₁)
    (h2 : ∀ h' tk' K', Le K K' → S oc w h₀ Kb env K' m cm own h' → Q b₀ { s with heap := h', toks := tk' }) : wpAny (model prg w) A t Q E s₁ := by
  refine wpAny_mono h1 (fun b s' p => ?_) fun _ _ e => e
  obtain ⟨rfl, h', tk', K', rfl, hK, S'⟩ := p
  exact h2 h' tk' K' hK S'
end Mine
end
section
open PySem PySem.W PyProof.Rows
namespace Mine
def joinF (xs : List Str) : Str := Txt.join "." xs
def contF (xs : List Str) : Bool := decide (xs.getLast? ≠ some (Str.ofString "7")) && (decide (2 < xs.length) || decide (xs.tail = [Str.ofString "local"]))
def ladderN : Nat → List Str → List Str
  | 0, xs => [joinF xs]
  | k + 1, xs => joinF xs :: (if contF xs then ladderN k xs.tail else [])
def ladderF (xs : List Str) : List Str := ladderN xs.length xs
theorem cont_len {xs : List Str} (h : contF xs = true) : 2 ≤ xs.length := by
  simp only [contF, Bool.and_eq_true, Bool.or_eq_true, decide_eq_true_eq] at h
  rcases h.2 with e | e
  · omega
  · have := congrArg List.length e
    simp at this; omega
theorem ladder_eq {xs : List Str} (h : xs ≠ []) : ladderF xs = joinF xs :: (if contF xs then ladderF xs.tail else []) := by
  cases xs with
  | nil => exact absurd rfl h
  | cons x r => rfl
section
variable {w : World} {A : Around} {E : Value → Shared → Prop} {s : Shared} {K : Heap} {n : Nat}
set_option maxHeartbeats 2000000 in
theorem spec_ladder {l : Addr} {vs : List Value} {xs : List Str} {Q : Value → Shared → Prop} (hA : AOk (n + 1) A) (hB : Base w K) (hle : Le K s.heap) (hl : K.PlainList l vs.toArray) (hr : Rel2 IsS vs xs)
    (hx : xs ≠ []) (hs : (xs.map (·.length)).sum + xs.length ≤ 1000)
    (h : ∀ a h' K' tk vs, Grown K s.heap K' h' → K'.PlainList a vs.toArray → Rel2 IsS vs (ladderF xs) → K.get? a = none → Q (.ref a) { s with heap := h', toks := tk }) :
    wpAny (model prg w) A (call (.ref 137) [.ref l]) Q E s := by
  refine call_def (binds := [("labels", .ref l)]) hA hB hle (hB.frag 137 _ rfl) rfl ⟨_, _, _, _, rfl, hB.frag 136 _ rfl, rfl, rfl⟩ rfl rfl rfl ?_
  intro h₁ tk hA' S₁
  refine wpAny_execs_cons (wpAny_Assign_Name (List_ (spliced_more (Call_method1 rfl rfl rfl (wpAny_Constant_str (join_m (x_local S₁.x rfl ⟨_, _, _, rfl, pl_le hl S₁.x.kh, hr, ?_, fun t₁ k₁ => spliced_none (nl fun h₂ l₂ p₂ => ?_)⟩)))))))
  · show _ + _ * 1 ≤ _; omega
  have S₂ := S₁.push l₂ (of_plain p₂) (none_size _)
  generalize h₁.objs.size = r at S₂ p₂
  refine st_local S₂ fun h₃ tk₃ S₃ => ?_
  refine wpAny_execs_cons (wpAny_While (while_rule (fun k K' m' cm' own' => ∃ pre ys a us vr, k = ys.length ∧ ys ≠ [] ∧ ladderF xs = pre ++ ladderF ys ∧ own' = [(r, listO vr)] ∧ Rel2 IsS vr (pre ++ [joinF ys]) ∧ pre.length + ys.length ≤ 1000 ∧
    K'.PlainList a us.toArray ∧ Rel2 IsS us ys ∧ (ys.map (·.length)).sum + ys.length ≤ 1000 ∧ m' "rungs" = some (.ref r) ∧ m' "labels" = some (.ref a)) _ S₃
    ⟨[], xs, l, vs, _, rfl, hx, rfl, rfl, .cons ⟨_, rfl⟩ .nil, by simp; omega, hl, hr, hs, rfl, rfl⟩ ?_))
  rintro k K₁ m₁ cm₁ own₁ h₆ tk₆ E' hK₁ ⟨pre, ys, a, us, vr, rfl, hne, hc, rfl, hvr, hn, ha, hus, hsum, m1, m2⟩ S₆
  have hlen : us.length = ys.length := hus.length
  have last : ∃ y v, ys.getLast? = some y ∧ us.getLast? = some v ∧ IsS v y := by
    cases e : ys.getLast? with
    | none => rw [List.getLast?_eq_none_iff] at e; exact absurd e hne
    | some y =>
      have e' := e
      rw [List.getLast?_eq_getElem?] at e'
      obtain ⟨v, ev, pv⟩ := hus.get' e'
      exact ⟨y, v, rfl, by rw [List.getLast?_eq_getElem?, hlen]; exact ev, pv⟩
  obtain ⟨y, v, ey, ev, tv, rfl⟩ := last
  refine test5 (s := s) S₆ (contF ys) ?_ ?_
  · refine wpAny_isTrue_BoolOp (wpAny_allTrue_And_cons (wpAny_isTrue_Compare1 (Subscript_ (x_local S₆.x m2 (wpAny_UnaryOp (wpAny_Constant_int (neg_int (item_last (pl_le ha S₆.x.kh) ev (wpAny_Constant_str (ne_str (wpAny_truthy_bool ?_)))))))))))
    by_cases h7 : y = Str.ofString "7"
    · refine br_f (by rw [h7]; rfl) ?_
      exact ⟨by unfold contF; rw [ey, h7]; simp, _, _, _, rfl, Le.refl _, S₆⟩
    · refine br_t (by simpa using h7) ?_
      have e7 : decide (ys.getLast? ≠ some (Str.ofString "7")) = true := by rw [ey]; simpa using h7
      refine wpAny_allTrue_And_cons (wpAny_isTrue_BoolOp (wpAny_allTrue_Or_cons (wpAny_isTrue_Compare1 (Call_ (x_builtin S₆.x rfl boot_len (cw_bi (spliced_more (x_local S₆.x m2 (spliced_none (len_l (pl_le ha S₆.x.kh) (by show _ ≤ 16777216; omega) fun tk₇ t₇ => wpAny_Constant_int (gt_int (wpAny_truthy_bool ?_))))))))))))
      by_cases h2 : 2 < ys.length
      · refine br_t (decide_eq_true (by rw [hlen]; omega)) (br_t rfl (wpAny_allTrue_And_nil ?_))
        exact ⟨by unfold contF; rw [e7, decide_eq_true h2]; rfl, _, _, _, rfl, Le.refl _, S₆⟩
      · refine br_f (decide_eq_false (by rw [hlen]; omega)) ?_
        refine wpAny_allTrue_Or_cons (wpAny_isTrue_Compare1 (sub_list_from (k := 1) (x_local S₆.x m2 ⟨_, _, _, rfl, pl_le ha S₆.x.kh, S₆.x.kh, by show _ ≤ 16777216; omega, fun a₈ h₈ K₈ tk₈ g₈ pl₈ _ => ?_⟩)))
        have S₈ := S₆.grow g₈
        refine List_ (spliced_more (wpAny_Constant_str (spliced_none (nlK S₈.x.kh fun a₉ h₉ K₉ g₉ pl₉ _ => ?_))))
        have S₉ := S₈.grow g₉
        refine eq_l (by have := hA'.units; omega) (pl_le pl₈ (g₉.kk.trans S₉.x.kh)) (pl_le pl₉ S₉.x.kh) (hus.drop 1) (.cons ⟨_, rfl⟩ .nil) (fun _ _ _ _ p q => eqAt_str p q) (wpAny_truthy_bool ?_)
        have e8 : contF ys = decide (ys.drop 1 = [Str.ofString "local"]) := by
          unfold contF; rw [e7, decide_eq_false h2, List.drop_one]; simp
        by_cases h3 : ys.drop 1 = [Str.ofString "local"]
        · refine br_t (decide_eq_true h3) (br_t rfl (wpAny_allTrue_And_nil ?_))
          exact ⟨by rw [e8, decide_eq_true h3], _, _, _, rfl, g₈.kk.trans g₉.kk, S₉⟩
        · refine br_f (decide_eq_false h3) (wpAny_allTrue_Or_nil (br_f rfl ?_))
          exact ⟨by rw [e8, decide_eq_false h3], _, _, _, rfl, g₈.kk.trans g₉.kk, S₉⟩
  intro h₇ tk₇ K₂ hK₂ S₇
  by_cases hc0 : contF ys = true
  · refine br_t hc0 ?_
    have h2 := cont_len hc0
    refine wpAny_execs_cons (wpAny_Assign_Name (sub_list_from (k := 1) (x_local S₇.x m2 ⟨_, _, _, rfl, pl_le ha (hK₂.trans S₇.x.kh), S₇.x.kh, by show _ ≤ 16777216; omega, fun a₈ h₈ K₈ tk₈ g₈ pl₈ _ => ?_⟩)))
    refine st_local (S₇.grow g₈) fun h₉ tk₉ S₉ => ?_
    have hsum2 : ((ys.drop 1).map (·.length)).sum + (ys.drop 1).length ≤ 1000 := by
      cases ys with
      | nil => simp at h2
      | cons z zs => simp at hsum ⊢; omega
    refine wpAny_execs_cons (wpAny_Expr (Call_method1 rfl rfl rfl (x_local S₉.x m1 (append_own (l₁ := []) (l₂ := []) (S₉.has _ List.mem_cons_self).1 (Call_method1 rfl rfl rfl (wpAny_Constant_str (join_m (x_local S₉.x rfl ⟨_, _, _, rfl, pl_le pl₈ S₉.x.kh, hus.drop 1, ?_, fun t₁₀ k₁₀ => ⟨_, _, _, S₉, ?_, fun h₁₀ S₁₀ => ?_⟩⟩))))))))
    · show _ + _ * 1 ≤ _; omega
    · have := hvr.length
      simp at this
      show _ ≤ 16777216
      omega
    refine wpAny_execs_nil ?_
    refine ⟨h₁₀, _, K₈, _, _, [(r, listO (vr ++ [.str (joinF (ys.drop 1)) t₁₀]))], rfl, hK₂.trans g₈.kk, ⟨(ys.drop 1).length, ?_, pre ++ [joinF ys], ys.drop 1, a₈, us.drop 1, _, rfl, ?_, ?_, rfl, hvr.append (.cons ⟨_, rfl⟩ .nil), ?_, pl₈, hus.drop 1, hsum2, ?_, ?_⟩, S₁₀⟩
    · simp; omega
    · intro e
      have := congrArg List.length e
      simp at this; omega
    · rw [hc, ladder_eq hne, hc0, List.drop_one]; simp
    · simp; omega
    · exact m1
    · rfl
  · have hc0 : contF ys = false := by simpa using hc0
    refine br_f hc0 (wpAny_execs_nil (wpAny_execs_cons (wpAny_Return_some (x_local S₇.x m1 ?_))))
    obtain ⟨K', o, S₈, hK, hko, hO, _⟩ := S₇.freeze
    refine h r _ K' _ vr S₈.grown (plain_of ⟨o, hko, hO⟩) ?_ (S₇.kk.none (S₇.has _ List.mem_cons_self).2.2.1)
    rw [hc, ladder_eq hne, hc0]
    exact hvr
end
end Mine
end
section
open PySem PySem.W PyProof.Rows PySem.SeqAt
namespace Mine
/-- a list of texts in the kept part -/
def LStr (K : Heap) (v : Value) (xs : List Str) : Prop := ∃ a vs, v = .ref a ∧ K.PlainList a vs.toArray ∧ Rel2 IsS vs xs
theorem LStr.le {K K' : Heap} {v : Value} {xs : List Str} (x : LStr K v xs) (l : Le K K') : LStr K' v xs := let ⟨a, vs, e, p, r⟩ := x; ⟨a, vs, e, pl_le p l, r⟩
theorem ll_le {K K' : Heap} {us : List Value} {ls : List (List Str)} (x : Rel2 (LStr K) us ls) (l : Le K K') : Rel2 (LStr K') us ls := x.mono fun _ _ q => q.le l
/-- an object goes into the kept part for a while -/
theorem lend {K h : Heap} {r : Addr} {o : Obj} (x : Le K h) (e : h.get? r = some o) : ∃ K₁, Le K K₁ ∧ Le K₁ h ∧ K₁.get? r = some o ∧ ∀ b, b ≠ r → K₁.get? b = K.get? b := by
  refine ⟨freeze K h r, fun b o' e' => ?_, fun b o' e' => ?_, by rw [freeze_get x, if_pos rfl]; exact e, fun b hb => by rw [freeze_get x, if_neg hb]⟩
  · rw [freeze_get x]; split
    · rename_i q; rw [← q]; exact x _ _ e'
    · exact e'
  · rw [freeze_get x] at e'; split at e'
    · rename_i q; rw [q]; exact e'
    · exact x _ _ e'
theorem thaw {K h K₁ K₂ h' : Heap} {r : Addr} (k1 : Le K K₁) (off : ∀ b, b ≠ r → K₁.get? b = K.get? b) (kr : K.get? r = none) (g : Grown K₁ h K₂ h') :
    ∃ K₃, Grown K h K₃ h' ∧ ∀ b, b ≠ r → K₃.get? b = K₂.get? b := by
  have m : ∀ b, (mask K₂ fun b => b != r).get? b = if b = r then none else K₂.get? b := fun b => by
    rw [mask_get]
    by_cases e : b = r
    · simp [e]
    · have : (b != r) = true := by simpa using e
      rw [this, if_pos rfl, if_neg e]
  refine ⟨mask K₂ fun b => b != r, ⟨g.ext, fun b o' e => ?_, fun b o' e => ?_, fun b o' e n => ?_⟩, fun b hb => by rw [m, if_neg hb]⟩
  · rw [m]; split
    · rename_i q; rw [q, kr] at e; cases e
    · exact g.kk _ _ (k1 _ _ e)
  · rw [m] at e; split at e
    · cases e
    · exact g.kh _ _ e
  · rw [m] at e; split at e
    · cases e
    · rename_i q
      exact g.new b o' e (by rw [off b q]; exact n)
section
variable {w : World} {A : Around} {E : Value → Shared → Prop} {s : Shared}
/-- xs == [] -/
theorem eq_nil {l b : Addr} {vs : List Value} {Q : Value → Shared → Prop} (hu : A.units < 9000) (hl : s.heap.PlainList l vs.toArray) (hb : s.heap.PlainList b ([] : List Value).toArray) (h : Q (.bool vs.isEmpty) s) :
    wpAny (model prg w) A (compareOp .Eq (.ref l) (.ref b)) Q E s := by
  have hu : A.units < cLine := by show A.units < 9900; omega
  cases vs with
  | nil => exact eq_listAt (e := fun _ => true) hl.isList hb.isList rfl hu (fun j h1 _ => absurd h1 (by simp)) (by simpa using h)
  | cons v vs => exact eq_list_lengthsAt hl.isList hb.isList (by simp) hu h
end
end Mine
end
section
open PySem PySem.W PyProof.Rows
namespace Mine
section
variable {w : World} {A : Around} {E : Value → Shared → Prop} {s : Shared}
theorem compLoopD_go {R : Result → Shared → Prop} {kx vx target iter : Expr} {ifs : List Expr} {scope : Scope} {pos : Pos} {it : Value} {D : Addr} {env : Env} (I : Nat → Shared → Prop)
    (turn : ∀ n s, I n s → wpAny (model prg w) A (pyNext it) (fun r s₁ => match r with
      | none => R (.ok .next) s₁
      | some v => wpAny (model prg w) A (letOwnedTupleGo target it v) (fun _ s₁' => wpAny (model prg w) A (assign target env v) (fun _ s₂ => wpAny (model prg w) A (tests env ifs) (fun ok s₃ =>
            if ok = true then wpAny (model prg w) A (eval kx env) (fun kv s₄ => wpAny (model prg w) A (eval vx env) (fun vv s₅ =>
              wpAny (model prg w) A (dictSet D kv vv) (fun _ s₆ => ∃ m, m < n ∧ I m s₆) (notedBy (model prg w) A env fun e s' => R (.error e) s') s₅) (notedBy (model prg w) A env fun e s' => R (.error e) s') s₄) (notedBy (model prg w) A env fun e s' => R (.error e) s') s₃
            else ∃ m, m < n ∧ I m s₃) (notedBy (model prg w) A env fun e s' => R (.error e) s') s₂) (notedBy (model prg w) A env fun e s' => R (.error e) s') s₁') (notedBy (model prg w) A env fun e s' => R (.error e) s') s₁)
        (notedBy (model prg w) A env fun e s' => R (.error e) s') s)
    (n : Nat) (h : I n s) : codeAny (model prg w) A (.compLoop (.DictComp kx vx [⟨target, iter, ifs, 0⟩] scope pos) 0 it (.ref D) env) R s := by
  refine codeAny_loop rfl I (fun n s hI => ?_) n h
  show wpAny _ A ((compTurn (.DictComp kx vx [⟨target, iter, ifs, 0⟩] scope pos) 0 it (.ref D) env).onRaise (fun x => do noteFrame x env; theTreesLotGoes x)) _ _ s
  refine wpAny_noted ?_
  rw [compTurn_dict]
  refine wpAny_bind (wpAny_standAt (wpAny_bind (wpAny_mono (turn n s hI) (fun r s₁ h₁ => ?_) fun _ _ h' => h')))
  cases r with
  | none => exact wpAny_pure h₁
  | some v =>
    refine wpAny_bind (wpAny_mono h₁ (fun _ s₁' h₁' => ?_) fun _ _ h' => h')
    refine wpAny_bind (wpAny_mono h₁' (fun _ s₂ h₂ => wpAny_bind (wpAny_mono h₂ (fun ok s₃ h₃ => ?_) fun _ _ h' => h')) fun _ _ h' => h')
    cases ok with
    | false => exact wpAny_pure ⟨rfl, h₃⟩
    | true =>
      refine wpAny_bind (wpAny_bind (wpAny_mono h₃ (fun kv s₄ h₄ => ?_) fun _ _ h' => h'))
      refine wpAny_bind (wpAny_holding (wpAny_mono h₄ (fun vv s₅ h₅ => ?_) fun _ _ h' => h'))
      refine wpAny_bind (wpAny_standAt (wpAny_holding (wpAny_mono h₅ (fun _ s₆ h₆ => ?_) fun _ _ h' => h')))
      exact wpAny_pure ⟨rfl, h₆⟩
end
section
variable {w : World} {A : Around} {E : Value → Shared → Prop} {s : Shared} {K Kb h₀ : Heap} {cenv : Env} {m cm : Str → Option Value}
/-- what one item of a table's comprehension must come to -/
def CompEndD (w : World) (J : Heap → List (Str × Value) → Prop) (h₀ Kb : Heap) (cenv : Env) (cm : Str → Option Value) (K : Heap) (R : OwnL) (s : Shared) (acc : List (Str × Value)) (s₄ : Shared) : Prop :=
  ∃ h' tk' K' m', s₄ = { s with heap := h', toks := tk' } ∧ Le K K' ∧ J K' acc ∧ S false w h₀ Kb cenv K' m' cm R h'
theorem dcomp_loop {R₀ : Result → Shared → Prop} {kx vx target iter : Expr} {ifs : List Expr} {scope : Scope} {pos : Pos} {I D : Addr} {fp wr : List Addr} {n : Nat} {P : Nat → Value → Prop} {St : Nat → Heap → Prop}
    (W : Walks prg w A I fp wr n P St) (hob : ∀ i h, St i h → ∀ b ∈ wr, ∃ o, h.get? b = some o) (hfp : ∀ b ∈ fp, b ∈ wr ∨ ∃ o, K.get? b = some o)
    (hgo : ∀ i (s' : Shared) v (Q' : Unit → Shared → Prop) E', St i s'.heap → Q' () s' → wpAny (model prg w) A (letOwnedTupleGo target (.ref I) v) Q' E' s')
    (J : Nat → Heap → List (Str × Value) → Prop) (S₀ : S false w h₀ Kb cenv K m cm ([(D, dictO w [])] ++ any1 wr) s.heap) (st : St 0 s.heap) (h0 : J 0 K [])
    (turn : ∀ i v K₁ m₁ acc R h tk E', i < n → P i v → Le K K₁ → J i K₁ acc → S false w h₀ Kb cenv K₁ m₁ cm R h →
      wpAny (model prg w) A (assign target cenv v) (fun _ s₂ => wpAny (model prg w) A (tests cenv ifs) (fun ok s₃ =>
        if ok = true then wpAny (model prg w) A (eval kx cenv) (fun kv s₄ => wpAny (model prg w) A (eval vx cenv) (fun vv s₅ => ∃ k t, kv = .str k t ∧ CompEndD w (J (i + 1)) h₀ Kb cenv cm K₁ R s (stored acc k vv) s₅) E' s₄) E' s₃
        else CompEndD w (J (i + 1)) h₀ Kb cenv cm K₁ R s acc s₃) E' s₂) E' { s with heap := h, toks := tk })
    (fin : ∀ K₁ m₁ ys h tk, Le K K₁ → ys.length ≤ n → J n K₁ ys → S false w h₀ Kb cenv K₁ m₁ cm [(D, dictO w ys)] h → R₀ (.ok .next) { s with heap := h, toks := tk })
    (hsz : n ≤ sizeLine) :
    codeAny (model prg w) A (.compLoop (.DictComp kx vx [⟨target, iter, ifs, 0⟩] scope pos) 0 (.ref I) (.ref D) cenv) R₀ s := by
  refine compLoopD_go
    (fun k s' => ∃ i h' tk' K' m' acc, s' = { s with heap := h', toks := tk' } ∧ i ≤ n ∧ acc.length ≤ i ∧ k = n + 1 - i ∧ Le K K' ∧ J i K' acc ∧ S false w h₀ Kb cenv K' m' cm ([(D, dictO w acc)] ++ any1 wr) h' ∧ St i h') ?_ (n + 1)
    ⟨0, s.heap, s.toks, K, m, [], rfl, Nat.zero_le _, Nat.le_refl _, rfl, Le.refl _, h0, S₀, st⟩
  rintro k s' ⟨i, h', tk', K', m', acc, rfl, hi, hacc, rfl, hK, hJ, S', st'⟩
  by_cases hlt : i < n
  · refine W.item i _ _ _ hlt st' fun v h₁ tk₁ hP st₁ up => ?_
    have S₁ : S false w h₀ Kb cenv K' m' cm ([(D, dictO w acc)] ++ exact1 h₁ wr) h₁ := by
      refine S'.updAll (by rw [exact1_fst, any1_fst]) (fun p hp => ?_) (fun b o hb e => up b o (by rwa [any1_fst] at hb) e)
      obtain ⟨b, hb, rfl⟩ := List.mem_map.mp hp
      obtain ⟨o, e⟩ := hob _ _ st₁ b hb
      exact ⟨o, e, e⟩
    have fin' : ∀ acc' h₂ tk₂ K₂ m₂, acc'.length ≤ i + 1 → Le K' K₂ → J (i + 1) K₂ acc' → S false w h₀ Kb cenv K₂ m₂ cm ([(D, dictO w acc')] ++ exact1 h₁ wr) h₂ →
        ∃ m, m < n + 1 - i ∧ ∃ i h' tk' K' m' acc, { s with heap := h₂, toks := tk₂ } = { s with heap := h', toks := tk' } ∧ i ≤ n ∧ acc.length ≤ i ∧ m = n + 1 - i ∧ Le K K' ∧ J i K' acc ∧ S false w h₀ Kb cenv K' m' cm ([(D, dictO w acc)] ++ any1 wr) h' ∧ St i h' := by
      intro acc' h₂ tk₂ K₂ m₂ hl hK₂ hJ₂ S₂
      refine ⟨n + 1 - (i + 1), by omega, i + 1, h₂, tk₂, K₂, m₂, acc', rfl, hlt, hl, rfl, hK.trans hK₂, hJ₂, ?_, ?_⟩
      · refine S₂.updAll (by rw [exact1_fst, any1_fst]) (fun p hp => ?_) (fun b o hb e => e)
        obtain ⟨b, hb, rfl⟩ := List.mem_map.mp hp
        obtain ⟨⟨o, e, _⟩, _⟩ := S₂.has (b, _) (List.mem_append_right _ (List.mem_map.mpr ⟨b, hb, rfl⟩))
        exact ⟨o, e, trivial⟩
      · refine W.frame _ _ _ st₁ fun b hb o e => ?_
        rcases hfp b hb with hb | ⟨o', e'⟩
        · obtain ⟨⟨o₂, e₂, q⟩, _⟩ := S₂.has (b, _) (List.mem_append_right _ (List.mem_map.mpr ⟨b, hb, rfl⟩))
          have q' : h₁.get? b = some o₂ := q
          rw [e] at q'
          cases q'
          exact e₂
        · have e1 := S₁.x.kh _ _ (hK _ _ e')
          rw [e] at e1
          cases e1
          exact S₂.x.kh _ _ (hK₂ _ _ (hK _ _ e'))
    dsimp only
    refine hgo (i + 1) _ v _ _ st₁ ?_
    refine wpAny_mono (turn i v K' m' acc _ h₁ tk₁ _ hlt hP hK hJ S₁) (fun _ s₂ q => wpAny_mono q (fun ok s₃ p => ?_) fun _ _ e => e) fun _ _ e => e
    cases ok with
    | false =>
      obtain ⟨h₂, tk₂, K₂, m₂, rfl, hK₂, hJ₂, S₂⟩ := p
      exact fin' acc h₂ tk₂ K₂ m₂ (Nat.le_succ_of_le hacc) hK₂ hJ₂ S₂
    | true =>
      refine wpAny_mono p (fun kv s₄ q => wpAny_mono q (fun vv s₅ q => ?_) fun _ _ e => e) fun _ _ e => e
      obtain ⟨k, t, rfl, h₂, tk₂, K₂, m₂, rfl, hK₂, hJ₂, S₂⟩ := q
      refine wpAny_dictSet_pairs (knd := strKind prg w) (strKind_is _ _ k _) (dict_of (S₂.has (D, dictO w acc) (by simp)).1) (fun h₃ hl sb => ?_) (by omega)
      exact fin' (stored acc k vv) h₃ _ K₂ m₂ (Nat.le_trans (stored_length_le acc k vv) (Nat.succ_le_succ hacc)) hK₂ hJ₂ (S.upd (l₁ := []) S₂ (of_dict hl) fun b o hb q => (sb.2 b hb).trans q)
  · have hin : i = n := by omega
    subst hin
    refine W.done _ _ _ st' fun h₁ tk₁ up => ?_
    exact fin K' m' acc h₁ tk₁ hK hacc hJ (S'.dropAll fun b o hb e => up b o (by rwa [any1_fst] at hb) e)
end
theorem dict_new {w : World} : dictO w [] { cls := .type "dict", dict := none, data := .dict #[] } := ⟨#[], 0, ⟨rfl, rfl, rfl⟩, rfl, (fun _ he => by simp at he), Pairs.nil, List.nodup_nil⟩
theorem size_ne_one {w : World} {h : Heap} (x : Base w h) : h.objs.size ≠ 1 := by
  have h3 : 3 < h.objs.size := Heap.lt_size (x.frag 3 _ rfl)
  omega
section
variable {w : World} {A : Around} {E : Value → Shared → Prop} {s : Shared} {env : Env}
/-- the frame of a table's comprehension, its accumulator and its iterator stand -/
theorem dcomp_start {kx vx target iter : Expr} {ifs : List Expr} {scope : Scope} {cl : List (Str × Addr)} {pos : Pos} {K : Heap} {m cm : Str → Option Value} {I : Addr} {wr fp : List Addr} {n : Nat} {P : Nat → Value → Prop} {St : Nat → Heap → Prop}
    {h' : Heap} {RR : Value → Addr → Result → Shared → Prop}
    (hcell : ∀ y ∈ scope.names, y.2 ≠ .cell) (hkind : scope.kind = .function) (hcl : ∀ y c, cl.lookup y = some c → env.cells.lookup y = some c) (hclA : cl.Pairwise fun p q => p.2 ≠ q.2)
    (x : X w K env m cm s.heap) (le : Le s.heap h') (W : Walks prg w A I fp wr n P St) (hob : ∀ i h, St i h → ∀ b ∈ wr, ∃ o, h.get? b = some o) (hfp : ∀ b ∈ fp, b ∈ wr ∨ ∃ o, K.get? b = some o)
    (hgo : ∀ target i (s' : Shared) v (Q' : Unit → Shared → Prop) E', St i s'.heap → Q' () s' → wpAny (model prg w) A (letOwnedTupleGo target (.ref I) v) Q' E' s') (st : St 0 h')
    (hwr : ∀ b ∈ wr, s.heap.get? b = none) (hnd : wr.Pairwise (· ≠ ·)) (hsz : n ≤ sizeLine)
    (J : Nat → Heap → List (Str × Value) → Prop) (h0 : J 0 K [])
    (turn : ∀ C i v K₁ m₁ acc R h tk E', i < n → P i v → Le K K₁ → J i K₁ acc → S false w s.heap K (compEnvC scope cl C env) K₁ m₁ cm R h →
      wpAny (model prg w) A (assign target (compEnvC scope cl C env) v) (fun _ s₂ => wpAny (model prg w) A (tests (compEnvC scope cl C env) ifs) (fun ok s₃ =>
        if ok = true then wpAny (model prg w) A (eval kx (compEnvC scope cl C env)) (fun kv s₄ => wpAny (model prg w) A (eval vx (compEnvC scope cl C env)) (fun vv s₅ => ∃ k t, kv = .str k t ∧ CompEndD w (J (i + 1)) s.heap K (compEnvC scope cl C env) cm K₁ R s (stored acc k vv) s₅) E' s₄) E' s₃
        else CompEndD w (J (i + 1)) s.heap K (compEnvC scope cl C env) cm K₁ R s acc s₃) E' s₂) E' { s with heap := h, toks := tk })
    (fin : ∀ D C K₁ m₁ ys h tk, D ≠ 1 → Le K K₁ → J n K₁ ys → ys.length ≤ n → S false w s.heap K (compEnvC scope cl C env) K₁ m₁ cm [(D, dictO w ys)] h → RR (.ref D) C (.ok .next) { s with heap := h, toks := tk }) :
    wpAny (model prg w) A newDict (fun acc s₃ => wpAny (model prg w) A (newFunctionEnv scope env.globals cl [] env.qual none .none (some env)) (fun cenv s₄ =>
      codeAny (model prg w) A (.compStart (.DictComp kx vx [⟨target, iter, ifs, 0⟩] scope pos) 0 (.ref I) acc { cenv with scope := relabel scope env }) (RR acc cenv.locals) s₄) E s₃) E { s with heap := h' } := by
  unfold newDict
  refine wpAny_newObj_type (wpAny_newFunctionEnv hcell (by intro y hy; simp at hy) (fun h₁ hns₁ hsb₁ => ?_) hkind)
  dsimp only at hns₁ hsb₁ ⊢
  have l1 := le_push h' { cls := .type "dict", dict := none, data := .dict #[] }
  have hD1 : (h'.push { cls := .type "dict", dict := none, data := .dict #[] }).get? h'.objs.size = some { cls := .type "dict", dict := none, data := .dict #[] } := Heap.get?_push_size _ rfl
  generalize h'.push { cls := .type "dict", dict := none, data := .dict #[] } = H2 at hns₁ hsb₁ l1 hD1 ⊢
  have l2 : Le H2 h₁ := fun b o e => hsb₁.extBut b o (fun q => by rw [q, none_size] at e; cases e) (Heap.get?_push_of_some _ e)
  have Cn : H2.get? H2.objs.size = none := none_size _
  have Dn : h'.get? h'.objs.size = none := none_size _
  have D1 : h'.objs.size ≠ 1 := size_ne_one (x.base.le (x.kh.trans le))
  generalize H2.objs.size = C at hns₁ Cn ⊢
  generalize h'.objs.size = D at hD1 Dn D1 ⊢
  have lK : Le K h₁ := x.kh.trans (le.trans (l1.trans l2))
  have S₀ : S false w s.heap K (compEnvC scope cl C env) K (fun x => [].reverse.lookup x) cm ([(D, dictO w [])] ++ any1 wr) h₁ := by
    have Cs : s.heap.get? C = none := le.none (l1.none Cn)
    refine ⟨⟨hns₁, fun y c e => (x.cell y c (hcl y c e)).keeps (le.trans (l1.trans l2)), lK, x.base⟩, le.trans (l1.trans l2), Le.refl _, (fun a o e q => by rw [q] at e; cases e), Cs, x.kh.none Cs, ?_, ?_, ?_, (fun q => nomatch q), hclA⟩
    · intro p hp
      rcases List.mem_append.mp hp with q | q
      · cases List.mem_singleton.mp q
        have Ds : s.heap.get? D = none := le.none Dn
        refine ⟨⟨_, l2 _ _ hD1, dict_new⟩, Ds, x.kh.none Ds, fun e => ?_⟩
        have e : D = C := e
        rw [e, Cn] at hD1; cases hD1
      · obtain ⟨b, hb, rfl⟩ := List.mem_map.mp q
        obtain ⟨o, e⟩ := hob _ _ st b hb
        refine ⟨⟨o, l2 _ _ (l1 _ _ e), trivial⟩, hwr b hb, x.kh.none (hwr b hb), fun q => ?_⟩
        have q : b = C := q
        rw [q] at e
        rw [l1 _ _ e] at Cn; cases Cn
    · show ((D, dictO w []) :: any1 wr).Pairwise _
      refine List.pairwise_cons.mpr ⟨fun p hp => ?_, ?_⟩
      · obtain ⟨b, hb, rfl⟩ := List.mem_map.mp hp
        obtain ⟨o, e⟩ := hob _ _ st b hb
        intro q
        have q : D = b := q
        rw [← q, Dn] at e; cases e
      · exact List.pairwise_map.mpr hnd
    · intro y c hc
      obtain ⟨o, e, _⟩ := x.cell y c (hcl y c hc)
      refine ⟨fun q => ?_, fun p hp q => ?_⟩
      · have q : c = C := q
        rw [q, Cs] at e; cases e
      · rcases List.mem_append.mp hp with r | r
        · cases List.mem_singleton.mp r
          have q : D = c := q
          rw [← q, le.none Dn] at e; cases e
        · obtain ⟨b, hb, rfl⟩ := List.mem_map.mp r
          have q : b = c := q
          rw [← q, hwr b hb] at e; cases e
  have st₁ : St 0 h₁ := W.frame _ _ _ st fun b _ o e => l2 _ _ (l1 _ _ e)
  have loop : codeAny (model prg w) A (.compLoop (.DictComp kx vx [⟨target, iter, ifs, 0⟩] scope pos) 0 (.ref I) (.ref D) (compEnvC scope cl C env)) (RR (.ref D) C) { s with heap := h₁, toks := s.toks + ([] : List (Str × Value)).length } := by
    exact dcomp_loop W hob hfp (hgo target) J S₀ st₁ h0 (turn C) (fun K₁ m₁ ys h tk hK hl hJ S₁ => fin D C K₁ m₁ ys h tk D1 hK hJ hl S₁) hsz
  exact codeAny_compStart_dict loop (W.self 0 _ _ _ st₁ loop)
/-- a list comprehension as a value -/
theorem DictComp_K {kx vx target iter : Expr} {ifs : List Expr} {scope : Scope} {cl : List (Str × Addr)} {pos : Pos} {Q : Value → Shared → Prop}
    (hclos : closureFor scope env = pure cl) (hcell : ∀ y ∈ scope.names, y.2 ≠ .cell) (hkind : scope.kind = .function)
    (hnames : ∀ y ∈ scope.names, y.2 = .local → scope.names.lookup y.1 = some .local) (hcl : ∀ y c, cl.lookup y = some c → env.cells.lookup y = some c) (hclA : cl.Pairwise fun p q => p.2 ≠ q.2)
    (h : wpAny (model prg w) A (eval iter env) (fun v s₁ => ∃ (n : Nat) (P : Nat → Value → Prop) (K : Heap) (m cm : Str → Option Value) (J : Nat → Heap → List (Str × Value) → Prop), Src w A K v n P ∧ X w K env m cm s₁.heap ∧ n ≤ sizeLine ∧ J 0 K [] ∧
      (∀ C i v K₁ m₁ acc R h tk E', i < n → P i v → Le K K₁ → J i K₁ acc → S false w s₁.heap K (compEnvC scope cl C env) K₁ m₁ cm R h →
        wpAny (model prg w) A (assign target (compEnvC scope cl C env) v) (fun _ s₂ => wpAny (model prg w) A (tests (compEnvC scope cl C env) ifs) (fun ok s₃ =>
          if ok = true then wpAny (model prg w) A (eval kx (compEnvC scope cl C env)) (fun kv s₄ => wpAny (model prg w) A (eval vx (compEnvC scope cl C env)) (fun vv s₅ => ∃ k t, kv = .str k t ∧ CompEndD w (J (i + 1)) s₁.heap K (compEnvC scope cl C env) cm K₁ R s₁ (stored acc k vv) s₅) E' s₄) E' s₃
          else CompEndD w (J (i + 1)) s₁.heap K (compEnvC scope cl C env) cm K₁ R s₁ acc s₃) E' s₂) E' { s₁ with heap := h, toks := tk }) ∧
      (∀ a ys K₁ K₂ h' tk, J n K₁ ys → Le K₁ K₂ → Grown K s₁.heap K₂ h' → K₂.DictOf (strKind prg w) a ys → K.get? a = none → a ≠ 1 → ys.length ≤ n → Q (.ref a) { s₁ with heap := h', toks := tk })) E s)
    (hs : ∀ x, foldedSetIterable iter env x = pure x := by intro _; rfl) :
    wpAny (model prg w) A (eval (.DictComp kx vx [⟨target, iter, ifs, 0⟩] scope pos) env) Q E s := by
  rw [arm_eval_DictComp]
  refine wpAny_comprehension_free (use := none) rfl hs hclos hkind hnames (wpAny_mono h (fun v s₁ h₁ => ?_) fun _ _ e => e)
  obtain ⟨n, P, K, m, cm, J, src, x, hsz, h0, turn, fin⟩ := h₁
  refine src s₁ E _ x.kh fun I wr fp St h' le W hob hfp hgo st hwr hnd => ?_
  refine dcomp_start (s := s₁) (RR := fun acc C => compPost (model prg w) A E none Q acc C) hcell hkind hcl hclA x le W hob hfp hgo st hwr hnd hsz J h0 turn ?_
  intro D C K₁ m₁ ys h tk D1 hK hJ hl S₁
  refine ⟨m₁, S₁.x.ns, fun h'' sb => ?_⟩
  obtain ⟨K₂, o, S₃, hK₂, hko, hO, _⟩ := S₁.freeze
  have LK : K₂.get? C = none := S₃.LK
  have L0 : s₁.heap.get? C = none := S₃.L0
  have ne : ∀ b o, K₂.get? b = some o → b ≠ C := fun b o e q => by rw [q, LK] at e; cases e
  have ne0 : ∀ b o, s₁.heap.get? b = some o → b ≠ C := fun b o e q => by rw [q, L0] at e; cases e
  refine fin D ys K₁ K₂ h'' tk hJ hK₂ ⟨fun b o e => (sb.2 b (ne0 b o e)).trans (S₃.base _ _ e), S₃.kk, fun b o e => (sb.2 b (ne b o e)).trans (S₃.x.kh _ _ e), S₃.new⟩ (dict_of ⟨o, hko, hO⟩) ?_ ?_ hl
  · exact x.kh.none (S₁.has (D, dictO w ys) (by simp)).2.1
  · exact D1
end
end Mine
end
section
open PySem PySem.W PyProof.Rows
namespace Mine
def hd0 (l : List Str) : Str := l.headD (Str.ofString "")
def startStep (lads : List (List Str)) (st : List (List Str)) (ld : List Str) : List (List Str) :=
  if (lads.filter fun one => decide (hd0 ld ∈ one.drop 1)).isEmpty && !decide (hd0 ld ∈ st.map hd0) then st ++ [ld] else st
def startsF (lads : List (List Str)) : List (List Str) := lads.foldl (startStep lads) []
def orderStep (o : List Str) (ld : List Str) : List Str := o.filter (fun r => !decide (r ∈ ld)) ++ ld
def orderF (lads : List (List Str)) : List Str := (startsF lads).foldl orderStep []
theorem foldl_take {α β : Type} {f : β → α → β} {l : List α} {b : β} {i : Nat} {a : α} (h : l[i]? = some a) : (l.take (i + 1)).foldl f b = f ((l.take i).foldl f b) a := by
  rw [take_succ h, List.foldl_append]; rfl
theorem rel_isEmpty {α β : Type} {P : α → β → Prop} {as : List α} {bs : List β} (h : Rel2 P as bs) : as.isEmpty = bs.isEmpty := by cases h <;> rfl
section
variable {w : World} {A : Around} {E : Value → Shared → Prop} {s : Shared} {K : Heap} {n : Nat}
set_option maxHeartbeats 2000000 in
theorem spec_order {l : Addr} {us : List Value} {lads : List (List Str)} {Q : Value → Shared → Prop} (hA : AOk (n + 1) A) (hB : Base w K) (hle : Le K s.heap) (hl : K.PlainList l us.toArray) (hr : Rel2 (LStr K) us lads)
    (hne : ∀ ld ∈ lads, ld ≠ []) (hlen : lads.length ≤ 100) (hlen2 : ∀ ld ∈ lads, ld.length ≤ 100)
    (h : ∀ a h' K' tk vs, Grown K s.heap K' h' → K'.PlainList a vs.toArray → Rel2 IsS vs (orderF lads) → K.get? a = none → Q (.ref a) { s with heap := h', toks := tk }) :
    wpAny (model prg w) A (call (.ref 142) [.ref l]) Q E s := by
  refine call_def (binds := [("ladders", .ref l)]) hA hB hle (hB.frag 142 _ rfl) rfl ⟨_, _, _, _, rfl, hB.frag 141 _ rfl, rfl, rfl⟩ rfl rfl rfl ?_
  intro h₁ tk hA' S₁
  refine wpAny_execs_cons (wpAny_Assign_Name (List_ (spliced_none (nl fun h₂ l₂ p₂ => ?_))))
  have S₂ := S₁.push l₂ (of_plain p₂) (none_size _)
  have hL : h₁.objs.size ≠ s.heap.objs.size := (S₂.has _ List.mem_cons_self).2.2.2
  generalize h₁.objs.size = r at S₂ p₂ hL
  refine st_local S₂ fun h₃ tk₃ S₃ => ?_
  -- the starts
  refine seq5 (s := s) S₃ (own' := []) (fun K' m' cm' => m' "starts" = some (.ref r) ∧ ∃ vst, K'.PlainList r vst.toArray ∧ Rel2 (LStr K') vst (startsF lads) ∧ vst.length ≤ 100) ?_ ?_
  · refine wpAny_For (x_local S₃.x rfl (iter_list hA'.handled S₃ hl (fun i K' m' cm' own' => ∃ vst sts, own' = [(r, listO vst)] ∧ Rel2 (LStr K') vst sts ∧ sts = (lads.take i).foldl (startStep lads) [] ∧ sts.length ≤ i ∧ (∀ ld ∈ sts, ld ≠ []) ∧ m' "ladders" = some (.ref l) ∧ m' "starts" = some (.ref r))
      ⟨[], [], rfl, .nil, rfl, Nat.le_refl _, (fun _ h => nomatch h), rfl, rfl⟩ ?_ ?_))
    · rintro i v K₄ m₄ cm₄ own₄ R h₄ tk₄ E₄ hv hK₄ ⟨vst, sts, rfl, hst, hsts, hsl, hsne, m1, m2⟩ S₄
      obtain ⟨ld, hld, a, vs, rfl, hpa, hvs⟩ := hr.get hv
      have hldm : ld ∈ lads := List.mem_of_getElem? hld
      have hi : i < lads.length := (List.getElem?_eq_some_iff.mp hld).1
      have hd : ∃ v0, vs[(0 : Int).toNat]? = some v0 ∧ IsS v0 (hd0 ld) := by
        have := hne ld hldm
        cases e : ld with
        | nil => exact absurd e this
        | cons y ys => exact hvs.get' (i := 0) (by rw [e]; rfl)
      obtain ⟨v0, hv0, t0, rfl⟩ := hd
      refine wpAny_assign_Name (st_cell S₄ fun h₅ S₅ => ?_)
      refine wpAny_execs_cons (Assign_ListComp_K rfl rfl (by decide) rfl (by decide) (fun _ _ e => e) S₅.cellA rfl rfl (x_local S₅.x m1
        ⟨_, _, _, _, _, (fun j K' acc => Rel2 (LStr K') acc ((lads.take j).filter fun one => decide (hd0 ld ∈ one.drop 1))), src_list hA'.handled (pl_le hl hK₄), S₅, ?_, .nil, ?_, ?_⟩))
      · show _ ≤ 16777216
        rw [hr.length]; omega
      · rintro C j v' K₆ m₆ acc R' h₆ tk₆ E₆ hj hv' hK₆ hacc S₆
        obtain ⟨one, hone, b, ws, rfl, hpb, hws⟩ := hr.get hv'
        refine wpAny_assign_Name (st_local S₆ fun h₇ tk₇ S₇ => ?_)
        have hpb' := pl_le hpb (hK₄.trans hK₆)
        have hbl : ws.length ≤ 100 := by rw [hws.length]; exact hlen2 one (List.mem_of_getElem? hone)
        refine wpAny_tests_one (wpAny_isTrue_Compare1 (Subscript_ (x_cell S₇.x rfl (wpAny_Constant_int (item_l (pl_le hpa (hK₄.trans (hK₆.trans S₇.x.kh))) (by decide) (by decide) hv0 ?_)))))
        refine sub_list_from (k := 1) (x_local S₇.x rfl ⟨_, _, _, rfl, pl_le hpb' S₇.x.kh, S₇.x.kh, by show _ ≤ 16777216; omega, fun a₈ h₈ K₈ tk₈ g₈ pl₈ _ => ?_⟩)
        have S₈ := S₇.grow g₈
        refine in_l (pl_le pl₈ S₈.x.kh) (hws.drop 1) (wpAny_truthy_bool ?_)
        by_cases hin : hd0 ld ∈ one.drop 1
        · refine br_t (decide_eq_true hin) (x_local S₈.x rfl ?_)
          refine ⟨h₈, _, K₈, _, rfl, g₈.kk, ?_, S₈⟩
          show Rel2 _ _ _
          rw [take_succ hone, List.filter_append]
          refine (ll_le hacc g₈.kk).append ?_
          rw [List.filter_cons_of_pos (by simpa using hin)]
          exact .cons ⟨b, ws, rfl, pl_le hpb' g₈.kk, hws⟩ .nil
        · refine br_f (decide_eq_false hin) ?_
          refine ⟨h₈, _, K₈, _, rfl, g₈.kk, ?_, S₈⟩
          show Rel2 _ _ _
          rw [take_succ hone, List.filter_append, List.filter_cons_of_neg (by simpa using hin)]
          rw [List.filter_nil, List.append_nil]
          exact ll_le hacc g₈.kk
      · rintro bl ys K₆ K₇ h₇ tk₇ hJ hK₆ hK₇ S₇ hpl _ hyl
        have hys : Rel2 (LStr K₆) ys (lads.filter fun one => decide (hd0 ld ∈ one.drop 1)) := by
          have := hJ
          rw [List.take_of_length_le (by rw [hr.length]; exact Nat.le_refl _)] at this
          exact this
        have hyle : ys.length ≤ 100 := by rw [hr.length] at hyl; omega
        have hemp : ys.isEmpty = (lads.filter fun one => decide (hd0 ld ∈ one.drop 1)).isEmpty := by
          exact rel_isEmpty hys
        have hstK := ll_le hst hK₇
        have hstl : vst.length ≤ 100 := by rw [hst.length]; omega
        -- the test
        refine wpAny_execs_cons (wpAny_If (test5 (s := s) S₇ ((lads.filter fun one => decide (hd0 ld ∈ one.drop 1)).isEmpty && !decide (hd0 ld ∈ sts.map hd0)) ?_ ?_))
        · refine wpAny_isTrue_BoolOp (wpAny_allTrue_And_cons (wpAny_isTrue_Compare1 (x_local S₇.x rfl (List_ (spliced_none (nlK S₇.x.kh fun a₈ h₈ K₈ g₈ pl₈ _ => ?_))))))
          have S₈ := S₇.grow g₈
          refine eq_nil (by have := hA'.units; omega) (pl_le hpl (g₈.kk.trans S₈.x.kh)) (pl_le pl₈ S₈.x.kh) (wpAny_truthy_bool ?_)
          by_cases hem : ys.isEmpty = true
          · refine br_t hem ?_
            have hd : ∃ v0, vs[(0 : Int).toNat]? = some v0 ∧ IsS v0 (hd0 ld) := ⟨_, hv0, _, rfl⟩
            refine wpAny_allTrue_And_cons (wpAny_isTrue_Compare1 (Subscript_ (x_cell S₈.x rfl (wpAny_Constant_int (item_l (pl_le hpa (hK₄.trans (hK₇.trans (g₈.kk.trans S₈.x.kh)))) (by decide) (by decide) hv0 ?_)))))
            -- the heads of the starts so far
            obtain ⟨⟨o, eo, nn, rfl⟩, _, rK, _⟩ := S₈.has (r, listO vst) (by simp)
            obtain ⟨Kl, kl1, kl2, kl3, kl4⟩ := lend S₈.x.kh eo
            have hstL := ll_le (ll_le hstK g₈.kk) kl1
            refine ListComp_K rfl (by decide) rfl (by decide) (fun _ _ e => by cases e) List.Pairwise.nil (x_local S₈.x m2
              ⟨_, _, Kl, _, _, (fun j K' acc => Rel2 IsS acc ((sts.take j).map hd0)), src_list hA'.handled ⟨nn, kl3⟩, ⟨S₈.x.ns, S₈.x.cell, kl2, S₈.x.base.le kl1⟩, by show _ ≤ 16777216; omega, .nil, ?_, ?_⟩)
            · rintro C j v' K₉ m₉ acc R' h₉ tk₉ E₉ hj hv' hK₉ hacc S₉
              obtain ⟨one, hone, b, ws, rfl, hpb, hws⟩ := hstL.get hv'
              have hdo : ∃ v0, ws[(0 : Int).toNat]? = some v0 ∧ IsS v0 (hd0 one) := by
                have := hsne one (List.mem_of_getElem? hone)
                cases e : one with
                | nil => exact absurd e this
                | cons y ys => exact hws.get' (i := 0) (by rw [e]; rfl)
              obtain ⟨w0, hw0, u0, rfl⟩ := hdo
              refine wpAny_assign_Name (st_local S₉ fun h₁₀ tk₁₀ S₁₀ => ?_)
              refine wpAny_tests_nil (br_t rfl ?_)
              refine Subscript_ (x_local S₁₀.x rfl (wpAny_Constant_int (item_l (pl_le hpb (hK₉.trans S₁₀.x.kh)) (by decide) (by decide) hw0 ?_)))
              refine ⟨h₁₀, _, K₉, _, rfl, Le.refl _, ?_, S₁₀⟩
              show Rel2 _ _ _
              rw [take_succ hone, List.map_append]
              exact hacc.append (.cons ⟨_, rfl⟩ .nil)
            · rintro a₉ zs K₉ K₁₀ h₁₀ tk₁₀ hJ9 hK₉ g₁₀ pl₁₀ kn₁₀ hzl
              have hzs : Rel2 IsS zs (sts.map hd0) := by
                have := hJ9
                rw [List.take_of_length_le (by rw [hst.length]; exact Nat.le_refl _)] at this
                exact this
              obtain ⟨K₁₁, g₁₁, off⟩ := thaw kl1 kl4 rK g₁₀
              have S₁₁ := S₈.grow g₁₁
              have har : a₉ ≠ r := fun e => by rw [e, kl3] at kn₁₀; cases kn₁₀
              obtain ⟨nz, ez⟩ := pl₁₀
              have pl₁₁ : K₁₁.PlainList a₉ zs.toArray := ⟨nz, by rw [off _ har]; exact ez⟩
              refine notin_l (pl_le pl₁₁ S₁₁.x.kh) hzs (wpAny_truthy_bool ?_)
              by_cases hin : hd0 ld ∈ sts.map hd0
              · refine br_f (by rw [decide_eq_true hin]; rfl) ?_
                exact ⟨by rw [decide_eq_true hin]; simp, _, _, _, rfl, g₈.kk.trans g₁₁.kk, S₁₁⟩
              · refine br_t (by rw [decide_eq_false hin]; rfl) (wpAny_allTrue_And_nil ?_)
                exact ⟨by rw [decide_eq_false hin, ← hemp, hem]; rfl, _, _, _, rfl, g₈.kk.trans g₁₁.kk, S₁₁⟩
          · have hem : ys.isEmpty = false := by simpa using hem
            refine br_f hem ?_
            exact ⟨by rw [← hemp, hem]; rfl, _, _, _, rfl, g₈.kk, S₈⟩
        · intro h₈ tk₈ K₈ hK₈ S₈
          have hstep : (lads.take (i + 1)).foldl (startStep lads) [] = startStep lads sts ld := by rw [foldl_take hld, ← hsts]
          by_cases hb : ((lads.filter fun one => decide (hd0 ld ∈ one.drop 1)).isEmpty && !decide (hd0 ld ∈ sts.map hd0)) = true
          · refine br_t hb ?_
            refine wpAny_execs_cons (wpAny_Expr (Call_method1 rfl rfl rfl (x_local S₈.x m2 (append_own (l₁ := []) (S₈.has (r, listO vst) (by simp)).1 (x_cell S₈.x rfl ⟨_, _, _, S₈, by show _ ≤ 16777216; omega, fun h₉ S₉ => ?_⟩)))))
            refine wpAny_execs_nil (wpAny_execs_nil ?_)
            refine ⟨h₉, _, K₈, _, _, [(r, listO (vst ++ [.ref a]))], rfl, hK₇.trans hK₈, ⟨vst ++ [.ref a], sts ++ [ld], rfl, (ll_le hstK hK₈).append (.cons ⟨a, vs, rfl, pl_le hpa (hK₄.trans (hK₇.trans hK₈)), hvs⟩ .nil), ?_, ?_, ?_, ?_, ?_⟩, S₉⟩
            · rw [hstep]; unfold startStep; rw [if_pos hb]
            · simp; omega
            · intro x hx
              rcases List.mem_append.mp hx with q | q
              · exact hsne x q
              · cases List.mem_singleton.mp q; exact hne ld hldm
            · exact m1
            · exact m2
          · refine br_f (by simpa using hb) (wpAny_execs_nil (wpAny_execs_nil ?_))
            refine ⟨h₈, _, K₈, _, _, [(r, listO vst)], rfl, hK₇.trans hK₈, ⟨vst, sts, rfl, ll_le hstK hK₈, ?_, by omega, hsne, ?_, ?_⟩, S₈⟩
            · rw [hstep]; unfold startStep; rw [if_neg hb]
            · exact m1
            · exact m2
    · rintro K₄ m₄ cm₄ own₄ h₄ tk₄ E₄ hK₄ ⟨vst, sts, rfl, hst, hsts, hsl, hsne, m1, m2⟩ S₄
      rw [List.take_of_length_le (by rw [hr.length]; exact Nat.le_refl _)] at hsts
      obtain ⟨K₅, o, S₅, hK₅, hko, hO, _⟩ := S₄.freeze
      refine wpAny_execs_nil ⟨rfl, h₄, _, K₅, _, _, rfl, hK₄.trans hK₅, ⟨m2, vst, plain_of ⟨o, hko, hO⟩, ?_, ?_⟩, S₅⟩
      · have := ll_le hst hK₅
        rw [hsts] at this
        exact this
      · rw [hst.length]
        rw [hr.length] at hsl
        omega
  · rintro h₄ tk₄ K₄ m₄ cm₄ hK₄ ⟨m1, vst, hplS, hst, hstl⟩ S₄
    refine wpAny_execs_cons (wpAny_Assign_Name (List_ (spliced_none (nlK S₄.x.kh fun o₅ h₅ K₅ g₅ pl₅ kn₅ => ?_))))
    refine st_local (S₄.grow g₅) fun h₆ tk₆ S₆ => ?_
    have hpS := pl_le hplS g₅.kk
    have hsS := ll_le hst g₅.kk
    have hsl2 : ∀ ld ∈ startsF lads, ld.length ≤ 100 := by
      have : ∀ (l : List (List Str)) (st : List (List Str)), (∀ x ∈ l, x.length ≤ 100) → (∀ x ∈ st, x.length ≤ 100) → ∀ x ∈ l.foldl (startStep lads) st, x.length ≤ 100 := by
        intro l
        induction l with
        | nil => intro st _ h2; exact h2
        | cons y ys ih =>
          intro st h1 h2
          refine ih _ (fun x hx => h1 x (List.mem_cons_of_mem _ hx)) ?_
          unfold startStep
          split
          · intro x hx
            rcases List.mem_append.mp hx with q | q
            · exact h2 x q
            · cases List.mem_singleton.mp q; exact h1 _ List.mem_cons_self
          · exact h2
      exact this lads [] hlen2 (fun _ h => nomatch h)
    refine wpAny_execs_cons (wpAny_For (x_local S₆.x m1 (iter_list hA'.handled S₆ hpS (fun i K' m' cm' own' => own' = [] ∧ ∃ a vo, m' "order" = some (.ref a) ∧ K'.PlainList a vo.toArray ∧ Rel2 IsS vo (((startsF lads).take i).foldl orderStep []) ∧ vo.length ≤ 100 * i ∧ K.get? a = none)
      ⟨rfl, o₅, [], rfl, pl₅, .nil, Nat.le_refl _, S₄.kk.none kn₅⟩ ?_ ?_)))
    · rintro i v K₇ m₇ cm₇ own₇ R h₇ tk₇ E₇ hv hK₇ ⟨rfl, a, vo, m2, hpa, hvo, hvl, ka⟩ S₇
      obtain ⟨ld, hld, b, ws, rfl, hpb, hws⟩ := hsS.get hv
      have hi : i < vst.length := (List.getElem?_eq_some_iff.mp hv).1
      have hbl : ws.length ≤ 100 := by rw [hws.length]; exact hsl2 ld (List.mem_of_getElem? hld)
      refine wpAny_assign_Name (st_cell S₇ fun h₈ S₈ => ?_)
      refine wpAny_execs_cons (wpAny_Assign_Name (wpAny_BinOp (ListComp_K rfl (by decide) rfl (by decide) (fun _ _ e => e) S₈.cellA (x_local S₈.x m2
        ⟨_, _, _, _, _, (fun j K' acc => Rel2 IsS acc (((((startsF lads).take i).foldl orderStep []).take j).filter fun r => !decide (r ∈ ld))), src_list hA'.handled hpa, S₈.x, by show _ ≤ 16777216; omega, .nil, ?_, ?_⟩))))
      · rintro C j v' K₉ m₉ acc R' h₉ tk₉ E₉ hj hv' hK₉ hacc S₉
        obtain ⟨rg, hrg, tr, rfl⟩ := hvo.get hv'
        refine wpAny_assign_Name (st_local S₉ fun h₁₀ tk₁₀ S₁₀ => ?_)
        refine wpAny_tests_one (wpAny_isTrue_Compare1 (x_local S₁₀.x rfl (x_cell S₁₀.x rfl (notin_l (pl_le hpb (hK₇.trans (hK₉.trans S₁₀.x.kh))) hws (wpAny_truthy_bool ?_)))))
        by_cases hin : rg ∈ ld
        · refine br_f (by rw [decide_eq_true hin]; rfl) ?_
          refine ⟨h₁₀, _, K₉, _, rfl, Le.refl _, ?_, S₁₀⟩
          show Rel2 _ _ _
          rw [take_succ hrg, List.filter_append, List.filter_cons_of_neg (by simpa using hin), List.filter_nil, List.append_nil]
          exact hacc
        · refine br_t (by rw [decide_eq_false hin]; rfl) (x_local S₁₀.x rfl ?_)
          refine ⟨h₁₀, _, K₉, _, rfl, Le.refl _, ?_, S₁₀⟩
          show Rel2 _ _ _
          rw [take_succ hrg, List.filter_append, List.filter_cons_of_pos (by simpa using hin)]
          exact hacc.append (.cons ⟨_, rfl⟩ .nil)
      · rintro a₉ zs K₉ K₁₀ h₁₀ tk₁₀ hJ hK₉ g₁₀ pl₁₀ kn₁₀ hzl
        rw [List.take_of_length_le (by rw [hvo.length]; exact Nat.le_refl _)] at hJ
        have S₁₀ := S₈.grow g₁₀
        refine x_cell S₁₀.x rfl (add_l S₁₀.x.kh (pl_le pl₁₀ S₁₀.x.kh) (pl_le hpb (hK₇.trans (g₁₀.kk.trans S₁₀.x.kh))) (fun a₁₁ h₁₁ K₁₁ g₁₁ pl₁₁ kn₁₁ => ?_) (by show _ ≤ 16777216; omega))
        refine st_local (S₁₀.grow g₁₁) fun h₁₂ tk₁₂ S₁₂ => ?_
        refine wpAny_execs_nil ?_
        refine ⟨h₁₂, _, K₁₁, _, _, [], rfl, g₁₀.kk.trans g₁₁.kk, ⟨rfl, a₁₁, zs ++ ws, rfl, pl₁₁, ?_, ?_, ?_⟩, S₁₂⟩
        · rw [foldl_take hld]
          exact Rel2.append hJ hws
        · rw [List.length_append]; omega
        · exact S₁₀.kk.none kn₁₁
    · rintro K₇ m₇ cm₇ own₇ h₇ tk₇ E₇ hK₇ ⟨rfl, a, vo, m2, hpa, hvo, hvl, ka⟩ S₇
      rw [List.take_of_length_le (by rw [hst.length]; exact Nat.le_refl _)] at hvo
      refine wpAny_execs_nil (wpAny_execs_cons (wpAny_Return_some (x_local S₇.x m2 ?_)))
      exact h a _ K₇ _ vo S₇.grown hpa hvo ka
end
end Mine
end
section
open PySem PySem.W PyProof.Rows
namespace Mine
def hasF (rt : List (Str × Int)) (right : Int) (r : Str) : Bool := (((lookD rt r).getD 4095).fdiv right).fmod 2 != 0
def heldF (rt : List (Str × Int)) (right : Int) (order : List Str) : List Str := order.filter (hasF rt right)
def constD (v : Int) (held : List Str) : List (Str × Int) := held.foldl (fun d r => putD d r v) []
structure TS where
  wo : List (Str × Int)
  tk : List (Str × Int)
  few : Int
def tabStep (ab : List (Str × Str)) (st : TS) (r : Str) : TS :=
  let a := (lookD st.wo r).getD 0
  let b := (lookD st.tk r).getD 0
  let least := if b < a then b else a
  let top := (lookD ab r).getD (Str.ofString "")
  if (lookD st.tk top).isSome then ⟨putD st.wo top ((lookD st.wo top).getD 0 + b), putD (st.tk) top ((lookD st.tk top).getD 0 + least), st.few⟩
  else ⟨st.wo, st.tk, st.few + least⟩
def tabRun (ab : List (Str × Str)) (held : List Str) : TS := held.foldl (tabStep ab) ⟨constD 0 held, constD 1 held, 0⟩
def guardF (st : TS) (r : Str) : Bool := decide ((lookD st.tk r).getD 0 ≤ (lookD st.wo r).getD 0)
def tableF (rt : List (Str × Int)) (ab : List (Str × Str)) (right : Int) (order : List Str) : List Str × Int :=
  ((heldF rt right order).filter (guardF (tabRun ab (heldF rt right order))), (tabRun ab (heldF rt right order)).few)
theorem lookD_put {α : Type} (f : List (Str × α)) (k x : Str) (v : α) : lookD (putD f k v) x = if x = k then some v else lookD f x := by
  unfold putD
  by_cases h : f.any (fun p => p.1 = k) = true
  · rw [if_pos h]
    induction f with
    | nil => simp at h
    | cons p r ih =>
      rw [List.map_cons]
      by_cases hp : p.1 = k
      · rw [if_pos hp]
        by_cases hx : x = k
        · subst hx; simp [lookD, hp]
        · have : ¬ p.1 = x := fun e => hx (e.symm.trans hp)
          rw [if_neg hx]
          have e1 : lookD (p :: r) x = lookD r x := by simp [lookD, this]
          have e2 : lookD ((p.1, v) :: r.map fun p => if p.1 = k then (p.1, v) else p) x = lookD (r.map fun p => if p.1 = k then (p.1, v) else p) x := by simp [lookD, this]
          rw [e1, e2]
          by_cases ha : r.any (fun p => p.1 = k) = true
          · rw [ih ha, if_neg hx]
          · have : r.map (fun p => if p.1 = k then (p.1, v) else p) = r := by
              refine (List.map_congr_left fun q hq => ?_).trans (List.map_id r)
              have : ¬ q.1 = k := fun e => ha (List.any_eq_true.mpr ⟨q, hq, by simpa using e⟩)
              simp [this]
            rw [this]
      · rw [if_neg hp]
        have ha : r.any (fun p => p.1 = k) = true := by simpa [hp] using h
        by_cases hq : p.1 = x
        · have : ¬ x = k := fun e => hp (hq.trans e)
          rw [if_neg this]; simp [lookD, hq]
        · have e1 : lookD (p :: r) x = lookD r x := by simp [lookD, hq]
          have e2 : ∀ r' : List (Str × α), lookD (p :: r') x = lookD r' x := fun r' => by simp [lookD, hq]
          rw [e1, e2, ih ha]
  · rw [if_neg h]
    have hn : lookD f k = none := by
      simp only [lookD, Option.map_eq_none_iff, List.find?_eq_none]
      intro p hp e
      exact h (List.any_eq_true.mpr ⟨p, hp, e⟩)
    by_cases hx : x = k
    · subst hx
      rw [if_pos rfl]
      unfold lookD at hn ⊢
      rw [List.find?_append]
      rw [Option.map_eq_none_iff] at hn
      rw [hn]; simp
    · rw [if_neg hx]
      have : ¬ k = x := fun e => hx e.symm
      unfold lookD
      rw [List.find?_append]
      cases f.find? fun p => decide (p.1 = x) <;> simp [this]
theorem constD_look (v : Int) (held : List Str) : ∀ x, lookD (constD v held) x = if x ∈ held then some v else none := by
  have : ∀ (l : List Str) (d : List (Str × Int)) (x : Str), lookD (l.foldl (fun d r => putD d r v) d) x = if x ∈ l then some v else lookD d x := by
    intro l
    induction l with
    | nil => intro d x; simp
    | cons y ys ih =>
      intro d x
      rw [List.foldl_cons, ih, lookD_put]
      by_cases h1 : x ∈ ys
      · simp [h1]
      · by_cases h2 : x = y <;> simp [h1, h2]
  intro x
  rw [constD, this]
  rfl
theorem constD_length (v : Int) : ∀ (held : List Str) (d : List (Str × Int)), (held.foldl (fun d r => putD d r v) d).length ≤ d.length + held.length := by
  intro held
  induction held with
  | nil => intro d; simp
  | cons y ys ih =>
    intro d
    have := ih (putD d y v)
    have := putD_length d y v
    simp only [List.foldl_cons, List.length_cons]
    omega
theorem putD_mem_length {α : Type} {f : List (Str × α)} {k : Str} {v : α} (h : (lookD f k).isSome = true) : (putD f k v).length = f.length := by
  unfold putD
  have : f.any (fun p => p.1 = k) = true := by
    unfold lookD at h
    rw [Option.isSome_map, List.find?_isSome] at h
    obtain ⟨p, hp, e⟩ := h
    exact List.any_eq_true.mpr ⟨p, hp, e⟩
  rw [if_pos this, List.length_map]
def AllL {α : Type} (P : α → Prop) : List α → Prop
  | [] => True
  | a :: r => P a ∧ AllL P r
theorem AllL.mem {α : Type} {P : α → Prop} : ∀ {l : List α}, AllL P l → ∀ a ∈ l, P a
  | a :: r, h, b, hb => by
    rcases List.mem_cons.mp hb with rfl | hb
    · exact h.1
    · exact AllL.mem h.2 b hb
theorem cl_ok {cl cells : List (Str × Addr)} (h : AllL (fun p => cells.lookup p.1 = some p.2) cl) : ∀ y c, cl.lookup y = some c → cells.lookup y = some c := fun y c e => h.mem (y, c) (mem_of_lookup e)
theorem cl_pair {cl cells : List (Str × Addr)} (hA : cells.Pairwise fun p q => p.2 ≠ q.2) (h : AllL (fun p => cells.lookup p.1 = some p.2) cl) (ns : List Str) (e : cl.map (·.1) = ns) (hn : ns.Pairwise (· ≠ ·)) : cl.Pairwise fun p q => p.2 ≠ q.2 := by
  subst e
  induction cl with
  | nil => exact .nil
  | cons p r ih =>
    rw [List.map_cons, List.pairwise_cons] at hn
    refine List.pairwise_cons.mpr ⟨fun q hq e => ?_, ih h.2 hn.2⟩
    have e1 := h.1
    have e2 := h.2.mem q hq
    rw [← e] at e2
    exact hn.1 q.1 (List.mem_map.mpr ⟨q, hq, rfl⟩) (name_of_addr hA (mem_of_lookup e1) (mem_of_lookup e2))
/-- objects of the kept part become own again -/
theorem S.thawOwn {w : World} {h₀ Kb K h K₀ : Heap} {env : Env} {m cm : Str → Option Value} {own l : OwnL} (x : S true w h₀ Kb env K m cm own h) (l1 : Le Kb K₀) (l2 : Le K₀ K) (hB : Base w K₀)
    (hl : ∀ p ∈ l, (∃ o, K.get? p.1 = some o ∧ p.2 o) ∧ K₀.get? p.1 = none) (nd : l.Pairwise fun p q => p.1 ≠ q.1) : S true w h₀ Kb env K₀ m cm (l ++ own) h := by
  refine ⟨⟨x.x.ns, x.x.cell, l2.trans x.x.kh, hB⟩, x.base, l1, fun a o e n => x.new a o (l2 _ _ e) n, x.L0, l2.none x.LK, fun p hp => ?_, List.pairwise_append.mpr ⟨nd, x.nd, fun p hp q hq e => ?_⟩, fun n c hc => ⟨(x.cellL n c hc).1, fun p hp => ?_⟩, fun t n c hc => let ⟨a, b⟩ := x.cellO t n c hc; ⟨a, l2.none b⟩, x.cellA⟩
  · rcases List.mem_append.mp hp with q | q
    · obtain ⟨⟨o, e, r⟩, n⟩ := hl p q
      refine ⟨⟨o, x.x.kh _ _ e, r⟩, x.new _ _ e (l1.none n), n, fun e' => ?_⟩
      rw [e', x.LK] at e; cases e
    · obtain ⟨a, b, c, d⟩ := x.has p q
      exact ⟨a, b, l2.none c, d⟩
  · obtain ⟨⟨o, e', _⟩, _⟩ := hl p hp
    rw [e, (x.has q hq).2.2.1] at e'; cases e'
  · rcases List.mem_append.mp hp with q | q
    · obtain ⟨⟨o, e', _⟩, _⟩ := hl p q
      intro e
      rw [e, (x.cellO rfl n c hc).2] at e'; cases e'
    · exact (x.cellL n c hc).2 p q
/-- all keys are the held ones -/
def keysAre (held : List Str) (f : List (Str × Int)) : Prop := ∀ x, (lookD f x).isSome = decide (x ∈ held)
theorem keysAre.put {held : List Str} {f : List (Str × Int)} (h : keysAre held f) {k : Str} {v : Int} (hk : k ∈ held) : keysAre held (putD f k v) := by
  intro x
  rw [lookD_put]
  by_cases e : x = k
  · subst e; simp [hk]
  · rw [if_neg e]; exact h x
theorem keys_const (v : Int) (held : List Str) : keysAre held (constD v held) := by
  intro x
  rw [constD_look]
  by_cases h : x ∈ held <;> simp [h]
theorem keysAre.get {held : List Str} {f : List (Str × Int)} (h : keysAre held f) {x : Str} (hx : x ∈ held) : lookD f x = some ((lookD f x).getD 0) := by
  have := h x
  rw [decide_eq_true hx] at this
  cases e : lookD f x with
  | none => rw [e] at this; cases this
  | some v => rfl
theorem min_i {w : World} {A : Around} {E : Value → Shared → Prop} {s : Shared} {a b : Int} {t u : Tok} {Q : Value → Shared → Prop} (hh : A.handled = none) (h : ∀ h' tk t', Le s.heap h' → Q (.int (if b < a then b else a) t') { s with heap := h', toks := tk }) :
    wpAny (model prg w) A (call (.builtin "min") [.int a t, .int b u]) Q E s := by
  refine min_two_ints hh fun h' tk l => ?_
  by_cases q : b < a
  · have := h h' tk u l
    rw [if_pos q] at this ⊢; exact this
  · have := h h' tk t l
    rw [if_neg q] at this ⊢; exact this
def topF (ab : List (Str × Str)) (r : Str) : Str := (lookD ab r).getD (Str.ofString "")
theorem tab_yes {ab : List (Str × Str)} {st : TS} {r : Str} (hs : (lookD st.tk (topF ab r)).isSome = true) : tabStep ab st r =
    ⟨putD st.wo (topF ab r) ((lookD st.wo (topF ab r)).getD 0 + (lookD st.tk r).getD 0), putD st.tk (topF ab r) ((lookD st.tk (topF ab r)).getD 0 + (if (lookD st.tk r).getD 0 < (lookD st.wo r).getD 0 then (lookD st.tk r).getD 0 else (lookD st.wo r).getD 0)), st.few⟩ := by
  unfold tabStep; exact if_pos hs
theorem tab_no {ab : List (Str × Str)} {st : TS} {r : Str} (hs : ¬ (lookD st.tk (topF ab r)).isSome = true) : tabStep ab st r =
    ⟨st.wo, st.tk, st.few + (if (lookD st.tk r).getD 0 < (lookD st.wo r).getD 0 then (lookD st.tk r).getD 0 else (lookD st.wo r).getD 0)⟩ := by
  unfold tabStep; exact if_neg hs
section
variable {w : World} {A : Around} {E : Value → Shared → Prop} {s : Shared} {K : Heap} {n : Nat}
set_option maxHeartbeats 1000000 in
theorem spec_table {lo da dr : Addr} {vo : List Value} {order : List Str} {kva kvr : List (Str × Value)} {ab : List (Str × Str)} {rt : List (Str × Int)} {q : Int} {t : Tok} {Q : Value → Shared → Prop}
    (hA : AOk (n + 1) A) (hB : Base w K) (hle : Le K s.heap) (ho : K.PlainList lo vo.toArray) (hor : Rel2 IsS vo order) (hol : order.length ≤ 1000) (ha : K.DictOf (strKind prg w) da kva) (har : RelD IsS kva ab) (ha1 : da ≠ 1)
    (hr : K.DictOf (strKind prg w) dr kvr) (hrr : RelD IsI kvr rt) (hr1 : dr ≠ 1) (hrb : ∀ r, 0 ≤ (lookD rt r).getD 4095 ∧ (lookD rt r).getD 4095 ≤ 4095) (hq : 0 < q ∧ q ≤ 4096)
    (h : ∀ a g h' K' tk t' vg, Grown K s.heap K' h' → Tup K' a [.ref g, .int (tableF rt ab q order).2 t'] → K'.PlainList g vg.toArray → Rel2 IsS vg (tableF rt ab q order).1 → Q (.ref a) { s with heap := h', toks := tk }) :
    wpAny (model prg w) A (call (.ref 147) [.ref lo, .ref da, .ref dr, .int q t]) Q E s := by
  refine call_def (binds := [("order", .ref lo), ("above", .ref da), ("rights", .ref dr), ("right", .int q t)]) hA hB hle (hB.frag 147 _ rfl) rfl ⟨_, _, _, _, rfl, hB.frag 146 _ rfl, rfl, rfl⟩ rfl rfl rfl ?_
  intro h₁ tk hA' S₁
  -- held
  refine wpAny_execs_cons (Assign_ListComp_K rfl rfl (by decide) rfl (by decide) ?_ ?_ rfl rfl (x_local S₁.x rfl
    ⟨_, _, _, _, _, (fun j K' acc => Rel2 IsS acc ((order.take j).filter (hasF rt q))), src_list hA'.handled ho, S₁, by show _ ≤ 16777216; rw [hor.length]; omega, .nil, ?_, ?_⟩))
  · exact cl_ok ⟨rfl, rfl, trivial⟩
  · exact cl_pair S₁.cellA ⟨rfl, rfl, trivial⟩ [Str.ofString "rights", Str.ofString "right"] rfl (by decide)
  · rintro C j v' K₂ m₂ acc R h₂ tk₂ E₂ hj hv' hK₂ hacc S₂
    obtain ⟨rg, hrg, tr, rfl⟩ := hor.get hv'
    refine wpAny_assign_Name (st_local S₂ fun h₃ tk₃ S₃ => ?_)
    have hd : h₃.DictOf (strKind prg w) dr kvr := hr.keep (hK₂.trans S₃.x.kh)
    refine wpAny_tests_one (wpAny_isTrue_value (wpAny_BinOp (wpAny_BinOp (Call_method2 rfl rfl rfl (x_cell S₃.x rfl (get_d ⟨_, hd⟩ hr1 (x_local S₃.x rfl (wpAny_Constant_int ⟨rg, tr, 4095, _, kvr, rt, rfl, rfl, hd, hrr, fun t₄ tk₄ => ?_⟩))))))))
    obtain ⟨b1, b2⟩ := hrb rg
    generalize hz : (lookD rt rg).getD 4095 = z at b1 b2
    refine x_cell S₃.x rfl (floordiv_int (by omega) ?_ (.inl (PyProof.noPylong_small (by omega))))
    refine wpAny_Constant_int (mod_int' (by decide) (truthy_int ?_))
    have hh : hasF rt q rg = ((z.fdiv q).fmod 2 != 0) := by unfold hasF; rw [hz]
    by_cases hb : ((z.fdiv q).fmod 2 != 0) = true
    · refine br_t hb (x_local S₃.x rfl ?_)
      refine ⟨h₃, _, K₂, _, rfl, Le.refl _, ?_, S₃⟩
      show Rel2 _ _ _
      rw [take_succ hrg, List.filter_append, List.filter_cons_of_pos (by rw [hh]; exact hb)]
      exact hacc.append (.cons ⟨_, rfl⟩ .nil)
    · refine br_f (by simpa using hb) ?_
      refine ⟨h₃, _, K₂, _, rfl, Le.refl _, ?_, S₃⟩
      show Rel2 _ _ _
      rw [take_succ hrg, List.filter_append, List.filter_cons_of_neg (by rw [hh]; exact hb), List.filter_nil, List.append_nil]
      exact hacc
  · rintro lh vh K₂ K₃ h₃ tk₃ hJ hK₂ hK₃ S₃ hpl kn hvl
    have hvh : Rel2 IsS vh (heldF rt q order) := by
      have := hJ
      rw [List.take_of_length_le (by rw [hor.length]; exact Nat.le_refl _)] at this
      exact this
    clear hJ
    have hhl : (heldF rt q order).length ≤ 1000 := by rw [← hvh.length]; rw [hor.length] at hvl; omega
    unfold tableF at h
    generalize heldF rt q order = held at hvh hhl h
    -- without, taken
    refine wpAny_execs_cons (wpAny_Assign_Name (DictComp_K rfl (by decide) rfl (by decide) (fun _ _ e => by cases e) List.Pairwise.nil (x_local S₃.x rfl
      ⟨_, _, _, _, _, (fun j K' acc => RelD IsI acc (constD 0 (held.take j))), src_list hA'.handled hpl, S₃.x, by show _ ≤ 16777216; rw [hvh.length]; omega, .nil, ?_, ?_⟩)))
    · rintro C j v' K₄ m₄ acc R h₄ tk₄ E₄ hj hv' hK₄ hacc S₄
      obtain ⟨rg, hrg, tr, rfl⟩ := hvh.get hv'
      refine wpAny_assign_Name (st_local S₄ fun h₅ tk₅ S₅ => wpAny_tests_nil (br_t rfl (x_local S₅.x rfl (wpAny_Constant_int ⟨_, _, rfl, h₅, _, K₄, _, rfl, Le.refl _, ?_, S₅⟩))))
      show RelD _ _ _
      rw [constD, foldl_take hrg]
      exact RelD.put hacc ⟨_, rfl⟩
    rintro dw kw K₄ K₅ h₅ tk₅ hJ hK₄ g₅ hdw kndw dw1 hwl
    rw [List.take_of_length_le (by rw [hvh.length]; exact Nat.le_refl _)] at hJ
    refine st_cell (S₃.grow g₅) fun h₆ S₆ => ?_
    refine wpAny_execs_cons (wpAny_Assign_Name (DictComp_K rfl (by decide) rfl (by decide) (fun _ _ e => by cases e) List.Pairwise.nil (x_local S₆.x rfl
      ⟨_, _, _, _, _, (fun j K' acc => RelD IsI acc (constD 1 (held.take j))), src_list hA'.handled (pl_le hpl g₅.kk), S₆.x, by show _ ≤ 16777216; rw [hvh.length]; omega, .nil, ?_, ?_⟩)))
    · rintro C j v' K₇ m₇ acc R h₇ tk₇ E₇ hj hv' hK₇ hacc S₇
      obtain ⟨rg, hrg, tr, rfl⟩ := hvh.get hv'
      refine wpAny_assign_Name (st_local S₇ fun h₈ tk₈ S₈ => wpAny_tests_nil (br_t rfl (x_local S₈.x rfl (wpAny_Constant_int ⟨_, _, rfl, h₈, _, K₇, _, rfl, Le.refl _, ?_, S₈⟩))))
      show RelD _ _ _
      rw [constD, foldl_take hrg]
      exact RelD.put hacc ⟨_, rfl⟩
    rintro dt kt K₇ K₈ h₈ tk₈ hJt hK₇ g₈ hdt kndt dt1 htl
    rw [List.take_of_length_le (by rw [hvh.length]; exact Nat.le_refl _)] at hJt
    refine st_cell (S₆.grow g₈) fun h₉ S₉ => ?_
    refine wpAny_execs_cons (wpAny_Assign_Name (wpAny_Constant_int (st_local S₉ fun h₁₀ tk₁₀ S₁₀ => ?_)))
    have hJ' : RelD IsI kw (constD 0 held) := hJ
    have hJt' : RelD IsI kt (constD 1 held) := hJt
    have edw := of_dict (hdw.keep g₈.kk)
    have edt := of_dict hdt
    have hne : dw ≠ dt := by
      obtain ⟨o, e, _⟩ := of_dict hdw
      intro q
      rw [q, kndt] at e; cases e
    have T := S₁₀.thawOwn (K₀ := K₃) (l := [(dw, dictO w kw), (dt, dictO w kt)]) S₃.kk (g₅.kk.trans g₈.kk) S₃.x.base (fun p hp => by
      rcases List.mem_cons.mp hp with rfl | hp
      · exact ⟨edw, kndw⟩
      · cases List.mem_singleton.mp hp
        exact ⟨edt, g₅.kk.none kndt⟩) (List.pairwise_cons.mpr ⟨fun p hp => by cases List.mem_singleton.mp hp; exact hne, List.pairwise_singleton _ _⟩)
    have cl0 : (constD 0 held).length ≤ held.length := by have := constD_length 0 held []; simpa [constD] using this
    have cl1 : (constD 1 held).length ≤ held.length := by have := constD_length 1 held []; simpa [constD] using this
    have hAb : K₃.DictOf (strKind prg w) da kva := ha.keep S₃.kk
    clear S₁₀ S₉ S₆
    -- the loop
    refine seq5 (s := s) T (own' := []) (fun K' m' cm' => (∃ tf, m' "fewest" = some (.int (tabRun ab held).few tf)) ∧ m' "held" = some (.ref lh) ∧ cm' "without" = some (.ref dw) ∧ cm' "taken" = some (.ref dt) ∧
      ∃ kw' kt', K'.DictOf (strKind prg w) dw kw' ∧ RelD IsI kw' (tabRun ab held).wo ∧ K'.DictOf (strKind prg w) dt kt' ∧ RelD IsI kt' (tabRun ab held).tk ∧ keysAre held (tabRun ab held).wo ∧ keysAre held (tabRun ab held).tk) ?_ ?_
    · refine wpAny_For (x_local T.x rfl (iter_list hA'.handled T hpl (fun i K' m' cm' own' => ∃ kw' kt' st, st = (held.take i).foldl (tabStep ab) ⟨constD 0 held, constD 1 held, 0⟩ ∧ own' = [(dw, dictO w kw'), (dt, dictO w kt')] ∧ RelD IsI kw' st.wo ∧ RelD IsI kt' st.tk ∧
        keysAre held st.wo ∧ keysAre held st.tk ∧ st.wo.length ≤ held.length ∧ st.tk.length ≤ held.length ∧ (∃ tf, m' "fewest" = some (.int st.few tf)) ∧ m' "held" = some (.ref lh) ∧ m' "above" = some (.ref da) ∧ cm' "without" = some (.ref dw) ∧ cm' "taken" = some (.ref dt))
        ⟨kw, kt, _, rfl, rfl, hJ', hJt', keys_const 0 held, keys_const 1 held, cl0, cl1, ⟨_, rfl⟩, rfl, rfl, rfl, rfl⟩ ?_ ?_))
      · rintro i v K₁₁ m₁₁ cm₁₁ own₁₁ R h₁₁ tk₁₁ E₁₁ hv hK₁₁ ⟨kw', kt', st, hst, rfl, rw', rt', kw2, kt2, lw, lt, ⟨tf, mf⟩, m1, m2, c1, c2⟩ S₁₁
        obtain ⟨rg, hrg, tr, rfl⟩ := hvh.get hv
        have hm : rg ∈ held := List.mem_of_getElem? hrg
        have kwl : kw'.length ≤ 1000 := by have := Rel2.length rw'; omega
        have ktl : kt'.length ≤ 1000 := by have := Rel2.length rt'; omega
        refine wpAny_assign_Name (st_local S₁₁ fun h₁₂ tk₁₂ S₁₂ => ?_)
        have d1 := dict_of (S₁₂.has (dw, dictO w kw') (by simp)).1
        have d2 := dict_of (S₁₂.has (dt, dictO w kt') (by simp)).1
        refine wpAny_execs_cons (wpAny_Assign_Name (Call_ (x_builtin S₁₂.x rfl boot_min (cw_bi (spliced_more (Subscript_ (x_cell S₁₂.x c1 (x_local S₁₂.x rfl (item_d d1 rw' (kw2.get hm) fun t₁₃ tk₁₃ => spliced_more (Subscript_ (x_cell S₁₂.x c2 (x_local S₁₂.x rfl (item_d d2 rt' (kt2.get hm) fun t₁₄ tk₁₄ => spliced_none (min_i hA'.handled fun h₁₅ tk₁₅ tm l₁₅ => ?_))))))))))))))
        refine st_local (S₁₂.more l₁₅) fun h₁₆ tk₁₆ S₁₆ => ?_
        have dA : h₁₆.DictOf (strKind prg w) da kva := hAb.keep (hK₁₁.trans S₁₆.x.kh)
        refine wpAny_execs_cons (wpAny_Assign_Name (Call_method2 rfl rfl rfl (x_local S₁₆.x m2 (get_ds ⟨_, dA⟩ ha1 (x_local S₁₆.x rfl (wpAny_Constant_str ⟨rg, _, _, _, kva, ab, rfl, rfl, dA, har, fun t₁₇ tk₁₇ => ?_⟩))))))
        refine st_local S₁₆ fun h₁₈ tk₁₈ S₁₈ => ?_
        have hstep : (held.take (i + 1)).foldl (tabStep ab) ⟨constD 0 held, constD 1 held, 0⟩ = tabStep ab st rg := by rw [foldl_take hrg, ← hst]
        have d3 := dict_of (S₁₈.has (dw, dictO w kw') (by simp)).1
        have d4 := dict_of (S₁₈.has (dt, dictO w kt') (by simp)).1
        refine wpAny_execs_cons (wpAny_If (wpAny_isTrue_Compare1 (x_local S₁₈.x rfl (x_cell S₁₈.x c2 (in_d d4 dt1 rt' fun tk₁₉ => wpAny_truthy_bool ?_)))))
        by_cases hs : (lookD st.tk (topF ab rg)).isSome = true
        · rw [tab_yes hs] at hstep
          have htop : topF ab rg ∈ held := by have := kt2 (topF ab rg); rw [hs] at this; simpa using this
          refine br_t hs ?_
          refine wpAny_execs_cons (wpAny_Assign_Subscript (wpAny_BinOp (Subscript_ (x_cell S₁₈.x c1 (x_local S₁₈.x rfl (item_d d3 rw' (kw2.get htop) fun t₂₀ tk₂₀ => Subscript_ (x_cell S₁₈.x c2 (x_local S₁₈.x rfl (item_d d4 rt' (kt2.get hm) fun t₂₁ tk₂₁ => add_int ?_)))))))))
          refine x_cell S₁₈.x c1 (x_local S₁₈.x rfl (put_d (l₁ := []) S₁₈ (by show _ ≤ 16777216; omega) fun h₂₂ tk₂₂ S₂₂ => ?_))
          have d5 := dict_of (S₂₂.has (dt, dictO w kt') (by simp)).1
          refine wpAny_execs_cons (wpAny_Assign_Subscript (wpAny_BinOp (Subscript_ (x_cell S₂₂.x c2 (x_local S₂₂.x rfl (item_d d5 rt' (kt2.get htop) fun t₂₃ tk₂₃ => x_local S₂₂.x rfl (add_int ?_)))))))
          refine x_cell S₂₂.x c2 (x_local S₂₂.x rfl (put_d (l₁ := [_]) S₂₂ (by show _ ≤ 16777216; omega) fun h₂₄ tk₂₄ S₂₄ => ?_))
          refine wpAny_execs_nil (wpAny_execs_nil ?_)
          refine ⟨h₂₄, _, K₁₁, _, _, [(dw, _), (dt, _)], rfl, Le.refl _, ⟨_, _, _, hstep.symm, rfl, RelD.put rw' ⟨_, rfl⟩, RelD.put rt' ⟨_, rfl⟩, kw2.put htop, kt2.put htop, ?_, ?_, ?_, ?_, ?_, ?_, ?_⟩, S₂₄⟩
          · show (putD _ _ _).length ≤ _
            rw [putD_mem_length (by rw [kw2 (topF ab rg)]; simpa using htop)]; exact lw
          · show (putD _ _ _).length ≤ _
            rw [putD_mem_length hs]; exact lt
          · exact ⟨tf, mf⟩
          · exact m1
          · exact m2
          · exact c1
          · exact c2
        · rw [tab_no hs] at hstep
          refine br_f (Bool.eq_false_iff.mpr hs) ?_
          refine wpAny_execs_cons (wpAny_Assign_Name (wpAny_BinOp (x_local S₁₈.x mf (x_local S₁₈.x rfl (add_int (st_local S₁₈ fun h₂₀ tk₂₀ S₂₀ => ?_))))))
          refine wpAny_execs_nil (wpAny_execs_nil ?_)
          refine ⟨h₂₀, _, K₁₁, _, _, [(dw, _), (dt, _)], rfl, Le.refl _, ⟨_, _, _, hstep.symm, rfl, rw', rt', kw2, kt2, lw, lt, ?_, ?_, ?_, ?_, ?_⟩, S₂₀⟩
          · exact ⟨_, rfl⟩
          · exact m1
          · exact m2
          · exact c1
          · exact c2
      · rintro K₁₁ m₁₁ cm₁₁ own₁₁ h₁₁ tk₁₁ E₁₁ hK₁₁ ⟨kw', kt', st, hst, rfl, rw', rt', kw2, kt2, _, _, ⟨tf, mf⟩, m1, m2, c1, c2⟩ S₁₁
        rw [List.take_of_length_le (by rw [hvh.length]; exact Nat.le_refl _)] at hst
        have hst : st = tabRun ab held := hst
        subst hst
        obtain ⟨K₁₂, o, S₁₂, hK₁₂, hko, hO, _⟩ := S₁₁.freeze
        obtain ⟨K₁₃, o', S₁₃, hK₁₃, hko', hO', _⟩ := S₁₂.freeze
        exact wpAny_execs_nil ⟨rfl, h₁₁, _, K₁₃, _, _, rfl, hK₁₁.trans (hK₁₂.trans hK₁₃), ⟨⟨tf, mf⟩, m1, c1, c2, kw', kt', (dict_of ⟨o, hko, hO⟩).keep hK₁₃, rw', dict_of ⟨o', hko', hO'⟩, rt', kw2, kt2⟩, S₁₃⟩
    · rintro h₁₁ tk₁₁ K₁₁ m₁₁ cm₁₁ hK₁₁ ⟨⟨tf, mf⟩, m1, c1, c2, kw', kt', dw', rw', dt', rt', kw2, kt2⟩ S₁₁
      refine wpAny_execs_cons (wpAny_Return_some (Tuple_ (spliced_more (ListComp_K rfl (by decide) rfl (by decide) (cl_ok ⟨rfl, rfl, trivial⟩) (cl_pair S₁₁.cellA ⟨rfl, rfl, trivial⟩ [Str.ofString "without", Str.ofString "taken"] rfl (by decide)) (x_local S₁₁.x m1
        ⟨_, _, _, _, _, (fun j K' acc => Rel2 IsS acc ((held.take j).filter (guardF (tabRun ab held)))), src_list hA'.handled (pl_le hpl hK₁₁), S₁₁.x, by show _ ≤ 16777216; rw [hvh.length]; omega, .nil, ?_, ?_⟩)))))
      · rintro C j v' K₁₂ m₁₂ acc R h₁₂ tk₁₂ E₁₂ hj hv' hK₁₂ hacc S₁₂
        obtain ⟨rg, hrg, tr, rfl⟩ := hvh.get hv'
        have hm : rg ∈ held := List.mem_of_getElem? hrg
        refine wpAny_assign_Name (st_local S₁₂ fun h₁₃ tk₁₃ S₁₃ => ?_)
        have d1 : h₁₃.DictOf (strKind prg w) dw kw' := dw'.keep (hK₁₂.trans S₁₃.x.kh)
        have d2 : h₁₃.DictOf (strKind prg w) dt kt' := dt'.keep (hK₁₂.trans S₁₃.x.kh)
        refine wpAny_tests_one (wpAny_isTrue_Compare1 (Subscript_ (x_cell S₁₃.x c2 (x_local S₁₃.x rfl (item_d d2 rt' (kt2.get hm) fun t₁₄ tk₁₄ => Subscript_ (x_cell S₁₃.x c1 (x_local S₁₃.x rfl (item_d d1 rw' (kw2.get hm) fun t₁₅ tk₁₅ => le_int (wpAny_truthy_bool ?_)))))))))
        by_cases hg : guardF (tabRun ab held) rg = true
        · refine br_t hg (x_local S₁₃.x rfl ?_)
          refine ⟨h₁₃, _, K₁₂, _, rfl, Le.refl _, ?_, S₁₃⟩
          show Rel2 _ _ _
          rw [take_succ hrg, List.filter_append, List.filter_cons_of_pos hg]
          exact hacc.append (.cons ⟨_, rfl⟩ .nil)
        · refine br_f (Bool.eq_false_iff.mpr hg) ?_
          refine ⟨h₁₃, _, K₁₂, _, rfl, Le.refl _, ?_, S₁₃⟩
          show Rel2 _ _ _
          rw [take_succ hrg, List.filter_append, List.filter_cons_of_neg hg, List.filter_nil, List.append_nil]
          exact hacc
      · rintro g₀ vg K₁₂ K₁₃ h₁₃ tk₁₃ hJ hK₁₂ g₁₃ plg kng hgl
        rw [List.take_of_length_le (by rw [hvh.length]; exact Nat.le_refl _)] at hJ
        have S₁₃ := S₁₁.grow g₁₃
        refine spliced_more (x_local S₁₃.x mf (spliced_none (ntK S₁₃.x.kh fun a h₁₄ K₁₄ g₁₄ tp => ?_)))
        exact h a g₀ h₁₄ K₁₄ _ _ vg (S₁₃.grow g₁₄).grown tp (pl_le plg g₁₄.kk) hJ
end
end Mine
end
section
open PySem PySem.W PyProof.Rows
namespace Mine
def figF (mode : Int) (p : Int) : Int := (mode.fdiv (8 ^ p.toNat)).fmod 8
def markF (mode : Int) (p : Int) : Int := (mode.fdiv (512 * 2 ^ p.toNat)).fmod 2
def part1F (mode : Int) (p : Int) : Str := Txt.item (Str.ofString "-r") ((figF mode p).fdiv 4)
def part2F (mode : Int) (p : Int) : Str := Txt.item (Str.ofString "-w") (((figF mode p).fdiv 2).fmod 2)
def part3F (mode : Int) (p : Int) : Str := Txt.item (if p == 0 then Str.ofString "-xTt" else Str.ofString "-xSs") ((figF mode p).fmod 2 + 2 * markF mode p)
def signStep (mode : Int) (s : Str) (p : Int) : Str := ((s ++ part1F mode p) ++ part2F mode p) ++ part3F mode p
def signsF (mode : Int) : Str := [2, 1, 0].foldl (signStep mode) (Str.ofString "d")
theorem bool_index : typeLookup (.type "bool") "__index__" = pure (some (.builtin "int.__index__")) := by rw [typeLookup_type, builtinLookup_eq_fast]; kernel_rfl
section
variable {w : World} {A : Around} {E : Value → Shared → Prop} {s : Shared}
/-- a pair at a truth -/
theorem item_pair {value slice : Expr} {t : Addr} {x y : Value} {b : Bool} {Q : Value → Shared → Prop} (ht : Tup s.heap t [x, y]) (h : Q (if b then y else x) s)
    (hs : subscripted slice false (.ref t) (.bool b) = operate [.ref t, .bool b] (getItem (.ref t) (.bool b)) := by with_unfolding_all rfl) :
    wpAny (model prg w) A (subscriptTail value slice (.ref t) (.bool b)) Q E s := by
  have hT := ht.isTup
  refine tail_any hT.typeIs slot_tuple_getitem.lookup ?_ hs
  unfold getItem
  refine wpAny_holding ?_
  refine wpAny_bind (wpAny_sequenceKey hT.typeIs (by decide) ?_)
  refine wpAny_bind (wpAny_callSpecial?_slot (name := Str.ofString "__getitem__") hT.typeIs slot_tuple_getitem
    (wpAny_call_entry slot_tuple_getitem hT.typeIs entry_tuple_getitem ?_ (args_tuple_getitem _ _)))
  show wpAny _ _ (Builtin.Tuple.tupleItemsOf (.ref t) >>= _) _ _ s
  refine wpAny_bind (tupleItemsOf_ hT ?_)
  have hb : s.TypeIs (.bool b) "bool" := rfl
  refine wpAny_bind (wpAny_typeOf hb ?_)
  rw [if_neg (by decide)]
  refine wpAny_bind (wpAny_specialOf (T := "bool") hb bool_index ?_)
  rw [if_neg (by simp)]
  cases b with
  | true =>
    refine wpAny_bind (wpAny_of_eq (a := 1) rfl ?_)
    exact wpAny_pure ⟨_, rfl, wpAny_pure h⟩
  | false =>
    refine wpAny_bind (wpAny_of_eq (a := 0) rfl ?_)
    exact wpAny_pure ⟨_, rfl, wpAny_pure h⟩
theorem item_pairS {value slice : Expr} {t : Addr} {x y : Str} {tx ty : Tok} {b : Bool} {Q : Value → Shared → Prop} (ht : Tup s.heap t [.str x tx, .str y ty]) (h : Q (.str (if b then y else x) (if b then ty else tx)) s)
    (hs : subscripted slice false (.ref t) (.bool b) = operate [.ref t, .bool b] (getItem (.ref t) (.bool b)) := by with_unfolding_all rfl) :
    wpAny (model prg w) A (subscriptTail value slice (.ref t) (.bool b)) Q E s := by
  refine item_pair ht ?_ hs
  cases b <;> exact h
theorem pow8 {p : Int} (h0 : 0 ≤ p) (h1 : p ≤ 2) : (Builtin.Int.intBits 8 : Int) * p ≤ 2 ^ 27 := by
  have : Builtin.Int.intBits 8 = 4 := by decide +kernel
  rw [this]; omega
theorem pow2 {p : Int} (h0 : 0 ≤ p) (h1 : p ≤ 12) : (Builtin.Int.intBits 2 : Int) * p ≤ 2 ^ 27 := by
  have : Builtin.Int.intBits 2 = 2 := by decide +kernel
  rw [this]; omega
set_option maxHeartbeats 1000000 in
theorem spec_signs {K : Heap} {n : Nat} {mode : Int} {t : Tok} {Q : Value → Shared → Prop} (hA : AOk (n + 1) A) (hB : Base w K) (hle : Le K s.heap) (h0 : 0 ≤ mode) (h1 : mode ≤ 4095)
    (h : ∀ h' tk t', Le s.heap h' → Q (.str (signsF mode) t') { s with heap := h', toks := tk }) :
    wpAny (model prg w) A (call (.ref 154) [.int mode t]) Q E s := by
  refine call_def (binds := [("mode", .int mode t)]) hA hB hle (hB.frag 154 _ rfl) rfl ⟨_, _, _, _, rfl, hB.frag 153 _ rfl, rfl, rfl⟩ rfl rfl rfl ?_
  intro h₁ tk hA' S₁
  refine wpAny_execs_cons (wpAny_Assign_Name (wpAny_Constant_str (st_local S₁ fun h₂ tk₂ S₂ => ?_)))
  refine wpAny_execs_cons (wpAny_For (Tuple_ (spliced_more (wpAny_Constant_int (spliced_more (wpAny_Constant_int (spliced_more (wpAny_Constant_int (spliced_none (ntK S₂.x.kh fun a h₃ K₃ g₃ tp => ?_))))))))))
  have S₃ := S₂.grow g₃
  refine iter_tup hA'.handled S₃ tp (fun i K' m' cm' own' => own' = [] ∧ m' "mode" = some (.int mode t) ∧ ∃ sg u, m' "signs" = some (.str sg u) ∧ sg = ([2, 1, 0].take i).foldl (signStep mode) (Str.ofString "d") ∧ sg.length ≤ 1 + 3 * i) ⟨rfl, rfl, _, _, rfl, rfl, by decide⟩ ?_ ?_
  · rintro i v K₄ m₄ cm₄ own₄ R h₄ tk₄ E₄ hv hK₄ ⟨rfl, m1, sg, u, m2, hsg, hsl⟩ S₄
    have hp : ∃ p tp, v = .int p tp ∧ ([2, 1, 0] : List Int)[i]? = some p ∧ 0 ≤ p ∧ p ≤ 2 ∧ i < 3 := by
      rcases i with _ | _ | _ | i
      · simp at hv; exact ⟨2, _, hv.symm, rfl, by decide, by decide, by decide⟩
      · simp at hv; exact ⟨1, _, hv.symm, rfl, by decide, by decide, by decide⟩
      · simp at hv; exact ⟨0, _, hv.symm, rfl, by decide, by decide, by decide⟩
      · simp at hv
    obtain ⟨p, tp', rfl, hpi, hp0, hp2, hi3⟩ := hp
    have q8 : (0 : Int) < 8 ^ p.toNat := Int.pow_pos (by decide)
    have q2 : (0 : Int) < 2 ^ p.toNat := Int.pow_pos (by decide)
    have b8 : (8 : Int) ^ p.toNat ≤ 64 := by
      have : p = 0 ∨ p = 1 ∨ p = 2 := by omega
      rcases this with rfl | rfl | rfl <;> decide
    have b2 : (2 : Int) ^ p.toNat ≤ 4 := by
      have : p = 0 ∨ p = 1 ∨ p = 2 := by omega
      rcases this with rfl | rfl | rfl <;> decide
    refine wpAny_assign_Name (st_local S₄ fun h₅ tk₅ S₅ => ?_)
    refine wpAny_execs_cons (wpAny_Assign_Name (wpAny_BinOp (wpAny_BinOp (x_local S₅.x m1 (wpAny_BinOp (wpAny_Constant_int (x_local S₅.x rfl (pow_int hp0 (pow8 hp0 hp2) (floordiv_int (by omega) (wpAny_Constant_int (mod_int' (by decide) ?_)) (.inl (PyProof.noPylong_small (by omega))))))))))))
    refine st_local S₅ fun h₆ tk₆ S₆ => ?_
    have f0 : 0 ≤ figF mode p := Int.fmod_nonneg_of_pos _ (by decide)
    have f1 : figF mode p < 8 := Int.fmod_lt_of_pos _ (by decide)
    have k0 : 0 ≤ markF mode p := Int.fmod_nonneg_of_pos _ (by decide)
    have k1 : markF mode p < 2 := Int.fmod_lt_of_pos _ (by decide)
    refine wpAny_execs_cons (wpAny_Assign_Name (wpAny_BinOp (wpAny_BinOp (x_local S₆.x m1 (wpAny_BinOp (wpAny_Constant_int (wpAny_BinOp (wpAny_Constant_int (x_local S₆.x rfl (pow_int hp0 (pow2 hp0 (by omega)) (mul_int (floordiv_int (by omega) (wpAny_Constant_int (mod_int' (by decide) ?_)) (.inl (PyProof.noPylong_small (by omega)))) (IntMulOk.of_left (by decide +kernel)))))))))))))
    refine st_local S₆ fun h₇ tk₇ S₇ => ?_
    have e4 : (figF mode p).fdiv 4 = figF mode p / 4 := Int.fdiv_eq_ediv_of_nonneg _ (by decide)
    have e2 : (figF mode p).fdiv 2 = figF mode p / 2 := Int.fdiv_eq_ediv_of_nonneg _ (by decide)
    have e22 : ((figF mode p).fdiv 2).fmod 2 = (figF mode p / 2) % 2 := by rw [e2]; exact Int.fmod_eq_emod_of_nonneg _ (by decide)
    have e21 : (figF mode p).fmod 2 = figF mode p % 2 := Int.fmod_eq_emod_of_nonneg _ (by decide)
    have lr : (Str.ofString "-r").length = 2 := by decide
    have lw : (Str.ofString "-w").length = 2 := by decide
    have lx : ∀ b : Bool, (if b then Str.ofString "-xTt" else Str.ofString "-xSs").length = 4 := by decide
    have hsz : ∀ {n : Nat}, n ≤ 100 → n ≤ sizeLine := fun h => Nat.le_trans h (by show 100 ≤ 16777216; decide)
    refine wpAny_execs_cons (wpAny_Assign_Name (wpAny_BinOp (wpAny_BinOp (x_local S₇.x m2 (Subscript_ (wpAny_Constant_str (wpAny_BinOp (x_local S₇.x rfl (wpAny_Constant_int (floordiv_int (by decide) (item_str (fitsSsize_of (N := 10) (by show _ < (figF mode p).fdiv 4; omega) (by show (figF mode p).fdiv 4 < _; omega) (by decide)) (by show _ ≤ (figF mode p).fdiv 4; omega) (by show (figF mode p).fdiv 4 < _; omega) fun l1 => SB.add (fun t₈ k₈ => ?_) ?_) (.inl (PyProof.noPylong_small (by decide)))))))))))))
    rotate_left
    · exact hsz (Nat.le_trans (Nat.add_le_add hsl l1.2) (by omega))
    refine Subscript_ (wpAny_Constant_str (wpAny_BinOp (wpAny_BinOp (x_local S₇.x rfl (wpAny_Constant_int (floordiv_int (by decide) (wpAny_Constant_int (mod_int' (by decide) (item_str (fitsSsize_of (N := 10) (by show _ < ((figF mode p).fdiv 2).fmod 2; omega) (by show ((figF mode p).fdiv 2).fmod 2 < _; omega) (by decide)) (by show _ ≤ ((figF mode p).fdiv 2).fmod 2; omega) (by show ((figF mode p).fdiv 2).fmod 2 < _; omega) fun l2 => SB.add (fun t₉ k₉ => ?_) ?_))) (.inl (PyProof.noPylong_small (by decide)))))))))
    rotate_left
    · rw [Str.length_append]; exact hsz (Nat.le_trans (Nat.add_le_add (Nat.add_le_add hsl l1.2) l2.2) (by omega))
    have l12 : ((sg ++ part1F mode p) ++ part2F mode p).length ≤ 1 + 3 * i + 2 := by
      have h1 : (part1F mode p).length ≤ 1 := l1.2
      have h2 : (part2F mode p).length ≤ 1 := l2.2
      rw [Str.length_append, Str.length_append]; omega
    refine st_local S₇ fun h₁₀ tk₁₀ S₁₀ => ?_
    refine wpAny_execs_cons (wpAny_Assign_Name (wpAny_BinOp (x_local S₁₀.x rfl (Subscript_ (Subscript_ (Tuple_ (spliced_more (wpAny_Constant_str (spliced_more (wpAny_Constant_str (spliced_none (ntK S₁₀.x.kh fun a₁₁ h₁₁ K₁₁ g₁₁ tp₁₁ => ?_))))))))))))
    have S₁₁ := S₁₀.grow g₁₁
    refine wpAny_Compare1 (x_local S₁₁.x rfl (wpAny_Constant_int (eq_int (item_pairS (tp₁₁.le S₁₁.x.kh) ?_))))
    have lx' := lx (p == 0)
    refine wpAny_BinOp (wpAny_BinOp (x_local S₁₁.x rfl (wpAny_Constant_int (mod_int' (by decide) (wpAny_BinOp (wpAny_Constant_int (x_local S₁₁.x rfl (mul_int (add_int ?_) (IntMulOk.of_left (by decide +kernel))))))))))
    refine item_str (fitsSsize_of (N := 10) (by show _ < (figF mode p).fmod 2 + 2 * markF mode p; omega) (by show (figF mode p).fmod 2 + 2 * markF mode p < _; omega) (by decide)) (by show _ ≤ (figF mode p).fmod 2 + 2 * markF mode p; omega) (by show (figF mode p).fmod 2 + 2 * markF mode p < _; omega) fun l3 => SB.add (fun t₁₂ k₁₂ => ?_) (hsz (Nat.le_trans (Nat.add_le_add l12 l3.2) (by omega)))
    refine st_local S₁₁ fun h₁₃ tk₁₃ S₁₃ => ?_
    refine wpAny_execs_nil ?_
    refine ⟨h₁₃, _, K₁₁, _, _, [], rfl, g₁₁.kk, ⟨rfl, ?_, _, _, rfl, ?_, ?_⟩, S₁₃⟩
    · exact m1
    · rw [foldl_take hpi, ← hsg]; rfl
    · rw [Str.length_append]; exact Nat.le_trans (Nat.add_le_add l12 l3.2) (by omega)
  · rintro K₄ m₄ cm₄ own₄ h₄ tk₄ E₄ hK₄ ⟨rfl, m1, sg, u, m2, hsg, hsl⟩ S₄
    refine wpAny_execs_nil (wpAny_execs_cons (wpAny_Return_some (x_local S₄.x m2 ?_)))
    have : sg = signsF mode := hsg
    rw [this]
    exact h _ _ _ S₄.base
end
end Mine
end
section
open PySem PySem.W PyProof.Rows
namespace Mine
theorem sw_List {elts : List Expr} {p : Pos} {t : Option Expr} {ln : Nat} {env : Env} : swapsWith (.List elts p) t ln env = pure false := rfl
theorem sw_Call {f : Expr} {a : List Expr} {k : List Keyword} {p : Pos} {t : Option Expr} {ln : Nat} {env : Env} : swapsWith (.Call f a k p) t ln env = pure false := rfl
theorem sw_BinOp {f g : Expr} {o : Operator} {p : Pos} {t : Option Expr} {ln : Nat} {env : Env} : swapsWith (.BinOp f o g p) t ln env = pure false := rfl
theorem sw_Sub {f g : Expr} {p : Pos} {t : Option Expr} {ln : Nat} {env : Env} : swapsWith (.Subscript f g p) t ln env = pure false := rfl
section
variable {w : World} {A : Around} {E : Value → Shared → Prop} {s : Shared} {K : Heap} {env : Env}
theorem cw_ty {M : Model} {pos : Pos} {Q : Value → Shared → Prop} {id : String} {e : Expr} {rest : List Expr} (h : wpAny M A (spliced (backTo pos (starEach (e :: rest) env))) (fun vs s₁ => wpAny M A (call (.type id) vs) Q E s₁) E s)
    (he : starEach (e :: rest) env = (false, eval e env) :: starEach rest env := by rfl) (hplain : (backTo pos (starEach rest env)).any (·.1) = false := by rfl) :
    wpAny M A (callWith pos (.type id) [] (backTo pos (starEach (e :: rest) env)) []) Q E s := by
  rw [he] at h ⊢
  exact PySem.callWith_type (by show (false || (backTo pos (starEach rest env)).any (·.1)) = false; rw [hplain]; rfl) (Calls.evalArgs_plain h)
theorem nlA {vs : List Value} {Q : Value → Shared → Prop} (h : ∀ a h', Le s.heap h' → h'.PlainList a vs.toArray → s.heap.get? a = none → Q (.ref a) { s with heap := h' }) (hsz : vs.length ≤ sizeLine := by size_fits) :
    wpAny (model prg w) A (newList vs) Q E s :=
  wpAny_newObj_type (h _ _ (le_push _ _) ⟨0, Heap.get?_push_size _ rfl⟩ (none_size _)) (by show vs.toArray.size ≤ sizeLine; rw [List.size_toArray]; exact hsz)
theorem ndA {Q : Value → Shared → Prop} (h : ∀ a h', Le s.heap h' → (∃ o, h'.get? a = some o ∧ dictO w [] o) → s.heap.get? a = none → Q (.ref a) { s with heap := h' }) :
    wpAny (model prg w) A newDict Q E s := by
  unfold newDict
  exact wpAny_newObj_type (h _ _ (le_push _ _) ⟨_, Heap.get?_push_size _ rfl, dict_new⟩ (none_size _))
/-- a range can be gone through -/
theorem src_range {r : Addr} {N : Int} {t u v : Tok} (hh : A.handled = none) (hr : IsRange K r 0 N 1 t u v) (lo : -(2 ^ 62) ≤ N) (hi : N < 2 ^ 62) : Src w A K (.ref r) N.toNat fun i v => ∃ t, v = .int (i : Int) t := by
  intro s E Q hK h
  refine wpAny_pyIter_range (hK _ _ hr) (small_one (by decide) (by decide) lo hi) ?_
  have hsz : Builtin.Range.rangeSize 0 N 1 = (N.toNat : Int) := by rw [rangeSize_one]; split <;> omega
  have W := Walks.range (prog := prg) (w := w) hh s.heap.objs.size 0 1 N.toNat
  have e2 : (fun (i : Nat) (v : Value) => ∃ t, v = .int (0 + (i : Int) * 1) t) = fun i v => ∃ t, v = .int (i : Int) t := by funext i v; simp
  rw [e2] at W
  refine h _ _ _ _ _ (le_push _ _) W ?_ ?_ ?_ ?_ (fun b hb => by rw [List.mem_singleton.mp hb]; exact none_size _) (List.pairwise_singleton _ _)
  · intro i h st b hb
    cases List.mem_singleton.mp hb
    exact ⟨_, st⟩
  · exact fun b hb => .inl hb
  · intro target i s' v Q' E' st h
    exact letGo_plain st rfl (by decide) h
  · have e1 : (0 + ((0 : Nat) : Int) * 1) = 0 := by simp
    have e3 : ((N.toNat : Int) - ((0 : Nat) : Int)) = Builtin.Range.rangeSize 0 N 1 := by rw [hsz]; simp
    show IsRangeIter _ _ (0 + ((0 : Nat) : Int) * 1) ((N.toNat : Int) - ((0 : Nat) : Int)) 1
    rw [e1, e3]
    exact Heap.get?_push_size _ rfl
theorem range_k {N : Int} {t : Tok} {Q : Value → Shared → Prop} (x : Le K s.heap) (hh : A.handled = none) (lo : -(2 ^ 62) ≤ N) (hi : N < 2 ^ 62)
    (h : ∀ r h' K' tk, Grown K s.heap K' h' → Src w A K' (.ref r) N.toNat (fun i v => ∃ t, v = .int (i : Int) t) → Q (.ref r) { s with heap := h', toks := tk }) :
    wpAny (model prg w) A (call (.type "range") [.int N t]) Q E s := by
  refine call_range_1 ?_
  obtain ⟨K', g, e⟩ := Grown.push x { cls := .type "range", data := .fields #[.int 0 s.toks, .int N t, .int 1 (s.toks + 1)] } rfl
  exact h _ _ K' _ g (src_range hh e lo hi)
/-- t[k] of a tuple -/
theorem item_t {value slice : Expr} {l : Addr} {vs : List Value} {k : Int} {u : Tok} {v : Value} {Q : Value → Shared → Prop} (hl : Tup s.heap l vs) (h0 : 0 ≤ k) (hf : k < 2 ^ 63) (hx : vs[k.toNat]? = some v) (h : Q v s)
    (hs : subscripted slice false (.ref l) (.int k u) = operate [.ref l, .int k u] (getItem (.ref l) (.int k u)) := by with_unfolding_all rfl) :
    wpAny (model prg w) A (subscriptTail value slice (.ref l) (.int k u)) Q E s := by
  have hlt : k.toNat < vs.length := (List.getElem?_eq_some_iff.mp hx).1
  refine item_tupleT hl.isTup (Int.le_trans (by decide) h0) hf (j := k.toNat) ?_ hx h hs
  unfold seqIndex?
  have e1 : ¬ k < 0 := by omega
  simp only [e1, if_false]
  rw [if_pos]
  simp only [Bool.and_eq_true, decide_eq_true_eq]
  omega
end
section
variable {oc : Bool} {w : World} {A : Around} {E : Value → Shared → Prop} {s : Shared} {K Kb h₀ : Heap} {env : Env} {m cm : Str → Option Value} {own : OwnL}
theorem S.freezeL {h : Heap} {a : Addr} {us : List Value} (x : S oc w h₀ Kb env K m cm ((a, listO us) :: own) h) :
    ∃ K', S oc w h₀ Kb env K' m cm own h ∧ Le K K' ∧ K'.PlainList a us.toArray ∧ Kb.get? a = none := by
  obtain ⟨K', o, S', hK, hko, hO, _⟩ := x.freeze
  exact ⟨K', S', hK, plain_of ⟨o, hko, hO⟩, x.kk.none (x.has _ List.mem_cons_self).2.2.1⟩
theorem S.freezeD {h : Heap} {a : Addr} {kvs : List (Str × Value)} (x : S oc w h₀ Kb env K m cm ((a, dictO w kvs) :: own) h) :
    ∃ K', S oc w h₀ Kb env K' m cm own h ∧ Le K K' ∧ K'.DictOf (strKind prg w) a kvs ∧ Kb.get? a = none := by
  obtain ⟨K', o, S', hK, hko, hO, _⟩ := x.freeze
  exact ⟨K', S', hK, dict_of ⟨o, hko, hO⟩, x.kk.none (x.has _ List.mem_cons_self).2.2.1⟩
/-- xs.append(v) on the frame's list -/
theorem append_at {pos : Pos} {x : Sem Value} {a : Addr} {l₂ : OwnL} {vs : List Value} {Q : Value → Shared → Prop} (S₀ : S oc w h₀ Kb env K m cm ((a, listO vs) :: l₂) s.heap)
    (h : wpAny (model prg w) A x (fun v s₁ => ∃ K m cm, S oc w h₀ Kb env K m cm ((a, listO vs) :: l₂) s₁.heap ∧ vs.length ≤ sizeLine ∧
      ∀ h', S oc w h₀ Kb env K m cm ((a, listO (vs ++ [v])) :: l₂) h' → Q .none { s₁ with heap := h' }) E s) :
    MethodOnS prg w A E "append" (.ref a) pos [(false, x)] Q s := append_own (l₁ := []) (S₀.has _ List.mem_cons_self).1 h
/-- a, b = t -/
theorem assign_pair {x y : Str} {px py pt : Pos} {k : Nat} {t : Addr} {v u : Value} {Q : Unit → Shared → Prop} (hh : A.handled = none) (S₀ : S oc w h₀ Kb env K m cm own s.heap) (ht : s.heap.IsTuple t #[v, u])
    (hx : env.kindOf x = some .local) (hy : env.kindOf y = some .local) (hk : env.scope.kind = .function)
    (h : ∀ h' tk, S oc w h₀ Kb env K (fun z => if z = y then some u else if z = x then some v else m z) cm own h' → Q () { s with heap := h', toks := tk }) :
    wpAny (model prg w) A (assign (.Tuple [.Name x px, .Name y py] k pt) env (.ref t)) Q E s := by
  refine wpAny_assign_Tuple hh ht rfl rfl fun h₁ hx₁ => ?_
  replace hx₁ : Heap.ExtBut s.heap.objs.size s.heap h₁ := hx₁
  have l1 : Le s.heap h₁ := fun b o e => hx₁ b o (fun q => by rw [q, none_size] at e; cases e) e
  show wpAny _ A (do holding [u] (assign (.Name x px) env v); do holding [] (assign (.Name y py) env u); pure ()) _ _ _
  refine wpAny_bind (wpAny_holding (wpAny_assign_Name (st_local (S₀.more l1) (fun h₂ tk₂ S₂ => ?_) hk hx)))
  refine wpAny_bind (wpAny_holding (wpAny_assign_Name (st_local S₂ (fun h₃ tk₃ S₃ => wpAny_pure ?_) hk hy)))
  exact h h₃ tk₃ S₃
end
end Mine
end
section
open PySem PySem.W PyProof.Rows
namespace Mine
def labF (n k : Int) : Str := Txt.item (Str.ofString "ab") (((n.fdiv 12).fdiv (2 ^ k.toNat)).fmod 2)
def tails : List Str := [Str.ofString "local", Str.ofString "com", Str.ofString "7", Str.ofString "local"]
def tlF (i : Int) : Str := (tails[i.toNat]?).getD (Str.ofString "")
def labsF (n : Int) (j : Nat) : List Str := (List.range j).map fun k : Nat => labF n (k : Int)
def hostN (n : Int) : List Str × Int := (labsF n (1 + n.fmod 3).toNat ++ [tlF ((n.fdiv 3).fmod 4)], ((n.fdiv 96) + 73 * n).fmod 4096)
def hostF (x : Int) : List Str × Int := hostN (x.fmod 393216)
def hosts0 : List (List Str × Int) := [([Str.ofString "a", Str.ofString "b", Str.ofString "local"], 3055), ([Str.ofString "b", Str.ofString "local"], 2015)]
def hostsF (ns : List Int) : List (List Str × Int) := hosts0 ++ (ns.take 4).map hostF
def LHost (K : Heap) (v : Value) (p : List Str × Int) : Prop := ∃ a l ls t, v = .ref a ∧ Tup K a [.ref l, .int p.2 t] ∧ K.PlainList l ls.toArray ∧ Rel2 IsS ls p.1
theorem LHost.le {K K' : Heap} {v : Value} {p : List Str × Int} (x : LHost K v p) (l : Le K K') : LHost K' v p := let ⟨a, b, ls, t, e, tp, pl, r⟩ := x; ⟨a, b, ls, t, e, tp.le l, pl_le pl l, r⟩
theorem lh_le {K K' : Heap} {us : List Value} {ls : List (List Str × Int)} (x : Rel2 (LHost K) us ls) (l : Le K K') : Rel2 (LHost K') us ls := x.mono fun _ _ q => q.le l
theorem labs_succ (n : Int) (j : Nat) : labsF n (j + 1) = labsF n j ++ [labF n j] := by
  unfold labsF; rw [List.range_succ, List.map_append]; rfl
theorem labs_more {acc : List Value} {n : Int} {j : Nat} {y : Value} (h : Rel2 IsS acc (labsF n j)) (hy : IsS y (labF n j)) : Rel2 IsS (acc ++ [y]) (labsF n (j + 1)) := by
  rw [labs_succ]
  exact h.append (.cons hy .nil)
theorem hosts_more {K : Heap} {us : List Value} {l : List Int} {i : Nat} {x : Int} {v : Value} (h : Rel2 (LHost K) us (hosts0 ++ (l.take i).map hostF)) (hx : l[i]? = some x) (hv : LHost K v (hostF x)) :
    Rel2 (LHost K) (us ++ [v]) (hosts0 ++ (l.take (i + 1)).map hostF) := by
  rw [take_succ hx, List.map_append, ← List.append_assoc]
  exact h.append (.cons hv .nil)
theorem hosts_all {K : Heap} {us vs : List Value} {ns : List Int} (hl : vs.length = ns.length) (h : Rel2 (LHost K) us (hosts0 ++ ((ns.take 4).take (vs.take 4).length).map hostF)) : Rel2 (LHost K) us (hostsF ns) := by
  have e1 : (ns.take 4).take (vs.take 4).length = ns.take 4 := List.take_of_length_le (by rw [List.length_take, List.length_take, hl]; exact Nat.le_refl _)
  rw [e1] at h
  exact h
theorem host_mk {K : Heap} {a l : Addr} {x : Int} {ys : List Value} {t tt : Tok} (tp : Tup K a [.ref l, .int (((x.fmod 393216).fdiv 96 + 73 * (x.fmod 393216)).fmod 4096) t])
    (pl : K.PlainList l (ys ++ [Value.str (tlF (((x.fmod 393216).fdiv 3).fmod 4)) tt]).toArray) (hy : Rel2 IsS ys (labsF (x.fmod 393216) (1 + (x.fmod 393216).fmod 3).toNat)) : LHost K (.ref a) (hostF x) :=
  ⟨a, l, _, t, rfl, tp, pl, hy.append (.cons ⟨_, rfl⟩ .nil)⟩
theorem item_tl {w : World} {A : Around} {E : Value → Shared → Prop} {s : Shared} {value slice : Expr} {l : Addr} {t1 t2 t3 t4 u : Tok} {i : Int} {Q : Value → Shared → Prop} (h0 : 0 ≤ i) (h1 : i < 4)
    (hl : Tup s.heap l [.str (Str.ofString "local") t1, .str (Str.ofString "com") t2, .str (Str.ofString "7") t3, .str (Str.ofString "local") t4]) (h : ∀ t, Q (.str (tlF i) t) s)
    (hs : subscripted slice false (.ref l) (.int i u) = operate [.ref l, .int i u] (getItem (.ref l) (.int i u)) := by with_unfolding_all rfl) :
    wpAny (model prg w) A (subscriptTail value slice (.ref l) (.int i u)) Q E s := by
  have : ∃ t, ([Value.str (Str.ofString "local") t1, Value.str (Str.ofString "com") t2, Value.str (Str.ofString "7") t3, Value.str (Str.ofString "local") t4] : List Value)[i.toNat]? = some (Value.str (tlF i) t) := by
    have : i = 0 ∨ i = 1 ∨ i = 2 ∨ i = 3 := by omega
    rcases this with rfl | rfl | rfl | rfl <;> exact ⟨_, rfl⟩
  obtain ⟨t, e⟩ := this
  exact item_t hl h0 (by omega) e (h t) hs
section
variable {w : World} {A : Around} {E : Value → Shared → Prop} {s : Shared} {K : Heap} {n : Nat}
set_option maxHeartbeats 1000000 in
theorem spec_hosts {l : Addr} {vs : List Value} {ns : List Int} {Q : Value → Shared → Prop} (hA : AOk (n + 1) A) (hB : Base w K) (hle : Le K s.heap) (hl : K.IsList l vs.toArray) (hr : Rel2 IsI vs ns) (hsz : vs.length ≤ 63)
    (h : ∀ a h' K' tk us, Grown K s.heap K' h' → K'.PlainList a us.toArray → Rel2 (LHost K') us (hostsF ns) → K.get? a = none → Q (.ref a) { s with heap := h', toks := tk }) :
    wpAny (model prg w) A (call (.ref 116) [.ref l]) Q E s := by
  refine call_def (binds := [("script", .ref l)]) hA hB hle (hB.frag 116 _ rfl) rfl ⟨_, _, _, _, rfl, hB.frag 115 _ rfl, rfl, rfl⟩ rfl rfl rfl ?_
  intro h₁ tk hA' S₁
  refine wpAny_execs_cons ?_
  refine wpAny_Assign_Name ?_ ?_
  rotate_left
  · exact sw_List
  refine List_ ?_
  refine spliced_more ?_
  refine Tuple_ ?_
  refine spliced_more ?_
  refine List_ ?_
  refine spliced_more (wpAny_Constant_str ?_)
  refine spliced_more (wpAny_Constant_str ?_)
  refine spliced_more (wpAny_Constant_str ?_)
  refine spliced_none (nlK S₁.x.kh fun a₂ h₂ K₂ g₂ pl₂ _ => ?_)
  have S₂ := S₁.grow g₂
  refine spliced_more (wpAny_Constant_int (spliced_none (ntK S₂.x.kh fun a₃ h₃ K₃ g₃ tp₃ => ?_)))
  have S₃ := S₂.grow g₃
  refine spliced_more ?_
  refine Tuple_ ?_
  refine spliced_more ?_
  refine List_ ?_
  refine spliced_more (wpAny_Constant_str ?_)
  refine spliced_more (wpAny_Constant_str ?_)
  refine spliced_none (nlK S₃.x.kh fun a₄ h₄ K₄ g₄ pl₄ _ => ?_)
  have S₄ := S₃.grow g₄
  refine spliced_more (wpAny_Constant_int (spliced_none (ntK S₄.x.kh fun a₅ h₅ K₅ g₅ tp₅ => ?_)))
  have S₅ := S₄.grow g₅
  refine spliced_none (nlA fun r h₆ l₆ pl₆ kn₆ => ?_)
  have S₆ := S₅.push l₆ (of_plain pl₆) kn₆
  have hh0 : Rel2 (LHost K₅) [.ref a₃, .ref a₅] hosts0 :=
    .cons ⟨_, _, _, _, rfl, tp₃.le (g₄.kk.trans g₅.kk), pl_le pl₂ (g₃.kk.trans (g₄.kk.trans g₅.kk)), .cons ⟨_, rfl⟩ (.cons ⟨_, rfl⟩ (.cons ⟨_, rfl⟩ .nil))⟩ (.cons ⟨_, _, _, _, rfl, tp₅, pl_le pl₄ g₅.kk, .cons ⟨_, rfl⟩ (.cons ⟨_, rfl⟩ .nil)⟩ .nil)
  clear S₂ S₃ S₄ S₅ g₂ g₃ g₄ g₅ tp₃ tp₅ pl₂ pl₄
  refine st_local S₆ fun h₇ tk₇ S₇ => ?_
  refine wpAny_execs_cons (wpAny_For (sub_list_upto (k := 4) (x_local S₇.x rfl ⟨_, _, _, rfl, (hl.at fun o e => S₇.kk _ _ e).at fun o e => S₇.x.kh _ _ e, S₇.x.kh, by show _ ≤ 16777216; omega, fun a₈ h₈ K₈ tk₈ g₈ pl₈ _ => ?_⟩)))
  have S₈ := S₇.grow g₈
  refine iter_list hA'.handled S₈ pl₈ (fun i K' m' cm' own' => ∃ us, own' = [(r, listO us)] ∧ us.length = 2 + i ∧ Rel2 (LHost K') us (hosts0 ++ ((ns.take 4).take i).map hostF) ∧ m' "hosts" = some (.ref r)) ?_ ?_ ?_
  · exact ⟨_, rfl, rfl, lh_le hh0 g₈.kk, rfl⟩
  · rintro i v K₉ m₉ cm₉ own₉ R h₉ tk₉ E₉ hv hK₉ ⟨us, rfl, hul, hus, m1⟩ S₉
    have hi : i < 4 := by
      have := (List.getElem?_eq_some_iff.mp hv).1
      simp at this; omega
    have this1 := (hr.take 4).get hv
    obtain ⟨x, hx, hv2⟩ := this1
    obtain ⟨tx, e⟩ := hv2
    subst e
    have n0 : 0 ≤ x.fmod 393216 := Int.fmod_nonneg_of_pos _ (by decide)
    have n1 : x.fmod 393216 < 393216 := Int.fmod_lt_of_pos _ (by decide)
    have hhost : hostF x = hostN (x.fmod 393216) := rfl
    refine wpAny_assign_Name (st_local S₉ fun h₁₀ tk₁₀ S₁₀ => ?_)
    refine wpAny_execs_cons (wpAny_Assign_Name (wpAny_BinOp (x_local S₁₀.x rfl (wpAny_Constant_int (mod_int' (by decide) ?_)))))
    refine st_cell S₁₀ fun h₁₁ S₁₁ => ?_
    have b0 : 0 ≤ (x.fmod 393216).fmod 3 := Int.fmod_nonneg_of_pos _ (by decide)
    have b1 : (x.fmod 393216).fmod 3 < 3 := Int.fmod_lt_of_pos _ (by decide)
    have b2 : 0 ≤ ((x.fmod 393216).fdiv 3).fmod 4 := Int.fmod_nonneg_of_pos _ (by decide)
    have b3 : ((x.fmod 393216).fdiv 3).fmod 4 < 4 := Int.fmod_lt_of_pos _ (by decide)
    have b4 : (x.fmod 393216).fdiv 12 = (x.fmod 393216) / 12 := Int.fdiv_eq_ediv_of_nonneg _ (by decide)
    have b5 : (x.fmod 393216).fdiv 96 = (x.fmod 393216) / 96 := Int.fdiv_eq_ediv_of_nonneg _ (by decide)
    refine wpAny_execs_cons (Assign_ListComp_K (oc := true) (h₀ := s.heap) (Kb := K) (own := [(r, listO us)] ++ R) rfl rfl (by decide) rfl (by decide) (fun _ _ e => e) S₁₁.cellA rfl rfl
      (Call_ (x_builtin S₁₁.x rfl boot_range (cw_ty (spliced_more (wpAny_BinOp (wpAny_Constant_int (wpAny_BinOp (x_cell S₁₁.x rfl (wpAny_Constant_int (mod_int' (by decide) (add_int (spliced_none (range_k S₁₁.x.kh hA'.handled (by omega) (by omega) fun rr h₁₂ K₁₂ tk₁₂ g₁₂ src => ?_))))))))))))))
    have S₁₂ := S₁₁.grow g₁₂
    refine ⟨_, _, K₁₂, _, _, (fun j K' acc => Rel2 IsS acc (labsF (x.fmod 393216) j)), src, S₁₂, by show _ ≤ 16777216; omega, .nil, ?_, ?_⟩
    · rintro C j v' K₁₃ m₁₃ acc R' h₁₃ tk₁₃ E₁₃ hj ⟨tj, rfl⟩ hK₁₃ hacc S₁₃
      have hj3 : j < 3 := by omega
      refine wpAny_assign_Name (st_local S₁₃ fun h₁₄ tk₁₄ S₁₄ => wpAny_tests_nil (br_t rfl ?_))
      have q2 : (0 : Int) < 2 ^ (j : Int).toNat := Int.pow_pos (by decide)
      have q3 : (2 : Int) ^ (j : Int).toNat ≤ 4 := by
        have : j = 0 ∨ j = 1 ∨ j = 2 := by omega
        rcases this with rfl | rfl | rfl <;> decide
      have c0 : 0 ≤ (((x.fmod 393216).fdiv 12).fdiv (2 ^ (j : Int).toNat)).fmod 2 := Int.fmod_nonneg_of_pos _ (by decide)
      have c1 : (((x.fmod 393216).fdiv 12).fdiv (2 ^ (j : Int).toNat)).fmod 2 < 2 := Int.fmod_lt_of_pos _ (by decide)
      have la : (Str.ofString "ab").length = 2 := by decide
      refine Subscript_ (wpAny_Constant_str (wpAny_BinOp ?_))
      refine wpAny_BinOp (wpAny_BinOp (x_cell S₁₄.x rfl (wpAny_Constant_int (floordiv_int (by decide) ?_ (.inl (PyProof.noPylong_small (by omega)))))))
      refine wpAny_BinOp (wpAny_Constant_int (x_local S₁₄.x rfl (pow_int (by omega) (pow2 (by omega) (by omega)) (floordiv_int (Int.ne_of_gt q2) ?_ (.inl (PyProof.noPylong_small (by omega)))))))
      refine wpAny_Constant_int (mod_int' (by decide) (item_str (fitsSsize_of (N := 10) (by omega) (by omega) (by decide)) (by omega) (by omega) fun l1 => ?_))
      refine ⟨h₁₄, _, K₁₃, _, rfl, Le.refl _, ?_, S₁₄⟩
      exact labs_more hacc ⟨_, rfl⟩
    · rintro ll ys K₁₃ K₁₄ h₁₄ tk₁₄ hJ hK₁₃ hK₁₄ S₁₄ hpl _ hyl
      refine wpAny_execs_cons ?_
      refine wpAny_Assign_Name ?_ ?_
      rotate_left
      · exact sw_Sub
      refine Subscript_ (Tuple_ ?_)
      refine spliced_more (wpAny_Constant_str ?_)
      refine spliced_more (wpAny_Constant_str ?_)
      refine spliced_more (wpAny_Constant_str ?_)
      refine spliced_more (wpAny_Constant_str ?_)
      refine spliced_none (ntK S₁₄.x.kh fun a₁₅ h₁₅ K₁₅ g₁₅ tp₁₅ => ?_)
      have S₁₅ := S₁₄.grow g₁₅
      refine wpAny_BinOp (wpAny_BinOp (x_cell S₁₅.x rfl (wpAny_Constant_int (floordiv_int (by decide) ?_ (.inl (PyProof.noPylong_small (by omega)))))))
      refine wpAny_Constant_int (mod_int' (by decide) (item_tl b2 b3 (tp₁₅.le S₁₅.x.kh) fun t₁₆ => ?_))
      refine st_local S₁₅ fun h₁₆ tk₁₆ S₁₆ => ?_
      refine wpAny_execs_cons (wpAny_Expr (Call_method1 rfl rfl rfl (x_local S₁₆.x m1 (append_at S₁₆ ?_))))
      refine Tuple_ ?_
      refine spliced_more (wpAny_BinOp (x_local S₁₆.x rfl ?_))
      refine List_ (spliced_more (x_local S₁₆.x rfl (spliced_none (nlK S₁₆.x.kh fun a₁₇ h₁₇ K₁₇ g₁₇ pl₁₇ _ => ?_))))
      have S₁₇ := S₁₆.grow g₁₇
      refine add_l S₁₇.x.kh (pl_le hpl (g₁₅.kk.trans (g₁₇.kk.trans S₁₇.x.kh))) (pl_le pl₁₇ S₁₇.x.kh) (fun a₁₈ h₁₈ K₁₈ g₁₈ pl₁₈ _ => ?_) (by show _ + 1 ≤ 16777216; omega)
      have S₁₈ := S₁₇.grow g₁₈
      refine spliced_more (wpAny_BinOp (wpAny_BinOp (wpAny_BinOp (x_cell S₁₈.x rfl (wpAny_Constant_int (floordiv_int (by decide) ?_ (.inl (PyProof.noPylong_small (by omega)))))))))
      refine wpAny_BinOp (wpAny_Constant_int (x_cell S₁₈.x rfl (mul_int (add_int ?_) (IntMulOk.of_left (by decide +kernel)))))
      refine wpAny_Constant_int (mod_int' (by decide) ?_)
      refine spliced_none (ntK S₁₈.x.kh fun a₁₉ h₁₉ K₁₉ g₁₉ tp₁₉ => ?_)
      have S₁₉ := S₁₈.grow g₁₉
      refine ⟨_, _, _, S₁₉, by show _ ≤ 16777216; omega, fun h₂₀ S₂₀ => ?_⟩
      refine wpAny_execs_nil ?_
      have up : Le K₉ K₁₉ := g₁₂.kk.trans (hK₁₄.trans (g₁₅.kk.trans (g₁₇.kk.trans (g₁₈.kk.trans g₁₉.kk))))
      refine ⟨h₂₀, _, K₁₉, _, _, [(r, listO (us ++ [.ref a₁₉]))], rfl, up, ⟨_, rfl, ?_, hosts_more (lh_le hus up) hx (host_mk tp₁₉ (pl_le pl₁₈ g₁₉.kk) hJ), ?_⟩, S₂₀⟩
      · rw [List.length_append, hul]; rfl
      · exact m1
  · rintro K₉ m₉ cm₉ own₉ h₉ tk₉ E₉ hK₉ ⟨us, rfl, hul, hus, m1⟩ S₉
    refine wpAny_execs_nil (wpAny_execs_cons (wpAny_Return_some (x_local S₉.x m1 ?_)))
    refine (S₉.freezeL).elim fun K' q => ?_
    exact h r _ K' _ us q.1.grown q.2.2.1 (lh_le (hosts_all hr.length hus) q.2.1) q.2.2.2
end
end Mine
end
section
open PySem PySem.W PyProof.Rows
namespace Mine
def but (h : Heap) (d : Addr) : Heap := mask h fun b => b != d
theorem but_get (h : Heap) (d b : Addr) : (but h d).get? b = if b = d then none else h.get? b := by
  unfold but
  rw [mask_get]
  by_cases e : b = d
  · simp [e]
  · have : (b != d) = true := by simpa using e
    rw [this, if_pos rfl, if_neg e]
theorem but_le (h : Heap) (d : Addr) : Le (but h d) h := fun b o e => by
  rw [but_get] at e; split at e
  · cases e
  · exact e
section
variable {w : World} {h₀ Kb K h : Heap} {env : Env} {m cm : Str → Option Value}
/-- an object of the heap at the start becomes the frame's -/
theorem S.adopt {oc : Bool} {d : Addr} {P : Obj → Prop} (x : S oc w h₀ Kb env K m cm [] h) (hd : ∃ o, h₀.get? d = some o ∧ P o) (hk : K.get? d = none) (hc' : ∀ n c, env.cells.lookup n = some c → d ≠ c) : S oc w (but h₀ d) Kb env K m cm [(d, P)] h := by
  obtain ⟨o, e, p⟩ := hd
  refine (x.rebase (but_le h₀ d)).addOwn (fun q hq => ?_) (List.pairwise_singleton _ _) (fun n c hc q hq r => ?_)
  · cases List.mem_singleton.mp hq
    refine ⟨⟨o, x.base _ _ e, p⟩, by rw [but_get, if_pos rfl], hk, fun r => ?_⟩
    have r : d = env.locals := r
    rw [r, x.L0] at e; cases e
  · cases List.mem_singleton.mp hq
    exact hc' n c hc r
theorem up_but {d : Addr} (l : Le (but h₀ d) h) : ∀ b o, b ≠ d → h₀.get? b = some o → h.get? b = some o := fun b o hb e => l _ _ (by rw [but_get, if_neg hb]; exact e)
end
/-- a call of a def without cells of its own; it may close over cells -/
theorem call_clos {w : World} {A : Around} {E : Value → Shared → Prop} {s : Shared} {K : Heap} {n : Nat} {a : Addr} {o : Obj} {fd : FuncData} {body : List Stmt} {vals : List Value} {binds : List (Str × Value)} {cm : Str → Option Value} {Q : Value → Shared → Prop}
    (hA : AOk (n + 1) A) (hB : Base w K) (hle : Le K s.heap) (ho : s.heap.get? a = some o) (hdata : o.data = .func fd) (hcd : s.heap.CodeRec fd.code fd.qualname)
    (hbody : fd.body = .stmts body) (hbind : BindsTo s fd ⟨vals, []⟩ binds) (hcellB : fd.scope.names.all (fun x => x.2 != .cell) = true) (hlocB : (binds.map (·.1)).all (fun y => fd.scope.names.lookup y == some .local) = true)
    (hcl : ∀ y c, (callEnv fd s.heap.objs.size a).cells.lookup y = some c → s.heap.IsCell c (cm y)) (hclA : (callEnv fd s.heap.objs.size a).cells.Pairwise fun p q => p.2 ≠ q.2)
    (h : ∀ h₁ tk, AOk n (A.deeper (callEnv fd s.heap.objs.size a)) → S false w s.heap K (callEnv fd s.heap.objs.size a) K (fun x => binds.reverse.lookup x) cm [] h₁ →
      wpAny (model prg w) (A.deeper (callEnv fd s.heap.objs.size a)) (execs body (callEnv fd s.heap.objs.size a)) (fun f s' => Q (match f with | .ret v => v | _ => .none) s') (fun _ _ => False) { s with heap := h₁, toks := tk })
    (hco : fd.scope.isCoroutine = false := by rfl) (hgen : fd.scope.isGenerator = false := by rfl) (hk : fd.scope.kind = .function := by rfl) :
    wpAny (model prg w) A (call (.ref a) vals) Q E s := by
  have hcell : ∀ x ∈ fd.scope.names, x.2 ≠ .cell := fun x hx => by
    have := List.all_eq_true.mp hcellB x hx
    simpa using this
  have hloc : ∀ x ∈ binds, fd.scope.names.lookup x.1 = some .local := fun x hx => by
    have := List.all_eq_true.mp hlocB x.1 (List.mem_map.mpr ⟨x, hx, rfl⟩)
    simpa using this
  refine wpAny_call (codeAny_call_def (by have := hA.depth; show A.depth < 1000; omega) ho hdata (hB.nolim.keeps hle) hcd hbody hbind hcell hloc (fun h₁ ns keep => ?_) hco hgen hk)
  have L0 : s.heap.get? s.heap.objs.size = none := none_size _
  refine wpAny_mono (h h₁ _ (hA.deeper _) ⟨⟨ns, fun y c e => (hcl y c e).keeps keep, hle.trans keep, hB⟩, keep, Le.refl _, (fun a o e n => by rw [n] at e; cases e), L0, hle.none L0, fun p hp => (nomatch hp), List.Pairwise.nil, fun y c e => ⟨fun q => ?_, fun p hp => (nomatch hp)⟩, (fun q => nomatch q), hclA⟩) (fun f s' q => q) fun _ _ e => e.elim
  obtain ⟨o', e', _⟩ := hcl y c e
  have q : c = s.heap.objs.size := q
  rw [q, L0] at e'; cases e'
section
variable {w : World} {A : Around} {E : Value → Shared → Prop} {s : Shared}
theorem iter_l {l : Addr} {vs : Array Value} {Q : Value → Shared → Prop} (hl : s.heap.IsList l vs) (h : ∀ I h', Le s.heap h' → h'.IsListIter I l 0 → s.heap.get? I = none → Q (.ref I) { s with heap := h' }) :
    wpAny (model prg w) A (call (.builtin "iter") [.ref l]) Q E s := by
  refine Calls.call_function_entry (by decide +kernel) (by decide +kernel) kdk_entry_iter (kdk_args_iter _) ?_
  unfold Builtin.«iter»
  refine wpAny_bind (m := someArgs "iter" 1 2 _) (wpAny_of_eq (a := [Value.ref l]) (by first | rfl | kernel_rfl!) ?_)
  show wpAny _ _ (pyIter (.ref l) >>= _) _ _ _
  refine wpAny_bind (wpAny_pyIter_list hl ?_)
  exact wpAny_pure ⟨_, rfl, h _ _ (le_push _ _) ⟨_, Heap.get?_push_size _ rfl, rfl, rfl⟩ (none_size _)⟩
end
end Mine
end
section
open PySem PySem.W PyProof.Rows
namespace Mine
def itO (l : Addr) : Obj → Prop := fun o => o.cls = .type "list_iterator" ∧ o.data = .fields #[.ref l, .int 0 0]
theorem dict_cls {w : World} {kvs : List (Str × Value)} {o : Obj} (h : dictO w kvs o) : o.cls = .type "dict" := let ⟨_, _, e, _⟩ := h; e.1
theorem fn_le {f : Addr} {K h : Heap} (x : FnAt f K) (l : Le K h) : FnAt f h := let ⟨a, b, c, d, e⟩ := x; ⟨a, b, c, d, l _ _ e⟩
theorem fold_next {kvs : List (Str × Value)} {xs : List Str} {i : Nat} {x : Str} {F : List (Str × Int)} {g : List (Str × Int) → Str → List (Str × Int)} (hx : xs[i]? = some x) (h : RelD IsI kvs (g ((xs.take i).foldl g F) x)) : RelD IsI kvs ((xs.take (i + 1)).foldl g F) := by
  rw [foldl_take hx]; exact h
section
variable {w : World} {A : Around} {E : Value → Shared → Prop} {s : Shared} {K : Heap} {n : Nat}
set_option maxHeartbeats 1000000 in
theorem spec_reduce {f l d : Addr} {vs : List Value} {xs : List Str} {kvs : List (Str × Value)} {F : List (Str × Int)} {g : List (Str × Int) → Str → List (Str × Int)} {Q : Value → Shared → Prop}
    (hA : AOk (n + 1) A) (hB : Base w K) (hle : Le K s.heap) (hl : K.PlainList l vs.toArray) (hr : Rel2 IsS vs xs) (hd : s.heap.DictOf (strKind prg w) d kvs) (hkd : K.get? d = none) (hF : RelD IsI kvs F)
    (hf : FnAt f K)
    (hstep : ∀ (i : Nat) (A' : Around) (s' : Shared) (kvs' : List (Str × Value)) (x : Str) (t : Tok) (Q' : Value → Shared → Prop) (E' : Value → Shared → Prop), AOk n A' → xs[i]? = some x → Le K s'.heap → s'.heap.DictOf (strKind prg w) d kvs' →
      RelD IsI kvs' ((xs.take i).foldl g F) → (∀ h' tk kvs'', (∀ b o, b ≠ d → s'.heap.get? b = some o → h'.get? b = some o) → h'.DictOf (strKind prg w) d kvs'' → RelD IsI kvs'' (g ((xs.take i).foldl g F) x) → Q' (.ref d) { s' with heap := h', toks := tk }) →
      wpAny (model prg w) A' (call (.ref f) [.ref d, .str x t]) Q' E' s')
    (h : ∀ h' tk kvs', (∀ b o, b ≠ d → s.heap.get? b = some o → h'.get? b = some o) → h'.DictOf (strKind prg w) d kvs' → RelD IsI kvs' (xs.foldl g F) → Q (.ref d) { s with heap := h', toks := tk }) :
    wpAny (model prg w) A (call (.ref 59) [.ref f, .ref l, .ref d]) Q E s := by
  refine call_clos (binds := [("function", .ref f), ("sequence", .ref l), ("initial", .ref d)]) (cm := fun _ => none) hA hB hle (hle _ _ (hB.frag 59 _ rfl)) rfl ⟨_, _, _, _, rfl, hle _ _ (hB.frag 58 _ rfl), rfl, rfl⟩ rfl
    (BindsTo.of_defaults rfl (hle _ _ (hB.frag 52 _ rfl)) rfl rfl rfl) rfl rfl (fun _ _ e => by cases e) List.Pairwise.nil ?_
  intro h₁ tk hA' S₁
  have S₂ := S₁.adopt (of_dict hd) hkd (fun _ _ e => by cases e)
  clear S₁
  refine wpAny_execs_cons (wpAny_Assign_Name (Call_ (x_builtin S₂.x rfl boot_iter (cw_bi ?_))))
  refine spliced_more (x_local S₂.x rfl (spliced_none (iter_l (pl_le hl S₂.x.kh).isList fun I h₃ l₃ hI kI => ?_)))
  have S₃ := S₂.push l₃ (P := itO l) (a := I) hI kI
  have hdI : l ≠ I := fun e => by rw [← e] at kI; obtain ⟨nn, e'⟩ := pl_le hl S₂.x.kh; rw [e'] at kI; cases kI
  refine st_local S₃ fun h₄ tk₄ S₄ => ?_
  refine wpAny_execs_cons (wpAny_If (wpAny_isTrue_Compare1 (x_local S₄.x rfl (x_global S₄.x rfl ?_))))
  refine (S₄.has (d, dictO w kvs) (by simp)).1.elim fun o q => ?_
  refine wpAny_is_ref_other (fun e => ?_) q.1 (S₄.x.kh _ _ (hB.frag _ _ rfl)) (by rw [dict_cls q.2]; intro z; injection z with z; exact absurd z (by decide)) (wpAny_truthy_bool (br_f rfl ?_))
  · rw [e, hB.frag _ _ rfl] at hkd; cases hkd
  clear q
  refine wpAny_execs_cons (wpAny_Assign_Name (x_local S₄.x rfl (st_local S₄ fun h₅ tk₅ S₅ => ?_)))
  refine wpAny_execs_nil ?_
  have W := Walks.list (prog := prg) (w := w) hA'.handled I l hdI vs.toArray
  have st : h₅.IsListIter I l 0 ∧ h₅.IsList l vs.toArray := ⟨(S₅.has (I, itO l) (by simp)).1, (pl_le hl S₅.x.kh).isList⟩
  refine wpAny_execs_cons (wpAny_For (x_local S₅.x rfl ?_))
  refine W.self 0 _ _ _ st ?_
  have S₆ := own_any (s := { s with heap := h₅, toks := tk₅ }) S₅
  refine for_walk (own := [(d, dictO w kvs)]) W ?_ ?_ ?_ (fun i K' m' cm' own' => ∃ kvs', own' = [(d, dictO w kvs')] ∧ RelD IsI kvs' ((xs.take i).foldl g F) ∧ m' "function" = some (.ref f) ∧ m' "value" = some (.ref d)) S₆ st ?_ ?_ ?_
  · rintro i h ⟨⟨o, e, _⟩, _⟩ b hb
    cases List.mem_singleton.mp hb
    exact ⟨o, e⟩
  · intro b hb
    rcases List.mem_cons.mp hb with rfl | hb
    · exact .inl List.mem_cons_self
    · cases List.mem_singleton.mp hb
      obtain ⟨nn, e⟩ := hl
      exact .inr ⟨_, e⟩
  · rintro i s' v Q' E' ⟨⟨o, e, hc, _⟩, _⟩ h
    exact letGo_plain e hc (by decide) h
  · exact ⟨kvs, rfl, hF, rfl, rfl⟩
  · rintro i v K₁ m₁ cm₁ own₁ R h₆ tk₆ E' hi hv hK ⟨kvs', rfl, hF', m1, m2⟩ S₆
    have hv' : vs[i]? = some v := by simpa using hv
    have this1 := hr.get hv'
    obtain ⟨x, hx, hv2⟩ := this1
    obtain ⟨tx, e⟩ := hv2
    subst e
    refine wpAny_assign_Name (st_local S₆ fun h₇ tk₇ S₇ => ?_)
    have lk : Le K h₇ := hK.trans S₇.x.kh
    have fa : FnAt f h₇ := fn_le hf lk
    refine wpAny_execs_cons (wpAny_Assign_Name (Call_ (x_local S₇.x m1 ?_)))
    refine callWith_F fa (spliced_more (x_local S₇.x m2 (spliced_more (x_local S₇.x rfl (spliced_none ⟨fa, ?_⟩)))))
    refine hstep i _ _ kvs' x tx _ _ hA' hx lk (dict_of (S₇.has (d, dictO w kvs') (by simp)).1) hF' (fun h₈ tk₈ kvs'' up hd₈ hF₈ => ?_)
    have S₈ := S₇.upd0 (of_dict hd₈) up
    refine st_local S₈ fun h₉ tk₉ S₉ => ?_
    refine wpAny_execs_nil ?_
    refine ⟨h₉, _, K₁, _, _, [(d, dictO w kvs'')], rfl, Le.refl _, ⟨kvs'', rfl, fold_next hx hF₈, ?_, rfl⟩, S₉⟩
    exact m1
  · rintro K₁ m₁ cm₁ own₁ h₆ tk₆ E' hK ⟨kvs', rfl, hF', m1, m2⟩ S₆
    refine wpAny_execs_nil (wpAny_execs_cons (wpAny_Return_some (x_local S₆.x m2 ?_)))
    refine h _ _ kvs' (up_but S₆.base) (dict_of (S₆.has (d, dictO w kvs') (by simp)).1) ?_
    rw [List.take_of_length_le (by rw [List.size_toArray, hr.length]; exact Nat.le_refl _)] at hF'
    exact hF'
end
end Mine
end
section
open PySem PySem.W PyProof.Rows
namespace Mine
section
variable {w : World} {h₀ Kb K K' h h' : Heap} {env : Env} {m cm : Str → Option Value} {own : OwnL} {oc : Bool}
/-- an own object is changed, all else grows -/
theorem S.growAt {a : Addr} {P P' : Obj → Prop} (x : S oc w h₀ Kb env K m cm ((a, P) :: own) h) (up : ∀ b o, b ≠ a → h.get? b = some o → h'.get? b = some o) (n : ∃ o, h'.get? a = some o ∧ P' o)
    (kk : Le K K') (kh : Le K' h') (new : ∀ b o, K'.get? b = some o → K.get? b = none → h.get? b = none) : S oc w h₀ Kb env K' m cm ((a, P') :: own) h' := by
  have y := x.upd0 n up
  have fresh : ∀ b, K.get? b = none → (∃ o, h.get? b = some o) → K'.get? b = none := by
    rintro b n ⟨o, e⟩
    cases q : K'.get? b with
    | none => rfl
    | some o' => rw [new b o' q n] at e; cases e
  refine ⟨⟨y.x.ns, y.x.cell, kh, y.x.base.le kk⟩, y.base, y.kk.trans kk, fun b o e n => ?_, y.L0, fresh _ x.LK ?_, fun p hp => ?_, y.nd, y.cellL, fun t n c hc => ?_, y.cellA⟩
  · cases q : K.get? b with
    | some o' => exact x.new b o' q n
    | none => exact x.base.none (new b o e q)
  · obtain ⟨o, _, _, e, _⟩ := x.x.ns
    exact ⟨o, e⟩
  · obtain ⟨q1, q2, q3, q4⟩ := y.has p hp
    refine ⟨q1, q2, fresh _ q3 ?_, q4⟩
    rcases List.mem_cons.mp hp with rfl | hp
    · obtain ⟨o, e, _⟩ := (x.has (a, P) List.mem_cons_self).1; exact ⟨o, e⟩
    · obtain ⟨o, e, _⟩ := (x.has p (List.mem_cons_of_mem _ hp)).1; exact ⟨o, e⟩
  · obtain ⟨a1, b1⟩ := x.cellO t n c hc
    obtain ⟨o, e, _⟩ := x.x.cell n c hc
    exact ⟨a1, fresh _ b1 ⟨o, e⟩⟩
/-- two objects go into the kept part -/
theorem keep2 {a b : Addr} {oa ob : Obj} (x : Le K h) (ea : h.get? a = some oa) (eb : h.get? b = some ob) :
    ∃ K₁, Le K K₁ ∧ Le K₁ h ∧ K₁.get? a = some oa ∧ K₁.get? b = some ob ∧ ∀ c o, K₁.get? c = some o → K.get? c = none → c = a ∨ c = b := by
  obtain ⟨K₁, l1, m1, e1, o1⟩ := lend x ea
  obtain ⟨K₂, l2, m2, e2, o2⟩ := lend m1 eb
  refine ⟨K₂, l1.trans l2, m2, l2 _ _ e1, e2, fun c o e n => ?_⟩
  by_cases hb : c = b
  · exact .inr hb
  · by_cases ha : c = a
    · exact .inl ha
    · rw [o2 _ hb, o1 _ ha, n] at e; cases e
/-- three objects are lent to the kept part -/
theorem lend3 {a b c d : Addr} {oa ob oc : Obj} (x : Le K h) (ea : h.get? a = some oa) (eb : h.get? b = some ob) (ec : h.get? c = some oc) (hd : K.get? d = none) (ha : d ≠ a) (hb : d ≠ b) (hc : d ≠ c) :
    ∃ K₁, Le K K₁ ∧ Le K₁ h ∧ K₁.get? a = some oa ∧ K₁.get? b = some ob ∧ K₁.get? c = some oc ∧ K₁.get? d = none := by
  obtain ⟨K₁, l1, m1, e1, o1⟩ := lend x ea
  obtain ⟨K₂, l2, m2, e2, o2⟩ := lend m1 eb
  obtain ⟨K₃, l3, m3, e3, o3⟩ := lend m2 ec
  exact ⟨K₃, l1.trans (l2.trans l3), m3, l3 _ _ (l2 _ _ e1), l3 _ _ e2, e3, by rw [o3 _ hc, o2 _ hb, o1 _ ha]; exact hd⟩
end
section
variable {w : World} {A : Around} {E : Value → Shared → Prop} {s : Shared} {env : Env}
theorem dict_nil {pos : Pos} {Q : Value → Shared → Prop} (h : wpAny (model prg w) A newDict Q E s) : wpAny (model prg w) A (eval (.Dict [] [] pos) env) Q E s := by
  rw [eval_Dict_empty]
  exact wpAny_bind (wpAny_standAt h)
theorem ndB {K : Heap} {Q : Value → Shared → Prop} (hB : Base w K) (hle : Le K s.heap) (h : ∀ a h', Le s.heap h' → (∃ o, h'.get? a = some o ∧ dictO w [] o) → s.heap.get? a = none → a ≠ 1 → Q (.ref a) { s with heap := h' }) :
    wpAny (model prg w) A newDict Q E s := by
  unfold newDict
  exact wpAny_newObj_type (h _ _ (le_push _ _) ⟨_, Heap.get?_push_size _ rfl, dict_new⟩ (none_size _) (size_ne_one (hB.le hle)))
theorem lookup_one {x y : Str} {a c : Addr} (e : ([(x, a)] : List (Str × Addr)).lookup y = some c) : y = x ∧ c = a := by
  rw [List.lookup_cons] at e
  cases q : y == x with
  | true => rw [q] at e; cases e; exact ⟨by simpa using q, rfl⟩
  | false => rw [q] at e; cases e
/-- a def within a def -/
theorem def_in {name qual : Str} {params : Arguments} {body : List Stmt} {scope : Scope} {c P : Addr} {ps : Array Value} {pos : Pos} {mg : Str → Option Value} {clos : List (Str × Addr)} {Q : Flow → Shared → Prop}
    (hd0 : params.defaults = []) (hk0 : params.kw_defaults = []) (ha : annTrees params none env = [])
    (hcl : closureFor scope env = pure clos) (hge0 : env.globals = mainGlobals) (hg : s.heap.Ns mainGlobals mg) (hcode : env.code = .ref c) (C : CodeHd s.heap c P) (hP : s.heap.get? P = some (tabObj ps)) (ht : TriplesOk ps.toList)
    (hnf : codeAmong pos ps.toList = none) (hgP : mainGlobals ≠ P) (hb : s.heap.BuiltinsAt mg P) (hq : qualnameIn env name name = qual)
    (h : ∀ f c' ctv doc h' tk, (∀ b o, b ≠ P → s.heap.get? b = some o → h'.get? b = some o) → s.heap.get? f = none → s.heap.get? c' = none → h'.get? f = some (fnMade name qual params body scope clos doc ((mg "__name__").getD .none) c' ctv) →
      h'.CodeRec (.ref c') qual → h'.get? P = some (tabObj (ps ++ #[rawInt pos.line, rawInt pos.col, .ref c'])) →
      wpAny (model prg w) A (storeName env name (.ref f)) (fun _ s'' => Q .next s'') E { s with heap := h', toks := tk }) :
    wpAny (model prg w) A (exec (.FunctionDef name params body [] none [] scope none name pos) env) Q E s := by
  refine nestDef_K hd0 hk0 ha ?_
  rw [hq]
  refine makeFunction_K hcl hge0 hg hcode C hP ht hnf hgP hb fun c' ctv doc h' tk hx hge hlt hrec htb => ?_
  have hx : Heap.ExtBut P s.heap h' := hx
  have sz : ∀ b, s.heap.objs.size ≤ b → s.heap.get? b = none := fun b hb => by
    cases q : s.heap.get? b with
    | none => rfl
    | some o' => exact absurd (Heap.lt_size q) (Nat.not_lt.mpr hb)
  refine h _ c' ctv doc _ tk (fun b o hb e => Heap.get?_push_of_some _ (hx b o hb e)) (sz _ (Nat.le_trans hge (Nat.le_of_lt hlt))) (sz _ hge) (Heap.get?_push_size _ rfl) (hrec.push _) (Heap.get?_push_of_some _ htb)
end
end Mine
end
section
open PySem PySem.W PyProof.Rows
namespace Mine
def rtF (rt : List (Str × Int)) (x : Str) : Int := (lookD rt x).getD 4095
def chF (F : List (Str × Int)) (x : Str) : Int := (lookD F x).getD 0
def upS (x : Str) : Str := Txt.slice (reachF x) (some 1) none
def handF (rt : List (Str × Int)) (F : List (Str × Int)) (x : Str) : Int := Builtin.bitAnd (Builtin.bitAnd (rtF rt x) (rtF rt (upS x))) (Builtin.bitXor 4095 (chF F x))
def chStep (rt : List (Str × Int)) (F : List (Str × Int)) (x : Str) : List (Str × Int) :=
  if reachF x = x then F else putD F (upS x) (Builtin.bitOr (chF F (upS x)) (handF rt F x))
def chosenF (rt : List (Str × Int)) (line : List Str) : List (Str × Int) := line.foldl (chStep rt) []
theorem chStep_len (rt F : List (Str × Int)) (x : Str) : (chStep rt F x).length ≤ F.length + 1 := by
  unfold chStep; split
  · omega
  · exact putD_length _ _ _
theorem chosen_len (rt : List (Str × Int)) : ∀ (line : List Str) (F : List (Str × Int)), (line.foldl (chStep rt) F).length ≤ F.length + line.length
  | [], F => by simp
  | x :: r, F => by
    have h1 := chosen_len rt r (chStep rt F x)
    have h2 := chStep_len rt F x
    simp only [List.foldl_cons, List.length_cons]
    omega
theorem ch_next {kvs : List (Str × Value)} {F rt : List (Str × Int)} {x : Str} {v : Value} (hrf : ¬ reachF x = x) (h : RelD IsI kvs F) (hv : IsI v (Builtin.bitOr ((lookD F (upS x)).getD 0) (Builtin.bitAnd (Builtin.bitAnd ((lookD rt x).getD 4095) ((lookD rt (upS x)).getD 4095)) (Builtin.bitXor 4095 ((lookD F x).getD 0))))) :
    RelD IsI (stored kvs (upS x) v) (chStep rt F x) := by
  unfold chStep; rw [if_neg hrf]; exact RelD.put h hv
section
variable {w : World} {A : Around} {E : Value → Shared → Prop} {s : Shared} {K : Heap} {n : Nat}
set_option maxHeartbeats 1000000 in
theorem spec_chosen {l dr : Addr} {vs : List Value} {line : List Str} {kvr : List (Str × Value)} {rt : List (Str × Int)} {mg : Str → Option Value} {Q : Value → Shared → Prop}
    (hA : AOk (n + 5) A) (hB : Base w K) (hle : Le K s.heap) (hl : K.PlainList l vs.toArray) (hr : Rel2 IsS vs line) (hU : ∀ x ∈ line, x ∈ U) (hlen : line.length ≤ 1000)
    (hdr : K.DictOf (strKind prg w) dr kvr) (hrr : RelD IsI kvr rt) (hr1 : dr ≠ 1) (hmg : K.Ns mainGlobals mg) (hbA : K.BuiltinsAt mg 125) (h125 : s.heap.get? 125 = some (tabObj #[])) (hk125 : K.get? 125 = none)
    (h : ∀ d h' K' tk kvs, (∀ b o, b ≠ 125 → s.heap.get? b = some o → h'.get? b = some o) → (∃ ps, h'.get? 125 = some (tabObj ps)) → Le K K' → Le K' h' → (∀ a o, K'.get? a = some o → K.get? a = none → s.heap.get? a = none) →
      K'.DictOf (strKind prg w) d kvs → RelD IsI kvs (chosenF rt line) → d ≠ 1 → Q (.ref d) { s with heap := h', toks := tk }) :
    wpAny (model prg w) A (call (.ref 130) [.ref l, .ref dr]) Q E s := by
  refine call_def (binds := [("line", .ref l), ("rights", .ref dr)]) hA hB hle (hB.frag 130 _ rfl) rfl ⟨_, _, _, _, rfl, hB.frag 129 _ rfl, rfl, rfl⟩ rfl rfl rfl ?_
  intro h₁ tk hA' S₁
  have S₂ := S₁.adopt ⟨_, h125, rfl⟩ hk125 (P := fun o => o = tabObj #[]) (fun y c e q => by rw [← q] at e; rw [(S₁.cellO rfl y _ e).1] at h125; cases h125)
  have g125 : h₁.get? 125 = some (tabObj #[]) := S₁.base _ _ h125
  have kh₁ := S₁.x.kh
  have cell₁ : h₁.IsCell (s.heap.objs.size + 1) (some (.ref dr)) := S₁.x.cell (Str.ofString "rights") _ rfl
  have L0 : s.heap.get? (s.heap.objs.size + 1) = none := (S₁.cellO rfl (Str.ofString "rights") _ rfl).1
  clear S₁
  refine wpAny_execs_cons (def_in (mg := mg) (c := 129) (P := 125) (ps := #[]) rfl rfl rfl rfl rfl (hmg.keeps kh₁) rfl (codeHd_of_K (hB.frag.keeps kh₁) rfl) g125 trivial rfl (by decide) (hbA.keeps kh₁) rfl ?_)
  intro f c' ctv doc h₃ tk₃ up₃ kf kc ef rec₃ t₃
  have kh₃ : Le K h₃ := fun b o e => up₃ b o (fun q => by rw [q, hk125] at e; cases e) (kh₁ _ _ e)
  refine rec₃.elim fun c₀ r₃ => r₃.elim fun oc r₃ => r₃.elim fun vs₃ r₃ => r₃.elim fun tq r₃ => ?_
  have ec : c₀ = c' := by have := r₃.1; injection this with this; exact this.symm
  subst ec
  refine (keep2 kh₃ ef r₃.2.1).elim fun K₃ q₃ => ?_
  have S₃ := S₂.growAt (P' := fun o => ∃ ps, o = tabObj ps) up₃ ⟨_, t₃, _, rfl⟩ q₃.1 q₃.2.1 (fun b o e n => (q₃.2.2.2.2 b o e n).elim (fun q => q ▸ kf) fun q => q ▸ kc)
  have rec₄ : K₃.CodeRec (.ref c₀) _ := ⟨c₀, oc, vs₃, tq, rfl, q₃.2.2.2.1, r₃.2.2.1, r₃.2.2.2⟩
  have ef₄ := q₃.2.2.1
  have kK₃ := q₃.1
  clear q₃ r₃ rec₃ S₂
  refine st_local S₃ fun h₄ tk₄ S₄ => ?_
  clear S₃
  have fa₄ : FnAt 59 h₄ := ⟨_, _, _, _, S₄.x.kh _ _ (S₄.x.base.frag 59 _ rfl)⟩
  refine wpAny_execs_cons (wpAny_Return_some (Call_ (x_global S₄.x rfl (callWith_F fa₄ ?_))))
  refine spliced_more (x_local S₄.x rfl (spliced_more (x_local S₄.x rfl (spliced_more (dict_nil (ndB S₄.x.base S₄.x.kh fun d h₅ l₅ hd₅ kd₅ d1 => spliced_none ⟨fn_le fa₄ l₅, ?_⟩))))))
  have S₅ := S₄.push l₅ hd₅ kd₅
  clear S₄
  have kd3 : K₃.get? d = none := (S₅.has (d, dictO w []) (by simp)).2.2.1
  have kd0 : (but s.heap 125).get? d = none := (S₅.has (d, dictO w []) (by simp)).2.1
  have hd125 : d ≠ 125 := (List.pairwise_cons.mp S₅.nd).1 (125, _) List.mem_cons_self
  have kds : s.heap.get? d = none := by rw [but_get, if_neg hd125] at kd0; exact kd0
  have hdc : d ≠ s.heap.objs.size + 1 := (S₅.cellL (Str.ofString "rights") _ rfl).2 (d, dictO w []) List.mem_cons_self
  have t₅ := (S₅.has (125, fun o => ∃ ps, o = tabObj ps) (by simp)).1
  refine (S₅.x.cell (Str.ofString "rights") _ rfl).elim fun ocl qc => ?_
  refine (lend S₅.x.kh qc.1).elim fun K₆ q₆ => ?_
  have kd6 : K₆.get? d = none := by rw [q₆.2.2.2 d hdc]; exact kd3
  have hB₆ := S₅.x.base.le q₆.1
  have up₅ := up_but S₅.base
  refine spec_reduce (n := n + 3) (g := chStep rt) hA' hB₆ q₆.2.1 (pl_le hl (kK₃.trans q₆.1)) hr (dict_of (S₅.has (d, dictO w []) (by simp)).1) kd6 .nil ⟨_, _, _, _, q₆.1 _ _ ef₄⟩ ?_ ?_
  · intro i A₂ s' kvs' x t Q' E' hA₂ hx hle' hd' hF' hq
    have xU : x ∈ U := hU x (List.mem_of_getElem? hx)
    have hi : i < line.length := (List.getElem?_eq_some_iff.mp hx).1
    have hkl : kvs'.length ≤ 1000 := by
      have h1 := Rel2.length hF'
      have h2 := chosen_len rt (line.take i) []
      rw [List.length_take] at h2
      simp only [List.length_nil] at h2
      omega
    generalize (line.take i).foldl (chStep rt) [] = F at hF' hq
    have hlx := reach_len xU
    have hdr6 : K₆.DictOf (strKind prg w) dr kvr := (hdr.keep kK₃).keep q₆.1
    clear h hl hr hdr hmg hbA h125 hk125 g125 kh₁ cell₁ up₃ kf kc ef t₃ kh₃ S₅ up₅ t₅
    refine call_clos (n := n + 2) (K := K₆) (binds := [("chosen", .ref d), ("rung", .str x t)]) (cm := fun y => if y = Str.ofString "rights" then some (.ref dr) else none) hA₂ hB₆ hle' (hle' _ _ (q₆.1 _ _ ef₄)) rfl ((rec₄.keeps q₆.1).keeps hle') rfl (BindsTo.of_eq rfl) rfl rfl
      (fun y c e => ?_) (List.pairwise_singleton _ _) ?_
    · have e' := lookup_one e
      rw [e'.1, e'.2, if_pos rfl]
      exact ⟨ocl, hle' _ _ q₆.2.2.1, qc.2⟩
    intro h₁ tk hA₃ S₁
    have S₂ := S₁.adopt (of_dict hd') kd6 (fun y c e => by rw [(lookup_one e).2]; exact hdc)
    clear S₁
    refine wpAny_execs_cons (wpAny_Assign_Name (Call_ (x_global S₂.x rfl (callWith_def rfl (spliced_more (x_local S₂.x rfl (spliced_none ⟨S₂.x.kh _ _ (hB₆.frag 50 _ rfl), ?_⟩)))))))
    refine spec_reach hA₃ hB₆ S₂.x.kh xU fun h₃ tk₃ t₃ l₃ => ?_
    refine st_local (S₂.more l₃) fun h₄ tk₄ S₄ => ?_
    refine wpAny_execs_cons (wpAny_If (wpAny_isTrue_Compare1 (x_local S₄.x rfl (x_local S₄.x rfl (ne_str (wpAny_truthy_bool ?_))))))
    by_cases hrf : reachF x = x
    · refine br_f (by rw [hrf]; simp) ?_
      refine wpAny_execs_nil (wpAny_execs_cons (wpAny_Return_some (x_local S₄.x rfl ?_)))
      refine hq _ _ kvs' (up_but S₄.base) (dict_of (S₄.has (d, dictO w kvs') (by simp)).1) ?_
      unfold chStep; rw [if_pos hrf]; exact hF'
    · refine br_t (by simpa using hrf) ?_
      have hdr7 : h₄.DictOf (strKind prg w) dr kvr := hdr6.keep S₄.x.kh
      refine wpAny_execs_cons (wpAny_Assign_Name (wpAny_BinOp ?_))
      refine Call_method2 rfl rfl rfl (x_free S₄.x rfl (get_d ⟨_, hdr7⟩ hr1 (x_local S₄.x rfl (wpAny_Constant_int ⟨x, _, 4095, _, kvr, rt, rfl, rfl, hdr7, hrr, fun t₅ tk₅ => ?_⟩))))
      refine Call_method2 rfl rfl rfl (x_free S₄.x rfl (get_d ⟨_, hdr7⟩ hr1 (sub_str_from (x_local S₄.x rfl ⟨_, _, rfl, by show _ ≤ 16777216; omega, wpAny_Constant_int ⟨1, _, rfl, fun h₆ t₆ k₆ l₆ => wpAny_Constant_int ⟨upS x, _, 4095, _, kvr, rt, rfl, rfl, hdr7.keep l₆, hrr, fun t₇ tk₇ => and_int ?_⟩⟩⟩))))
      refine st_local (S₄.more l₆) fun h₈ tk₈ S₈ => ?_
      have dc₈ := dict_of (S₈.has (d, dictO w kvs') (by simp)).1
      refine wpAny_execs_cons (wpAny_Assign_Name (wpAny_BinOp (x_local S₈.x rfl (wpAny_BinOp (wpAny_Constant_int ?_)))))
      refine Call_method2 rfl rfl rfl (x_local S₈.x rfl (get_d ⟨_, dc₈⟩ d1 (x_local S₈.x rfl (wpAny_Constant_int ⟨x, _, 0, _, kvs', F, rfl, rfl, dc₈, hF', fun t₉ tk₉ => xor_int (and_int ?_)⟩))))
      refine st_local S₈ fun h₁₀ tk₁₀ S₁₀ => ?_
      have dc₁₀ := dict_of (S₁₀.has (d, dictO w kvs') (by simp)).1
      refine wpAny_execs_cons (wpAny_Assign_Subscript (wpAny_BinOp ?_))
      refine Call_method2 rfl rfl rfl (x_local S₁₀.x rfl (get_d ⟨_, dc₁₀⟩ d1 (sub_str_from (x_local S₁₀.x rfl ⟨_, _, rfl, by show _ ≤ 16777216; omega, wpAny_Constant_int ⟨1, _, rfl, fun h₁₁ t₁₁ k₁₁ l₁₁ => wpAny_Constant_int ⟨upS x, _, 0, _, kvs', F, rfl, rfl, dc₁₀.keep l₁₁, hF', fun t₁₂ tk₁₂ => ?_⟩⟩⟩))))
      have S₁₁ := S₁₀.more l₁₁
      refine x_local S₁₁.x rfl (or_int (x_local S₁₁.x rfl ?_))
      refine sub_str_from (x_local S₁₁.x rfl ⟨_, _, rfl, by show _ ≤ 16777216; omega, wpAny_Constant_int ⟨1, _, rfl, fun h₁₃ t₁₃ k₁₃ l₁₃ => put_d (l₁ := []) (S₁₁.more l₁₃) (by show _ ≤ 16777216; omega) fun h₁₄ tk₁₄ S₁₄ => ?_⟩⟩)
      refine wpAny_execs_nil (wpAny_execs_cons (wpAny_Return_some (x_local S₁₄.x rfl ?_)))
      refine hq _ _ _ (up_but S₁₄.base) (dict_of (S₁₄.has (d, _) List.mem_cons_self).1) ?_
      exact ch_next hrf hF' ⟨_, rfl⟩
  · intro h₇ tk₇ kvs₇ up₇ hd₇ hF₇
    have upA : ∀ b o, b ≠ 125 → s.heap.get? b = some o → h₇.get? b = some o := fun b o hb e => up₇ b o (fun q => by rw [q, kds] at e; cases e) (up₅ b o hb e)
    have kK₇ : Le K h₇ := fun b o e => up₇ b o (fun q => by rw [q, q₆.1.none kd6 |> kK₃.none] at e; cases e) (S₅.x.kh _ _ (kK₃ _ _ e))
    refine (of_dict hd₇).elim fun od qd => ?_
    refine (lend kK₇ qd.1).elim fun K₈ q₈ => ?_
    refine h d h₇ K₈ _ kvs₇ upA ?_ q₈.1 q₈.2.1 (fun a o e n' => ?_) (dict_of ⟨od, q₈.2.2.1, qd.2⟩) hF₇ d1
    · exact t₅.elim fun o q => q.2.elim fun ps e => ⟨ps, up₇ _ _ (Ne.symm hd125) (e ▸ q.1)⟩
    · by_cases q : a = d
      · rw [q]; exact kds
      · rw [q₈.2.2.2 a q, n'] at e; cases e
end
end Mine
end
section
open PySem PySem.W PyProof.Rows
open PySem.Sem (wp)
open PySem.AutoSeq1 (wpAny_loadPart')
namespace Mine
theorem meets_enum_t (l : Addr) (items : Array Value) (n : Nat) :
    Meets (Builtin.«enumerate.__new__» ⟨[.type "enumerate", .ref l], []⟩) (fun _ R s => s.heap.get? l = some { cls := .type "tuple", dict := none, data := .seq items n, slots := #[] } ∧
      R (.ok (.ret (.ref (s.heap.push { cls := .type "tuple_iterator", data := .fields #[.ref l, .int 0 0] }).objs.size)))
        { s with heap := (s.heap.push { cls := .type "tuple_iterator", data := .fields #[.ref l, .int 0 0] }).push { cls := .type "enumerate", data := .fields #[.none, .bool false, .ref s.heap.objs.size, rawInt 0, .none, .none] } }) :=
  .of_wp fun prog w A R s h => by
    obtain ⟨hp, g, d, tk, os⟩ := s; obtain ⟨hl, h⟩ := h
    have hsub := sub_enumerate
    have hL : Heap.IsTuple (Shared.heap ⟨hp, g, d, tk, os⟩) l items := ⟨_, hl, rfl, n, rfl⟩
    wp_walk using wpAny_loadPart' hl
    refine wpAny_stack_any fun st => wpAny_pure ?_
    split
    · rename_i c _ _ _ _ _
      cases (c == Value.type "enumerate")
      · wp_walk using wpAny_loadPart' hl, wpAny_pyIter_tuple hL
        exact ⟨_, rfl, h⟩
      · wp_walk using wpAny_loadPart' hl, wpAny_pyIter_tuple hL
        exact ⟨_, rfl, h⟩
    · wp_walk using wpAny_loadPart' hl, wpAny_pyIter_tuple hL
      exact ⟨_, rfl, h⟩
section
variable {prog : Program} {w : World} {A : Around} {E : Value → Shared → Prop} {s : Shared}
theorem nextOf_tup_item {it l : Addr} {i : Nat} {items} {x : Value} {Q : Value → Shared → Prop} (hit : s.heap.IsTupleIter it l i)
    (hl : s.heap.IsTuple l items) (hx : items[i]? = some x)
    (hQ : ∀ h', h'.IsTupleIter it l (i + 1) → Heap.SameBut it s.heap h' → Q x { s with heap := h' }) :
    wpAny (model prog w) A (Builtin.SmallTypes.nextOf (.ref it)) Q E s := by
  obtain ⟨o, ho, hc, hd⟩ := id hit
  obtain ⟨ol, hol, _, nl, hdl⟩ := hl
  unfold Builtin.SmallTypes.nextOf
  refine wpAny_bind (wpAny_callSpecial?_slot (name := Str.ofString "__next__") hit.typeIs F.slot_tuple_iterator_next
    (wpAny_call_entry F.slot_tuple_iterator_next hit.typeIs F.entry_tuple_iterator_next ?_ (F.args_tuple_iterator_next_1 _)))
  show wpAny _ _ (field (.ref it) 0 >>= _) _ _ s
  refine wpAny_bind (wpAny_field ho hd (x := .ref l) rfl ?_)
  show wpAny _ _ (if (Value.ref l == Value.none) = true then _ else _) _ _ s
  rw [if_neg (show ¬ ((Value.ref l == Value.none) = true) from Bool.false_ne_true)]
  show wpAny _ _ (field (.ref it) 1 >>= _) _ _ s
  refine wpAny_bind (wpAny_field ho hd (x := .int i 0) rfl ?_)
  show wpAny _ _ (seqItems? (.ref l) >>= _) _ _ s
  refine wpAny_bind (wpAny_seqItems hol hdl ?_)
  simp only [Int.toNat_natCast, hx]
  refine wpAny_bind (wpAny_setField ho hd (by simp) (wpAny_pure ⟨x, rfl, wpAny_pure (hQ _ ?_ (Heap.SameBut.update ..))⟩))
  exact ⟨_, Heap.get?_update_self _ ho (Obj.isFreed_of_fields (Obj.data_mapFields hd _)), (Obj.cls_mapFields ..).trans hc, by
    rw [Obj.data_mapFields hd]; simp [rawInt]⟩
theorem nextOf_tup_end {it l : Addr} {i : Nat} {items} {Q : Value → Shared → Prop} (hh : A.handled = none)
    (hit : s.heap.IsTupleIter it l i) (hl : s.heap.IsTuple l items) (hx : items[i]? = none)
    (hE : ∀ h' e, Heap.ExtBut it s.heap h' → (∃ o, h'.get? e = some o ∧ o.cls = .type "StopIteration") → E (.ref e) { s with heap := h' }) :
    wpAny (model prog w) A (Builtin.SmallTypes.nextOf (.ref it)) Q E s := by
  obtain ⟨o, ho, hc, hd⟩ := id hit
  obtain ⟨ol, hol, _, nl, hdl⟩ := hl
  unfold Builtin.SmallTypes.nextOf
  refine wpAny_bind (wpAny_callSpecial?_slot (name := Str.ofString "__next__") hit.typeIs F.slot_tuple_iterator_next
    (wpAny_call_entry F.slot_tuple_iterator_next hit.typeIs F.entry_tuple_iterator_next ?_ (F.args_tuple_iterator_next_1 _)))
  show wpAny _ _ (field (.ref it) 0 >>= _) _ _ s
  refine wpAny_bind (wpAny_field ho hd (x := .ref l) rfl ?_)
  show wpAny _ _ (if (Value.ref l == Value.none) = true then _ else _) _ _ s
  rw [if_neg (show ¬ ((Value.ref l == Value.none) = true) from Bool.false_ne_true)]
  show wpAny _ _ (field (.ref it) 1 >>= _) _ _ s
  refine wpAny_bind (wpAny_field ho hd (x := .int i 0) rfl ?_)
  show wpAny _ _ (seqItems? (.ref l) >>= _) _ _ s
  refine wpAny_bind (wpAny_seqItems hol hdl ?_)
  simp only [Int.toNat_natCast, hx]
  refine wpAny_bind (wpAny_rule (wpAny_bind (wpAny_setField ho hd (by simp) ?_)))
  show wpAny _ _ (newExc (.type "StopIteration") [] >>= _) _ _ _
  refine wpAny_bind ?_
  simp only [newExc, newTuple]
  refine wpAny_bind (wpAny_newObj_type ?_ (by size_fits))
  refine wpAny_bind (m := firstArgMember _ _) (wpAny_of_eq (a := Value.none) (by first | rfl | (simp only [firstArgMember]; rfl)) ?_)
  refine wpAny_newObj_type ?_ (by size_fits)
  simp only [raiseNew]
  refine wpAny_bind (wpAny_handled ?_)
  first | rw [show A.in1.handled = none from hh] | rw [hh]
  refine wpAny_bind (wpAny_pure (wpAny_throw ?_))
  exact hE _ _ (((Heap.SameBut.update ..).extBut.push _).push _) ⟨_, Heap.get?_push_size _ rfl, rfl⟩
theorem call_enum_t {l : Addr} {vs : List Value} {Q : Value → Shared → Prop} (hL : Tup s.heap l vs)
    (h : ∀ h', IsEnum h' (s.heap.objs.size + 1) s.heap.objs.size 0 .none → h'.IsTupleIter s.heap.objs.size l 0 → (∀ b o, s.heap.get? b = some o → h'.get? b = some o) → Q (.ref (s.heap.objs.size + 1)) { s with heap := h' }) :
    wpAny (model prog w) A (call (.type "enumerate") [.ref l]) Q E s := by
  obtain ⟨n, hl⟩ := hL
  refine callType_new F.called_enumerate (by decide) (F.typeCall_enumerate_1 _) (F.newCall_enumerate_1 _) (fun obj => F.args_object_init_2 obj _) F.entry_enumerate_new
    (meets_enum_t l vs.toArray n) ⟨hl, ?_⟩
  have hz : (s.heap.push { cls := .type "tuple_iterator", data := .fields #[.ref l, .int 0 0] }).objs.size = s.heap.objs.size + 1 := Heap.size_push ..
  show _ ∧ _
  rw [hz]
  have he : IsEnum ((s.heap.push { cls := .type "tuple_iterator", data := .fields #[.ref l, .int 0 0] }).push
      { cls := .type "enumerate", data := .fields #[.none, .bool false, .ref s.heap.objs.size, rawInt 0, .none, .none] }) (s.heap.objs.size + 1) s.heap.objs.size 0 .none := by
    have := Heap.get?_push_size (s.heap.push { cls := .type "tuple_iterator", data := .fields #[.ref l, .int 0 0] })
      (o := { cls := .type "enumerate", data := .fields #[.none, .bool false, .ref s.heap.objs.size, rawInt 0, .none, .none] }) rfl
    rw [hz] at this; exact this
  refine ⟨⟨_, he, rfl⟩, h _ he ⟨_, Heap.get?_push_of_some _ (Heap.get?_push_size _ rfl), rfl, rfl⟩ fun b o x => Heap.get?_push_of_some _ (Heap.get?_push_of_some _ x)⟩
theorem call_enum_A {l : Addr} {vs : List Value} {Q : Value → Shared → Prop} (hL : Tup s.heap l vs)
    (h : ∀ e it h', e ≠ it → l ≠ e → l ≠ it → s.heap.get? e = none → s.heap.get? it = none → IsEnum h' e it 0 .none → h'.IsTupleIter it l 0 → Le s.heap h' → Q (.ref e) { s with heap := h' }) :
    wpAny (model prog w) A (call (.type "enumerate") [.ref l]) Q E s := by
  refine call_enum_t hL fun h' he hi up => ?_
  have hl : l < s.heap.objs.size := by obtain ⟨n, e⟩ := hL; exact Heap.lt_size e
  exact h _ _ h' (Nat.succ_ne_self _) (Nat.ne_of_lt (Nat.lt_succ_of_lt hl)) (Nat.ne_of_lt hl) (Heap.get?_none_of_le (Nat.le_succ _)) (none_size _) he hi up
end
theorem S.push2 {oc : Bool} {w : World} {h₀ Kb K h h' : Heap} {env : Env} {m cm : Str → Option Value} {own : OwnL} {a b : Addr} (x : S oc w h₀ Kb env K m cm own h) (g : Le h h') (na : ∃ o, h'.get? a = some o) (nb : ∃ o, h'.get? b = some o)
    (fa : h.get? a = none) (fb : h.get? b = none) (hab : a ≠ b) : S oc w h₀ Kb env K m cm (own ++ any1 [a, b]) h' := by
  have y := x.push g (P := fun _ => True) (a := b) (let ⟨o, e⟩ := nb; ⟨o, e, trivial⟩) fb
  have ne : ∀ c, (∃ o, h.get? c = some o) → c ≠ a := by
    rintro c ⟨o, e⟩ rfl
    rw [fa] at e; cases e
  have z : S oc w h₀ Kb env K m cm ((a, fun _ => True) :: (b, fun _ => True) :: own) h' := by
    refine ⟨y.x, y.base, y.kk, y.new, y.L0, y.LK, ?_, ?_, ?_, y.cellO, y.cellA⟩
    · intro p hp
      rcases List.mem_cons.mp hp with rfl | hp
      · refine ⟨let ⟨o, e⟩ := na; ⟨o, e, trivial⟩, x.base.none fa, x.x.kh.none fa, ?_⟩
        obtain ⟨o, _, _, e, _⟩ := x.x.ns
        exact Ne.symm (ne _ ⟨o, e⟩)
      · exact y.has p hp
    · refine List.pairwise_cons.mpr ⟨fun p hp => ?_, y.nd⟩
      rcases List.mem_cons.mp hp with rfl | hp
      · exact hab
      · obtain ⟨⟨o, e, _⟩, _⟩ := x.has p hp
        exact Ne.symm (ne _ ⟨o, e⟩)
    · intro n c hc
      obtain ⟨e3, e4⟩ := y.cellL n c hc
      refine ⟨e3, fun p hp => ?_⟩
      rcases List.mem_cons.mp hp with rfl | hp
      · obtain ⟨o, e, _⟩ := x.x.cell n c hc
        exact Ne.symm (ne _ ⟨o, e⟩)
      · exact e4 p hp
  exact z.perm (List.perm_append_comm (l₁ := own) (l₂ := any1 [a, b]))
theorem draws_tup {prog : Program} {w : World} {A : Around} (hh : A.handled = none) (it l : Addr) (hne : l ≠ it) (items : Array Value) :
    Draws prog w A it [it, l] items.size (fun i v => items[i]? = some v) (fun i h => h.IsTupleIter it l i ∧ h.IsTuple l items) where
  live := fun i h st => let ⟨o, e, _⟩ := st.1; ⟨o, e⟩
  frame := fun _ _ _ st hk => ⟨st.1.at fun o e => hk it (by simp) o e, st.2.at fun o e => hk l (by simp) o e⟩
  item := fun i s Q E hi st hQ => by
    refine nextOf_tup_item st.1 st.2 (x := items[i]) (by simp [hi]) fun h' hit' hs' => ?_
    exact hQ _ h' s.toks (by simp [hi]) ⟨hit', st.2.extBut hs'.extBut hne⟩ hs'
  done := fun s Q E st hE => nextOf_tup_end hh st.1 st.2 (by simp) fun h' e hx hc => hE h' e hx hc
theorem walks_enum {prog : Program} {w : World} {A : Around} (hh : A.handled = none) {e it l : Addr} (hei : e ≠ it) (hle : l ≠ e) (hli : l ≠ it) (items : Array Value) :
    WalksU prog w A e (e :: [it, l]) [e, it] items.size (fun i vals => ∃ t x, items[i]? = some x ∧ vals = #[.int i t, x]) (fun i h => (∃ old, IsEnum h e it i old) ∧ (h.IsTupleIter it l i ∧ h.IsTuple l items))
      (fun i T h => (∃ x, IsEnumOut h e it ((i : Int) + 1) x T) ∧ (h.IsTupleIter it l (i + 1) ∧ h.IsTuple l items) ∧ T ≠ e ∧ T ≠ it) :=
  (WalksT.enumerateD (draws_tup (A := A.in1) hh it l hli items) e hei (by simp [hei, Ne.symm hle]) (by simp)).toU
section
variable {oc : Bool} {w : World} {A : Around} {E : Value → Shared → Prop} {s : Shared} {K Kb h₀ : Heap} {env : Env} {m cm : Str → Option Value} {own : OwnL}
/-- a for loop over what hands out its own tuples -/
theorem for_walkU {elts : List Expr} {kk : Nat} {pt : Pos} {body orelse : List Stmt} {I : Addr} {fp wr : List Addr} {n : Nat} {Pt : Nat → Array Value → Prop} {St : Nat → Heap → Prop} {Mid : Nat → Addr → Heap → Prop} {R₀ : Result → Shared → Prop}
    (W : WalksU prg w A I fp wr n Pt St Mid) (hob : ∀ i h, St i h → ∀ b ∈ wr, ∃ o, h.get? b = some o) (hfp : ∀ b ∈ fp, b ∈ wr ∨ ∃ o, K.get? b = some o)
    (J : Nat → Heap → (Str → Option Value) → (Str → Option Value) → OwnL → Prop) (S₀ : S oc w h₀ Kb env K m cm (own ++ any1 wr) s.heap) (st : St 0 s.heap) (h0 : J 0 K m cm own)
    (turn : ∀ i T vals K₁ m₁ cm₁ own₁ R h tk E', i < n → Pt i vals → h.IsTuple T vals → Le K K₁ → J i K₁ m₁ cm₁ own₁ → S oc w h₀ Kb env K₁ m₁ cm₁ (own₁ ++ R) h →
      wpAny (model prg w) A (assign (.Tuple elts kk pt) env (.ref T)) (fun _ s₂ => wpAny (model prg w) A (execs body env) (TurnPost (fun f s' => R₀ (.ok f) s') (J (i + 1)) oc w h₀ Kb env K₁ R s) E' s₂) E' { s with heap := h, toks := tk })
    (done : ∀ K₁ m₁ cm₁ own₁ h tk E', Le K K₁ → J n K₁ m₁ cm₁ own₁ → S oc w h₀ Kb env K₁ m₁ cm₁ own₁ h → wpAny (model prg w) A (execs orelse env) (fun f s' => R₀ (.ok f) s') E' { s with heap := h, toks := tk }) :
    codeAny (model prg w) A (.forLoop (.Tuple elts kk pt) (.ref I) body orelse env) R₀ s := by
  refine codeAny_forLoop_any
    (fun k s' => ∃ i h' tk' K' m' cm' own', s' = { s with heap := h', toks := tk' } ∧ i ≤ n ∧ k = n + 1 - i ∧ Le K K' ∧ J i K' m' cm' own' ∧ S oc w h₀ Kb env K' m' cm' (own' ++ any1 wr) h' ∧ St i h') ?_ (n + 1)
    ⟨0, s.heap, s.toks, K, m, cm, own, rfl, Nat.zero_le _, rfl, Le.refl _, h0, S₀, st⟩
  rintro k s' ⟨i, h', tk', K', m', cm', own', rfl, hi, rfl, hK, hJ, S', st'⟩
  by_cases hlt : i < n
  · refine W.item i _ _ _ hlt st' fun T vals h₁ tk₁ hP hT hM up => ?_
    dsimp only
    refine W.go elts kk pt i T _ _ _ hM fun h₂ st₂ up₂ => ?_
    have hT₂ : h₂.IsTuple T vals := hT.at fun o e => up₂ T o (W.apart _ _ _ hM) e
    have S₁ : S oc w h₀ Kb env K' m' cm' (own' ++ exact1 h₂ wr) h₂ := by
      refine S'.updAll (by rw [exact1_fst, any1_fst]) (fun p hp => ?_) (fun b o hb e => up₂ b o (by rwa [any1_fst] at hb) (up b o (by rwa [any1_fst] at hb) e))
      obtain ⟨b, hb, rfl⟩ := List.mem_map.mp hp
      obtain ⟨o, e⟩ := hob _ _ st₂ b hb
      exact ⟨o, e, e⟩
    have fin : ∀ s₃, (∃ h' tk' K₂ m' cm' own', s₃ = { s with heap := h', toks := tk' } ∧ Le K' K₂ ∧ J (i + 1) K₂ m' cm' own' ∧ S oc w h₀ Kb env K₂ m' cm' (own' ++ exact1 h₂ wr) h') →
        ∃ m, m < n + 1 - i ∧ ∃ i h' tk' K' m' cm' own', s₃ = { s with heap := h', toks := tk' } ∧ i ≤ n ∧ m = n + 1 - i ∧ Le K K' ∧ J i K' m' cm' own' ∧ S oc w h₀ Kb env K' m' cm' (own' ++ any1 wr) h' ∧ St i h' := by
      rintro s₃ ⟨h₃, tk₃, K₃, m₃, cm₃, own₃, rfl, hK₃, hJ₃, S₃⟩
      refine ⟨n + 1 - (i + 1), by omega, i + 1, h₃, tk₃, K₃, m₃, cm₃, own₃, rfl, hlt, rfl, hK.trans hK₃, hJ₃, ?_, ?_⟩
      · refine S₃.updAll (by rw [exact1_fst, any1_fst]) (fun p hp => ?_) (fun b o hb e => e)
        obtain ⟨b, hb, rfl⟩ := List.mem_map.mp hp
        obtain ⟨⟨o, e, _⟩, _⟩ := S₃.has (b, _) (List.mem_append_right _ (List.mem_map.mpr ⟨b, hb, rfl⟩))
        exact ⟨o, e, trivial⟩
      · refine W.frame _ _ _ st₂ fun b hb o e => ?_
        rcases hfp b hb with hb | ⟨o', e'⟩
        · obtain ⟨⟨o₂, e₂, q⟩, _⟩ := S₃.has (b, _) (List.mem_append_right _ (List.mem_map.mpr ⟨b, hb, rfl⟩))
          have q' : h₂.get? b = some o₂ := q
          rw [e] at q'
          cases q'
          exact e₂
        · have e1 := S₁.x.kh _ _ (hK _ _ e')
          rw [e] at e1
          cases e1
          exact S₃.x.kh _ _ (hK₃ _ _ (hK _ _ e'))
    refine wpAny_mono (turn i T vals K' m' cm' own' (exact1 h₂ wr) h₂ tk₁ _ hlt hP hT₂ hK hJ S₁) (fun _ s₂ q => wpAny_mono q (fun f s₃ p => ?_) fun _ _ e => e) fun _ _ e => e
    cases f with
    | ret v => exact p
    | brk => exact p
    | next => exact fin _ p
    | cont => exact fin _ p
  · have hin : i = n := by omega
    subst hin
    refine W.done _ _ _ st' fun h₁ tk₁ up => ?_
    dsimp only
    exact done K' m' cm' own' h₁ tk₁ _ hK hJ (S'.dropAll fun b o hb e => up b o (by rwa [any1_fst] at hb) e)
end
end Mine
end
section
open PySem PySem.W PyProof.Rows
namespace Mine
def tabL : List (List (Int × Str)) :=
  [[(40960, Str.ofString "l"), (49152, Str.ofString "s"), (32768, Str.ofString "-"), (24576, Str.ofString "b"), (16384, Str.ofString "d"), (8192, Str.ofString "c"), (4096, Str.ofString "p")],
   [(256, Str.ofString "r")], [(128, Str.ofString "w")], [(2112, Str.ofString "s"), (2048, Str.ofString "S"), (64, Str.ofString "x")],
   [(32, Str.ofString "r")], [(16, Str.ofString "w")], [(1032, Str.ofString "s"), (1024, Str.ofString "S"), (8, Str.ofString "x")],
   [(4, Str.ofString "r")], [(2, Str.ofString "w")], [(513, Str.ofString "t"), (512, Str.ofString "T"), (1, Str.ofString "x")]]
def testC (k : Nat) (mode b : Int) : Bool := if k = 0 then Builtin.bitAnd mode 61440 == b else Builtin.bitAnd mode b == b
def pickC (k : Nat) (mode : Int) : List (Int × Str) → Str
  | [] => if k = 0 then Str.ofString "?" else Str.ofString "-"
  | (b, c) :: r => if testC k mode b then c else pickC k mode r
def fmTake (mode : Int) (i : Nat) : List Str := (List.range i).map fun k => pickC k mode ((tabL[k]?).getD [])
def filemodeF (mode : Int) : Str := Txt.join (Str.ofString "") (fmTake mode 10)
theorem fm_next (mode : Int) (i : Nat) : fmTake mode (i + 1) = fmTake mode i ++ [pickC i mode ((tabL[i]?).getD [])] := by
  unfold fmTake; rw [List.range_succ, List.map_append]; rfl
def LPair (K : Heap) (v : Value) (p : Int × Str) : Prop := ∃ a t u, v = .ref a ∧ Tup K a [.int p.1 t, .str p.2 u]
def LTab (K : Heap) (v : Value) (es : List (Int × Str)) : Prop := ∃ a us, v = .ref a ∧ Tup K a us ∧ Rel2 (LPair K) us es
theorem tab_ok {w : World} {K : Heap} (hB : Base w K) : ∃ a vs, nsIn (hd.heap_39 w.params) mainGlobals "_filemode_table" = some (some (.ref a)) ∧ Tup K a vs ∧ Rel2 (LTab K) vs tabL := by
  refine ⟨_, _, rfl, ⟨_, hB.frag _ _ rfl⟩, ?_⟩
  unfold tabL
  repeat' (first | exact Rel2.nil | refine Rel2.cons ?_ ?_ | refine ⟨_, _, rfl, ⟨_, hB.frag _ _ rfl⟩, ?_⟩ | exact ⟨_, _, _, rfl, ⟨_, hB.frag _ _ rfl⟩⟩)
theorem pick_len (k : Nat) (mode : Int) : ∀ es : List (Int × Str), (∀ p ∈ es, p.2.length ≤ 1) → (pickC k mode es).length ≤ 1
  | [], _ => by
    unfold pickC; split <;> decide
  | (b, c) :: r, h => by
    unfold pickC; split
    · exact h _ List.mem_cons_self
    · exact pick_len k mode r fun p hp => h p (List.mem_cons_of_mem _ hp)
theorem tab_len : ∀ es ∈ tabL, ∀ p ∈ es, p.2.length ≤ 1 := by decide
theorem fm_len (mode : Int) (i : Nat) : ((fmTake mode i).map (·.length)).sum ≤ i := by
  induction i with
  | zero => exact Nat.le_refl _
  | succ i ih =>
    rw [fm_next, List.map_append, List.sum_append]
    have : (pickC i mode ((tabL[i]?).getD [])).length ≤ 1 := by
      refine pick_len _ _ _ fun p hp => ?_
      cases e : tabL[i]? with
      | none => rw [e] at hp; cases hp
      | some es => rw [e] at hp; exact tab_len es (List.mem_of_getElem? e) p hp
    simpa using Nat.add_le_add ih this
section
variable {w : World} {A : Around} {E : Value → Shared → Prop} {s : Shared} {K : Heap} {n : Nat}
set_option maxHeartbeats 1000000 in
theorem spec_filemode {mode : Int} {t : Tok} {Q : Value → Shared → Prop} (hA : AOk (n + 2) A) (hB : Base w K) (hle : Le K s.heap)
    (h : ∀ h' tk t', Le s.heap h' → Q (.str (filemodeF mode) t') { s with heap := h', toks := tk }) :
    wpAny (model prg w) A (call (.ref 111) [.int mode t]) Q E s := by
  refine call_def (binds := [("mode", .int mode t)]) hA hB hle (hB.frag 111 _ rfl) rfl ⟨_, _, _, _, rfl, hB.frag 110 _ rfl, rfl, rfl⟩ rfl rfl rfl ?_
  intro h₁ tk hA' S₁
  refine (tab_ok hB).elim fun ta qt => qt.elim fun tvs qt => ?_
  refine wpAny_execs_cons (wpAny_Assign_Name (List_ (spliced_none (nlA fun r h₂ l₂ p₂ kr => ?_))))
  have S₂ := S₁.push l₂ (of_plain p₂) kr
  refine st_local S₂ fun h₃ tk₃ S₃ => ?_
  refine wpAny_execs_cons (wpAny_For (Call_ (x_builtin S₃.x rfl boot_enumerate (cw_ty (spliced_more (x_global S₃.x qt.1 (spliced_none ?_)))))))
  refine call_enum_A (qt.2.1.le S₃.x.kh) fun e it h₄ hei hte hti fe fi he hi up => ?_
  have S₄ := S₃.push2 up ⟨_, he⟩ (let ⟨o, e, _⟩ := hi; ⟨o, e⟩) fe fi hei
  have W := walks_enum (prog := prg) (w := w) hA'.handled hei hte hti tvs.toArray
  have st : (∃ old, IsEnum h₄ e it ((0 : Nat) : Int) old) ∧ h₄.IsTupleIter it ta 0 ∧ h₄.IsTuple ta tvs.toArray := ⟨⟨_, he⟩, hi, (qt.2.1.le (S₃.x.kh.trans up)).isTup⟩
  refine W.self 0 _ _ _ st ?_
  refine for_walkU (own := [(r, listO [])]) W ?_ ?_ (fun i K' m' cm' own' => ∃ vs, own' = [(r, listO vs)] ∧ Rel2 IsS vs (fmTake mode i) ∧ m' "mode" = some (.int mode t) ∧ m' "perm" = some (.ref r)) S₄ st ?_ ?_ ?_
  · rintro i h ⟨⟨old, he⟩, ⟨o, hi, _⟩, _⟩ b hb
    rcases List.mem_cons.mp hb with rfl | hb
    · exact ⟨_, he⟩
    · cases List.mem_singleton.mp hb
      exact ⟨o, hi⟩
  · intro b hb
    rcases List.mem_cons.mp hb with rfl | hb
    · exact .inl List.mem_cons_self
    · rcases List.mem_cons.mp hb with rfl | hb
      · exact .inl (by simp)
      · cases List.mem_singleton.mp hb
        obtain ⟨n, e⟩ := qt.2.1
        exact .inr ⟨_, e⟩
  · exact ⟨[], rfl, .nil, rfl, rfl⟩
  · rintro i T vals K₁ m₁ cm₁ own₁ R h₅ tk₅ E₅ hi' ⟨ti, x, hx, rfl⟩ hT hK ⟨vs, rfl, hvs, m1, m2⟩ S₅
    have hx' : tvs[i]? = some x := by simpa using hx
    refine (qt.2.2.get hx').elim fun es qe => qe.2.elim fun tt qe2 => qe2.elim fun us qe2 => ?_
    have ex := qe2.1
    subst ex
    have hge : (tabL[i]?).getD [] = es := by rw [qe.1]; rfl
    have hi10 : i < 10 := (List.getElem?_eq_some_iff.mp qe.1).1
    have hvl : vs.length ≤ 10 := by rw [hvs.length]; simp [fmTake]; omega
    have fin : ∀ {c : Str} {tc : Tok}, pickC i mode es = c → Rel2 IsS (vs ++ [Value.str c tc]) (fmTake mode (i + 1)) := fun {c tc} e => by
      rw [fm_next, hge, e]; exact hvs.append (.cons ⟨tc, rfl⟩ .nil)
    refine assign_pair hA'.handled S₅ hT rfl rfl rfl fun h₆ tk₆ S₆ => ?_
    refine wpAny_execs_cons (wpAny_For (x_local S₆.x rfl ?_))
    refine iter_tup hA'.handled S₆ (qe2.2.1.le hK) (fun j K' m' cm' own' => own' = [(r, listO vs)] ++ R ∧ pickC i mode (es.drop j) = pickC i mode es ∧ m' "mode" = some (.int mode t) ∧ m' "perm" = some (.ref r) ∧ m' "index" = some (.int i ti)) ?_ ?_ ?_
    · exact ⟨rfl, rfl, m1, m2, rfl⟩
    · rintro j v K₇ m₇ cm₇ own₇ R₇ h₇ tk₇ E₇ hv hK₇ ⟨rfl, hp, m3, m4, m5⟩ S₇
      refine (qe2.2.2.get hv).elim fun p qp => qp.2.elim fun tp qp2 => qp2.elim fun tb qp2 => qp2.elim fun tc qp2 => ?_
      have ev := qp2.1
      subst ev
      have hdr : es.drop j = p :: es.drop (j + 1) := by
        have := List.drop_eq_getElem_cons (l := es) (i := j) (List.getElem?_eq_some_iff.mp qp.1).1
        rw [this, (List.getElem?_eq_some_iff.mp qp.1).2]
      have pt : testC i mode p.1 = true → pickC i mode es = p.2 := fun e => by rw [← hp, hdr]; show (if testC i mode p.1 = true then p.2 else _) = _; rw [if_pos e]
      have pf : testC i mode p.1 = false → pickC i mode (es.drop (j + 1)) = pickC i mode es := fun e => by rw [← hp, hdr]; show _ = (if testC i mode p.1 = true then p.2 else _); rw [if_neg (by rw [e]; exact Bool.false_ne_true)]
      refine assign_pair hA'.handled S₇ ((qp2.2.le (hK.trans (hK₇.trans S₇.x.kh))).isTup) rfl rfl rfl fun h₈ tk₈ S₈ => ?_
      refine wpAny_execs_cons (wpAny_If (wpAny_isTrue_Compare1 (x_local S₈.x m5 (wpAny_Constant_int (eq_int (wpAny_truthy_bool ?_))))))
      by_cases hi0 : i = 0
      · refine br_t (by rw [hi0]; rfl) ?_
        refine wpAny_execs_cons (wpAny_If (wpAny_isTrue_Compare1 (Call_ (x_global S₈.x rfl (callWith_def rfl (spliced_more (x_local S₈.x m3 (spliced_none ⟨S₈.x.kh _ _ (S₈.x.base.frag 71 _ rfl), ?_⟩))))))))
        refine spec_ifmt hA' S₈.x.base S₈.x.kh fun h₉ tk₉ t₉ l₉ => ?_
        have S₉ := S₈.more l₉
        refine x_local S₉.x rfl (eq_int (wpAny_truthy_bool ?_))
        by_cases ht : testC i mode p.1 = true
        · refine br_t (by rw [testC, if_pos hi0] at ht; exact ht) ?_
          refine wpAny_execs_cons (wpAny_Expr (Call_method1 rfl rfl rfl (x_local S₉.x m4 (append_at S₉ (x_local S₉.x rfl ⟨_, _, _, S₉, by show _ ≤ 16777216; omega, fun h₁₀ S₁₀ => ?_⟩)))))
          refine wpAny_execs_cons (wpAny_Break (wpAny_execs_nil ?_))
          refine ⟨h₁₀, _, K₇, _, _, [(r, listO _)], rfl, hK₇, ⟨_, rfl, fin (pt ht), ?_, ?_⟩, S₁₀.fewer (List.sublist_append_left _ _)⟩
          · exact m3
          · exact m4
        · have ht : testC i mode p.1 = false := by simpa using ht
          refine br_f (by rw [testC, if_pos hi0] at ht; exact ht) (wpAny_execs_nil (wpAny_execs_nil (wpAny_execs_nil ?_)))
          refine ⟨h₉, _, K₇, _, _, [(r, listO vs)] ++ R, rfl, Le.refl _, ⟨rfl, pf ht, ?_, ?_, ?_⟩, S₉⟩
          · exact m3
          · exact m4
          · exact m5
      · refine br_f (by simpa using hi0) ?_
        refine wpAny_execs_cons (wpAny_If (wpAny_isTrue_Compare1 (wpAny_BinOp (x_local S₈.x m3 (x_local S₈.x rfl (and_int (x_local S₈.x rfl (eq_int (wpAny_truthy_bool ?_)))))))))
        by_cases ht : testC i mode p.1 = true
        · refine br_t (by rw [testC, if_neg hi0] at ht; exact ht) ?_
          refine wpAny_execs_cons (wpAny_Expr (Call_method1 rfl rfl rfl (x_local S₈.x m4 (append_at S₈ (x_local S₈.x rfl ⟨_, _, _, S₈, by show _ ≤ 16777216; omega, fun h₁₀ S₁₀ => ?_⟩)))))
          refine wpAny_execs_cons (wpAny_Break (wpAny_execs_nil ?_))
          refine ⟨h₁₀, _, K₇, _, _, [(r, listO _)], rfl, hK₇, ⟨_, rfl, fin (pt ht), ?_, ?_⟩, S₁₀.fewer (List.sublist_append_left _ _)⟩
          · exact m3
          · exact m4
        · have ht : testC i mode p.1 = false := by simpa using ht
          refine br_f (by rw [testC, if_neg hi0] at ht; exact ht) (wpAny_execs_nil (wpAny_execs_nil (wpAny_execs_nil ?_)))
          refine ⟨h₈, _, K₇, _, _, [(r, listO vs)] ++ R, rfl, Le.refl _, ⟨rfl, pf ht, ?_, ?_, ?_⟩, S₈⟩
          · exact m3
          · exact m4
          · exact m5
    · rintro K₇ m₇ cm₇ own₇ h₇ tk₇ E₇ hK₇ ⟨rfl, hp, m3, m4, m5⟩ S₇
      rw [List.drop_of_length_le (by rw [qe2.2.2.length]; exact Nat.le_refl _)] at hp
      refine wpAny_execs_cons (wpAny_If (wpAny_isTrue_Compare1 (x_local S₇.x m5 (wpAny_Constant_int (eq_int (wpAny_truthy_bool ?_))))))
      by_cases hi0 : i = 0
      · refine br_t (by rw [hi0]; rfl) ?_
        refine wpAny_execs_cons (wpAny_Expr (Call_method1 rfl rfl rfl (x_local S₇.x m4 (append_at S₇ (wpAny_Constant_str ⟨_, _, _, S₇, by show _ ≤ 16777216; omega, fun h₁₀ S₁₀ => ?_⟩)))))
        refine wpAny_execs_nil (wpAny_execs_nil (wpAny_execs_nil ?_))
        refine ⟨h₁₀, _, K₇, _, _, [(r, listO _)], rfl, hK₇, ⟨_, rfl, fin (by rw [← hp]; unfold pickC; rw [if_pos hi0]), ?_, ?_⟩, S₁₀⟩
        · exact m3
        · exact m4
      · refine br_f (by simpa using hi0) ?_
        refine wpAny_execs_cons (wpAny_Expr (Call_method1 rfl rfl rfl (x_local S₇.x m4 (append_at S₇ (wpAny_Constant_str ⟨_, _, _, S₇, by show _ ≤ 16777216; omega, fun h₁₀ S₁₀ => ?_⟩)))))
        refine wpAny_execs_nil (wpAny_execs_nil (wpAny_execs_nil ?_))
        refine ⟨h₁₀, _, K₇, _, _, [(r, listO _)], rfl, hK₇, ⟨_, rfl, fin (by rw [← hp]; unfold pickC; rw [if_neg hi0]), ?_, ?_⟩, S₁₀⟩
        · exact m3
        · exact m4
  · rintro K₅ m₅ cm₅ own₅ h₅ tk₅ E₅ hK ⟨vs, rfl, hvs, m1, m2⟩ S₅
    have e10 : tvs.toArray.size = 10 := by rw [List.size_toArray, qt.2.2.length]; rfl
    rw [e10] at hvs
    have hs := fm_len mode 10
    refine wpAny_execs_nil (wpAny_execs_cons (wpAny_Return_some (Call_method1 rfl rfl rfl (wpAny_Constant_str (join_m (x_local S₅.x m2 ⟨_, _, _, rfl, plain_of (S₅.has (r, listO vs) (by simp)).1, hvs, ?_, fun t₁ k₁ => ?_⟩))))))
    · show _ + _ * 0 ≤ _; omega
    · exact h _ _ _ S₅.base
end
end Mine
end
section
open PySem PySem.W PyProof.Rows PySem.SeqAt
namespace Mine
theorem intsAre' {vs : List Value} {xs : List Int} (h : Rel2 IsI vs xs) : IntsAre vs xs := by
  induction h with
  | nil => exact .nil
  | cons h _ ih => obtain ⟨t, rfl⟩ := h; exact .cons _ t ih
section
variable {w : World} {A : Around} {E : Value → Shared → Prop} {s : Shared}
/-- sum of ints -/
theorem sum_l {l : Addr} {vs : List Value} {ns : List Int} {Q : Value → Shared → Prop} (hh : A.handled = none) (hl : s.heap.PlainList l vs.toArray) (hi : Rel2 IsI vs ns)
    (h : ∀ h' tk t', Le s.heap h' → Q (.int ns.sum t') { s with heap := h', toks := tk }) : wpAny (model prg w) A (call (.builtin "sum") [.ref l]) Q E s := by
  have hi' := intsAre' hi
  obtain ⟨xs, e⟩ := hi'.allInts.items
  have hl' := hl.isList
  rw [e] at hl'
  refine sum_intListG hh hl' fun h' tk t' hk => ?_
  have := h h' tk t' hk
  have e2 : ns.sum = preSum (numAt xs) xs.size := by
    rw [preSum_eq, List.take_of_length_le (by simp), ← nums_intItems, ← e, show vs.toArray.toList = vs from rfl, hi'.numsOf]
  rw [e2] at this
  exact this
/-- a pair of texts -/
def LPS (K : Heap) (v : Value) (p : Str × Str) : Prop := ∃ a t u, v = .ref a ∧ Tup K a [.str p.1 t, .str p.2 u]
theorem LPS.le {K K' : Heap} {v : Value} {p : Str × Str} (x : LPS K v p) (l : Le K K') : LPS K' v p := let ⟨a, t, u, e, tp⟩ := x; ⟨a, t, u, e, tp.le l⟩
theorem lps_le {K K' : Heap} {us : List Value} {ls : List (Str × Str)} (x : Rel2 (LPS K) us ls) (l : Le K K') : Rel2 (LPS K') us ls := x.mono fun _ _ q => q.le l
theorem eqAt_pair {v u : Value} {x y : Str × Str} (hu : A.units < cLine) (hv : LPS s.heap v x) (hw : LPS s.heap u y) : EqAt A s v u (decide (x = y)) := by
  obtain ⟨a, t1, t2, rfl, tp⟩ := hv
  obtain ⟨b, u1, u2, rfl, tq⟩ := hw
  by_cases hab : a = b
  · subst hab
    have e : x = y := by
      obtain ⟨n, e1⟩ := tp
      obtain ⟨m, e2⟩ := tq
      rw [e1] at e2
      simp at e2
      exact Prod.ext e2.1.1.1 e2.1.2.1
    rw [decide_eq_true e]
    exact EqAt.same _
  · have h2 : decide (x = y) = ((List.range (min #[Value.str x.1 t1, Value.str x.2 t2].size #[Value.str y.1 u1, Value.str y.2 u2].size)).all (fun j => if j = 0 then decide (x.1 = y.1) else decide (x.2 = y.2)) && #[Value.str x.1 t1, Value.str x.2 t2].size == #[Value.str y.1 u1, Value.str y.2 u2].size) := by
      have : List.range (min #[Value.str x.1 t1, Value.str x.2 t2].size #[Value.str y.1 u1, Value.str y.2 u2].size) = [0, 1] := rfl
      rw [this, Bool.eq_iff_iff]
      simp [Prod.ext_iff]
    rw [h2]
    refine EqAt.of_refs hab (RcAt.tuples tp.isTup tq.isTup hu fun j h1 h2 => ?_)
    have hj : j = 0 ∨ j = 1 := by
      have : j < 2 := h1
      omega
    rcases hj with rfl | rfl
    · exact eqAt_str ⟨_, rfl⟩ ⟨_, rfl⟩
    · exact eqAt_str ⟨_, rfl⟩ ⟨_, rfl⟩
end
end Mine
end
section
open PySem PySem.W PyProof.Rows
namespace Mine
abbrev cmPut (cm : Str → Option Value) (y : Str) (v : Option Value) : Str → Option Value := fun z => if z = y then v else cm z
section
variable {oc : Bool} {w : World} {h₀ Kb K h h' : Heap} {env : Env} {m cm : Str → Option Value} {own : OwnL}
theorem S.storeC' {y : Str} {c : Addr} {v : Value} (x : S oc w h₀ Kb env K m cm own h) (hc : env.cells.lookup y = some c) (C : h₀.get? c = none ∧ K.get? c = none) (n : h'.IsCell c (some v)) (sb : Heap.SameBut c h h') :
    S oc w h₀ Kb env K m (fun z => if z = y then some v else cm z) own h' := by
  have up : ∀ b o, b ≠ c → h.get? b = some o → h'.get? b = some o := fun b o e q => (sb.2 b e).trans q
  have C' := x.cellL y c hc
  refine ⟨⟨?_, fun z d e => ?_, fun b o e => up b o (fun q => ?_) (x.x.kh _ _ e), x.x.base⟩, fun b o e => up b o (fun q => ?_) (x.base _ _ e), x.kk, x.new, x.L0, x.LK, ?_, x.nd, x.cellL, x.cellO, x.cellA⟩
  · exact x.x.ns.sameBut sb (Ne.symm C'.1)
  · by_cases hz : z = y
    · subst hz
      rw [hc] at e; cases e
      simpa using n
    · simp only [hz, if_false]
      exact (x.x.cell z d e).sameBut sb fun q => hz (name_of_addr x.cellA (mem_of_lookup e) (q ▸ mem_of_lookup hc))
  · rw [q, C.2] at e; cases e
  · rw [q, C.1] at e; cases e
  · intro p hp
    obtain ⟨⟨o, e, s⟩, a, b, d⟩ := x.has p hp
    exact ⟨⟨o, up _ _ (C'.2 p hp) e, s⟩, a, b, d⟩
end
section
variable {w : World} {A : Around} {E : Value → Shared → Prop} {s : Shared} {K Kb h₀ : Heap} {cenv : Env} {m cm : Str → Option Value}
theorem comp_loopC {R₀ : Result → Shared → Prop} {elt iter : Expr} {y : Str} {py : Pos} {scope : Scope} {pos : Pos} {I D c : Addr} {fp wr : List Addr} {n : Nat} {P : Nat → Value → Prop} {St : Nat → Heap → Prop} {v₀ : Option Value}
    (W : Walks prg w A I fp wr n P St) (hob : ∀ i h, St i h → ∀ b ∈ wr, ∃ o, h.get? b = some o) (hfp : ∀ b ∈ fp, b ∈ wr ∨ ∃ o, K.get? b = some o)
    (hgo : ∀ i (s' : Shared) v (Q' : Unit → Shared → Prop) E', St i s'.heap → Q' () s' → wpAny (model prg w) A (letOwnedTupleGo (.Name y py) (.ref I) v) Q' E' s')
    (hyc : cenv.cells.lookup y = some c) (hyk : cenv.kindOf y = some .cell) (hks : cenv.scope.kind = .function) (c0 : h₀.get? c = none) (cK : K.get? c = none)
    (J : Nat → Heap → List Value → Prop) (S₀ : S false w h₀ Kb cenv K m (cmPut cm y v₀) ([(D, listO [])] ++ any1 wr) s.heap) (st : St 0 s.heap) (h0 : J 0 K [])
    (turn : ∀ i v K₁ m₁ acc R h tk E', i < n → P i v → Le K K₁ → J i K₁ acc → S false w h₀ Kb cenv K₁ m₁ (cmPut cm y (some v)) R h →
      wpAny (model prg w) A (eval elt cenv) (fun x s₄ => ∃ h' tk' K', s₄ = { s with heap := h', toks := tk' } ∧ Grown K₁ h K' h' ∧ J (i + 1) K' (acc ++ [x])) E' { s with heap := h, toks := tk })
    (fin : ∀ K₁ m₁ v₁ ys h tk, Le K K₁ → ys.length ≤ n → J n K₁ ys → S false w h₀ Kb cenv K₁ m₁ (cmPut cm y v₁) [(D, listO ys)] h → R₀ (.ok .next) { s with heap := h, toks := tk })
    (hsz : n ≤ sizeLine) :
    codeAny (model prg w) A (.compLoop (.ListComp elt [⟨.Name y py, iter, [], 0⟩] scope pos) 0 (.ref I) (.ref D) cenv) R₀ s := by
  refine compLoop_go
    (fun k s' => ∃ i h' tk' K' m' v' acc, s' = { s with heap := h', toks := tk' } ∧ i ≤ n ∧ acc.length ≤ i ∧ k = n + 1 - i ∧ Le K K' ∧ K'.get? c = none ∧ J i K' acc ∧ S false w h₀ Kb cenv K' m' (cmPut cm y v') ([(D, listO acc)] ++ any1 wr) h' ∧ St i h') ?_ (n + 1)
    ⟨0, s.heap, s.toks, K, m, v₀, [], rfl, Nat.zero_le _, Nat.le_refl _, rfl, Le.refl _, cK, h0, S₀, st⟩
  rintro k s' ⟨i, h', tk', K', m', v', acc, rfl, hi, hacc, rfl, hK, hcK, hJ, S', st'⟩
  by_cases hlt : i < n
  · refine W.item i _ _ _ hlt st' fun v h₁ tk₁ hP st₁ up => ?_
    have S₁ : S false w h₀ Kb cenv K' m' (cmPut cm y v') ([(D, listO acc)] ++ exact1 h₁ wr) h₁ := by
      refine S'.updAll (by rw [exact1_fst, any1_fst]) (fun p hp => ?_) (fun b o hb e => up b o (by rwa [any1_fst] at hb) e)
      obtain ⟨b, hb, rfl⟩ := List.mem_map.mp hp
      obtain ⟨o, e⟩ := hob _ _ st₁ b hb
      exact ⟨o, e, e⟩
    dsimp only
    refine hgo (i + 1) _ v _ _ st₁ ?_
    refine wpAny_assign_Name (wpAny_storeName_cell hks hyk hyc (S₁.x.cell y c hyc) fun h₂ hn hs => ?_)
    have S₂ := S₁.storeC' hyc ⟨c0, hcK⟩ hn hs
    have ecm : (fun z => if z = y then some v else cmPut cm y v' z) = cmPut cm y (some v) := by
      funext z; unfold cmPut; by_cases hz : z = y <;> simp [hz]
    rw [ecm] at S₂
    refine wpAny_tests_nil (br_t rfl ?_)
    refine wpAny_mono (turn i v K' m' acc _ h₂ _ _ hlt hP hK hJ S₂) (fun x s₄ q => ?_) fun _ _ e => e
    obtain ⟨h₃, tk₃, K₃, rfl, g₃, hJ₃⟩ := q
    have S₃ := S₂.grow g₃
    refine wpAny_list_append_plain (plain_of (S₃.has (D, listO acc) (by simp)).1) (fun h₄ hl sb => ?_) (by rw [List.size_toArray]; omega)
    have S₄ : S false w h₀ Kb cenv K₃ m' (cmPut cm y (some v)) ([(D, listO (acc ++ [x]))] ++ exact1 h₁ wr) h₄ := S.upd (l₁ := []) (P' := listO (acc ++ [x])) S₃ (of_plain (by simpa using hl)) fun b o hb q => (sb.2 b hb).trans q
    refine ⟨n + 1 - (i + 1), by omega, i + 1, h₄, tk₃, K₃, m', some v, acc ++ [x], rfl, hlt, by simpa using hacc, rfl, hK.trans g₃.kk, ?_, hJ₃, ?_, ?_⟩
    · cases q : K₃.get? c with
      | none => rfl
      | some o =>
        obtain ⟨o', e', _⟩ := S₂.x.cell y c hyc
        rw [g₃.new c o q hcK] at e'; cases e'
    · refine S₄.updAll (by rw [exact1_fst, any1_fst]) (fun p hp => ?_) (fun b o hb e => e)
      obtain ⟨b, hb, rfl⟩ := List.mem_map.mp hp
      obtain ⟨⟨o, e, _⟩, _⟩ := S₄.has (b, _) (List.mem_append_right _ (List.mem_map.mpr ⟨b, hb, rfl⟩))
      exact ⟨o, e, trivial⟩
    · refine W.frame _ _ _ st₁ fun b hb o e => ?_
      rcases hfp b hb with hb | ⟨o', e'⟩
      · obtain ⟨⟨o₂, e₂, q⟩, _⟩ := S₄.has (b, _) (List.mem_append_right _ (List.mem_map.mpr ⟨b, hb, rfl⟩))
        have q' : h₁.get? b = some o₂ := q
        rw [e] at q'
        cases q'
        exact e₂
      · have e1 := S₁.x.kh _ _ (hK _ _ e')
        rw [e] at e1
        cases e1
        exact S₄.x.kh _ _ (g₃.kk _ _ (hK _ _ e'))
  · have hin : i = n := by omega
    subst hin
    refine W.done _ _ _ st' fun h₁ tk₁ up => ?_
    exact fin K' m' v' acc h₁ tk₁ hK hacc hJ (S'.dropAll fun b o hb e => up b o (by rwa [any1_fst] at hb) e)
end
section
variable {w : World} {A : Around} {E : Value → Shared → Prop} {s : Shared} {env : Env}
theorem comp_startC {elt iter : Expr} {y : Str} {py : Pos} {scope : Scope} {cl : List (Str × Addr)} {pos : Pos} {K : Heap} {m cm : Str → Option Value} {I : Addr} {wr fp : List Addr} {n : Nat} {P : Nat → Value → Prop} {St : Nat → Heap → Prop}
    {h' : Heap} {RR : Value → Addr → Result → Shared → Prop}
    (hcells : ∀ k acc, cellsFrom k scope.names acc = (y, k) :: acc) (hpush : ∀ h, pushCells h scope.names = h.push { cls := .type "cell", data := .cell none }) (hyk : (relabel scope env).names.lookup y = some .cell)
    (hkind : scope.kind = .function) (hclM : AllL (fun p => env.cells.lookup p.1 = some p.2) cl) (hclA : cl.Pairwise fun p q => p.2 ≠ q.2)
    (x : X w K env m cm s.heap) (le : Le s.heap h') (W : Walks prg w A I fp wr n P St) (hob : ∀ i h, St i h → ∀ b ∈ wr, ∃ o, h.get? b = some o) (hfp : ∀ b ∈ fp, b ∈ wr ∨ ∃ o, K.get? b = some o)
    (hgo : ∀ target i (s' : Shared) v (Q' : Unit → Shared → Prop) E', St i s'.heap → Q' () s' → wpAny (model prg w) A (letOwnedTupleGo target (.ref I) v) Q' E' s') (st : St 0 h')
    (hwr : ∀ b ∈ wr, s.heap.get? b = none) (hnd : wr.Pairwise (· ≠ ·)) (hsz : n ≤ sizeLine)
    (J : Nat → Heap → List Value → Prop) (h0 : J 0 K [])
    (turn : ∀ C c i v K₁ m₁ acc R h tk E', i < n → P i v → Le K K₁ → J i K₁ acc → S false w s.heap K (compEnvC scope ((y, c) :: cl) C env) K₁ m₁ (cmPut cm y (some v)) R h →
      wpAny (model prg w) A (eval elt (compEnvC scope ((y, c) :: cl) C env)) (fun x s₄ => ∃ h' tk' K', s₄ = { s with heap := h', toks := tk' } ∧ Grown K₁ h K' h' ∧ J (i + 1) K' (acc ++ [x])) E' { s with heap := h, toks := tk })
    (fin : ∀ D C c K₁ m₁ v₁ ys h tk, Le K K₁ → J n K₁ ys → ys.length ≤ n → S false w s.heap K (compEnvC scope ((y, c) :: cl) C env) K₁ m₁ (cmPut cm y v₁) [(D, listO ys)] h → RR (.ref D) C (.ok .next) { s with heap := h, toks := tk }) :
    wpAny (model prg w) A (newList []) (fun acc s₃ => wpAny (model prg w) A (newFunctionEnv scope env.globals cl [] env.qual none .none (some env)) (fun cenv s₄ =>
      codeAny (model prg w) A (.compStart (.ListComp elt [⟨.Name y py, iter, [], 0⟩] scope pos) 0 (.ref I) acc { cenv with scope := relabel scope env }) (RR acc cenv.locals) s₄) E s₃) E { s with heap := h' } := by
  have hcl : ∀ z c, cl.lookup z = some c → env.cells.lookup z = some c := cl_ok hclM
  refine wpAny_newObj_type ?_
  unfold newFunctionEnv
  refine wpAny_bind (wpAny_alloc ?_)
  refine wpAny_bind (wpAny_layCells _ (fun name kind cells => by cases hkc : kind == NameKind.cell <;> simp [hkc]) _ _ _ _ ?_)
  rw [hcells]
  show wpAny _ _ (do forIn [] PUnit.unit _; pure _) _ _ _
  rw [List.forIn_nil]
  refine wpAny_bind (wpAny_pure (wpAny_pure ?_))
  simp only [hpush, Option.isSome_some, if_true]
  have l1 := le_push h' { cls := .type "list", dict := none, data := .seq ([] : List Value).toArray }
  have hD1 : (h'.push { cls := .type "list", dict := none, data := .seq ([] : List Value).toArray }).get? h'.objs.size = some { cls := .type "list", dict := none, data := .seq ([] : List Value).toArray } := Heap.get?_push_size _ rfl
  generalize hH2 : h'.push { cls := .type "list", dict := none, data := .seq ([] : List Value).toArray } = H2 at l1 hD1 ⊢
  have l2 := le_push H2 { cls := .type "dict", data := .dict #[] }
  have hC2 : (H2.push { cls := .type "dict", data := .dict #[] }).Ns H2.objs.size (fun _ => none) := Heap.Ns.new H2 (.type "dict")
  have eC : (H2.push { cls := .type "dict", data := .dict #[] }).objs.size = H2.objs.size + 1 := Heap.size_push ..
  generalize hH3 : H2.push { cls := .type "dict", data := .dict #[] } = H3 at l2 hC2 eC ⊢
  have l3 := le_push H3 { cls := .type "cell", data := .cell none }
  have hc3 : (H3.push { cls := .type "cell", data := .cell none }).IsCell H3.objs.size none := ⟨_, Heap.get?_push_size _ rfl, rfl⟩
  generalize hH4 : H3.push { cls := .type "cell", data := .cell none } = H4 at l3 hc3 ⊢
  have Cn : H2.get? H2.objs.size = none := none_size _
  have cn : H3.get? H3.objs.size = none := none_size _
  have Dn : h'.get? h'.objs.size = none := none_size _
  generalize H3.objs.size = c at hc3 cn eC ⊢
  generalize H2.objs.size = C at hC2 Cn eC ⊢
  generalize h'.objs.size = D at hD1 Dn ⊢
  have cC : c ≠ C := by omega
  have lA : Le h' H4 := l1.trans (l2.trans l3)
  have lK : Le K H4 := x.kh.trans (le.trans lA)
  have cs : s.heap.get? c = none := le.none (l1.none (l2.none cn))
  have S₀ : S false w s.heap K (compEnvC scope ((y, c) :: cl) C env) K (fun _ => none) (cmPut cm y none) ([(D, listO [])] ++ any1 wr) H4 := by
    have Cs : s.heap.get? C = none := le.none (l1.none Cn)
    have outer : ∀ z d, cl.lookup z = some d → ∃ o, s.heap.get? d = some o := fun z d e => let ⟨o, e', _⟩ := x.cell z d (hcl z d e); ⟨o, e'⟩
    have mem : ∀ z d, ((y, c) :: cl).lookup z = some d → (z = y ∧ d = c) ∨ (z ≠ y ∧ cl.lookup z = some d) := fun z d e => by
      rw [List.lookup_cons] at e
      cases q : z == y with
      | true => rw [q] at e; cases e; exact .inl ⟨by simpa using q, rfl⟩
      | false => rw [q] at e; exact .inr ⟨by simpa using q, e⟩
    refine ⟨⟨hC2.keeps l3, fun z d e => ?_, lK, x.base⟩, le.trans lA, Le.refl _, (fun a o e q => by rw [q] at e; cases e), Cs, x.kh.none Cs, ?_, ?_, ?_, (fun q => nomatch q), ?_⟩
    · rcases mem z d e with ⟨rfl, rfl⟩ | ⟨hz, e⟩
      · simpa [cmPut] using hc3
      · have := (x.cell z d (hcl z d e)).keeps (le.trans lA)
        simpa [cmPut, hz] using this
    · intro p hp
      rcases List.mem_append.mp hp with q | q
      · cases List.mem_singleton.mp q
        have Ds : s.heap.get? D = none := le.none Dn
        refine ⟨⟨_, l3 _ _ (l2 _ _ hD1), 0, rfl⟩, Ds, x.kh.none Ds, fun e => ?_⟩
        have e : D = C := e
        rw [e, Cn] at hD1; cases hD1
      · obtain ⟨b, hb, rfl⟩ := List.mem_map.mp q
        obtain ⟨o, e⟩ := hob _ _ st b hb
        refine ⟨⟨o, lA _ _ e, trivial⟩, hwr b hb, x.kh.none (hwr b hb), fun q => ?_⟩
        have q : b = C := q
        rw [q] at e
        rw [l1 _ _ e] at Cn; cases Cn
    · show ((D, listO []) :: any1 wr).Pairwise _
      refine List.pairwise_cons.mpr ⟨fun p hp => ?_, ?_⟩
      · obtain ⟨b, hb, rfl⟩ := List.mem_map.mp hp
        obtain ⟨o, e⟩ := hob _ _ st b hb
        intro q
        have q : D = b := q
        rw [← q, Dn] at e; cases e
      · exact List.pairwise_map.mpr hnd
    · intro z d hz
      rcases mem z d hz with ⟨rfl, rfl⟩ | ⟨_, hz⟩
      · refine ⟨cC, fun p hp q => ?_⟩
        rcases List.mem_append.mp hp with r | r
        · cases List.mem_singleton.mp r
          have q : D = d := q
          rw [← q] at cn; rw [l2 _ _ hD1] at cn; cases cn
        · obtain ⟨b, hb, rfl⟩ := List.mem_map.mp r
          obtain ⟨o, e⟩ := hob _ _ st b hb
          have q : b = d := q
          rw [← q] at cn; rw [l2 _ _ (l1 _ _ e)] at cn; cases cn
      · obtain ⟨o, e⟩ := outer z d hz
        refine ⟨fun q => ?_, fun p hp q => ?_⟩
        · have q : d = C := q
          rw [q, Cs] at e; cases e
        · rcases List.mem_append.mp hp with r | r
          · cases List.mem_singleton.mp r
            have q : D = d := q
            rw [← q, le.none Dn] at e; cases e
          · obtain ⟨b, hb, rfl⟩ := List.mem_map.mp r
            have q : b = d := q
            rw [← q, hwr b hb] at e; cases e
    · refine List.pairwise_cons.mpr ⟨fun p hp q => ?_, hclA⟩
      have q : c = p.2 := q
      obtain ⟨o, e, _⟩ := x.cell p.1 p.2 (hclM.mem p hp)
      rw [← q, cs] at e; cases e
  have st₁ : St 0 H4 := W.frame _ _ _ st fun b _ o e => lA _ _ e
  have loop : codeAny (model prg w) A (.compLoop (.ListComp elt [⟨.Name y py, iter, [], 0⟩] scope pos) 0 (.ref I) (.ref D) (compEnvC scope ((y, c) :: cl) C env)) (RR (.ref D) C) { s with heap := H4 } := by
    exact comp_loopC W hob hfp (hgo _) (by show ((y, c) :: cl).lookup y = some c; rw [List.lookup_cons]; simp) hyk hkind cs (x.kh.none cs) J S₀ st₁ h0 (turn C c) (fun K₁ m₁ v₁ ys h tk hK hl hJ S₁ => fin D C c K₁ m₁ v₁ ys h tk hK hJ hl S₁) hsz
  exact codeAny_compStart_list loop (W.self 0 _ _ _ st₁ loop)
/-- x = [..] of a frame's own name; the comprehension's own name is a cell -/
theorem Assign_ListComp_KC {oc : Bool} {h₀ Kb : Heap} {own : OwnL} {elt iter : Expr} {y : Str} {py : Pos} {scope : Scope} {cl : List (Str × Addr)} {x : Str} {px pos spos : Pos} {Q : Flow → Shared → Prop}
    (hsw : swapsWith (.ListComp elt [⟨.Name y py, iter, [], 0⟩] scope pos) (some (.Name x px)) spos.line env = pure true)
    (hclos : closureFor scope env = pure cl) (hcells : ∀ k acc, cellsFrom k scope.names acc = (y, k) :: acc) (hpush : ∀ h, pushCells h scope.names = h.push { cls := .type "cell", data := .cell none }) (hyk : (relabel scope env).names.lookup y = some .cell)
    (hkind : scope.kind = .function) (hnames : ∀ y ∈ scope.names, y.2 = .local → scope.names.lookup y.1 = some .local) (hclM : AllL (fun p => env.cells.lookup p.1 = some p.2) cl) (hclA : cl.Pairwise fun p q => p.2 ≠ q.2)
    (hx : env.kindOf x = some .local) (hke : env.scope.kind = .function)
    (h : wpAny (model prg w) A (eval iter env) (fun v s₁ => ∃ (n : Nat) (P : Nat → Value → Prop) (K : Heap) (m cm : Str → Option Value) (J : Nat → Heap → List Value → Prop), Src w A K v n P ∧ S oc w h₀ Kb env K m cm own s₁.heap ∧ n ≤ sizeLine ∧ J 0 K [] ∧
      (∀ C c i v K₁ m₁ acc R h tk E', i < n → P i v → Le K K₁ → J i K₁ acc → S false w s₁.heap K (compEnvC scope ((y, c) :: cl) C env) K₁ m₁ (cmPut cm y (some v)) R h →
        wpAny (model prg w) A (eval elt (compEnvC scope ((y, c) :: cl) C env)) (fun x s₄ => ∃ h' tk' K', s₄ = { s₁ with heap := h', toks := tk' } ∧ Grown K₁ h K' h' ∧ J (i + 1) K' (acc ++ [x])) E' { s₁ with heap := h, toks := tk }) ∧
      (∀ a ys K₁ K₂ h' tk, J n K₁ ys → Le K₁ K₂ → Le K K₂ → S oc w h₀ Kb env K₂ (fun z => if z = x then some (.ref a) else m z) cm own h' → K₂.PlainList a ys.toArray → ys.length ≤ n → Q .next { s₁ with heap := h', toks := tk })) E s)
    (hs : ∀ x, foldedSetIterable iter env x = pure x := by intro _; rfl) :
    wpAny (model prg w) A (exec (.Assign [.Name x px] (.ListComp elt [⟨.Name y py, iter, [], 0⟩] scope pos) spos) env) Q E s := by
  rw [exec_Assign_Name_used _ _ _ _ hsw]
  refine wpAny_bind (wpAny_standAt (wpAny_bind ?_))
  show wpAny _ A (do let _ ← comprehension (.ListComp elt [⟨.Name y py, iter, [], 0⟩] scope pos) scope env _ (newList []) false (eval iter env) (some (assign (.Name x px) env))) _ _ s
  refine wpAny_bind (wpAny_mono (wpAny_comprehension_free (use := some (assign (.Name x px) env)) (Q := fun _ s' => Q .next s') rfl hs hclos hkind hnames
    (wpAny_mono h (fun v s₁ h₁ => ?_) fun _ _ e => e)) (fun _ s' hq => wpAny_pure (wpAny_pure hq)) fun _ _ e => e)
  obtain ⟨n, P, K, m, cm, J, src, T, hsz, h0, turn, fin⟩ := h₁
  refine src s₁ E _ T.x.kh fun I wr fp St h' le W hob hfp hgo st hwr hnd => ?_
  refine comp_startC (s := s₁) (RR := fun acc C => compPost (model prg w) A E (some (assign (.Name x px) env)) (fun _ s' => Q .next s') acc C) hcells hpush hyk hkind hclM hclA T.x le W hob hfp hgo st hwr hnd hsz J h0 turn ?_
  intro D C c K₁ m₁ v₁ ys h tk hK hJ hl S₁
  obtain ⟨K₂, o, S₃, hK₂, hko, hO, _⟩ := S₁.freeze
  have T₁ : S oc w h₀ Kb env K₂ m cm own h := T.grow S₃.grown
  have Cn : s₁.heap.get? C = none := S₃.L0
  have CK : K₂.get? C = none := S₃.LK
  obtain ⟨oC, es, ep, eC, rC⟩ := id S₃.x.ns
  have T₂ : S oc w h₀ Kb env K₂ m cm ((C, fun o => o = oC) :: own) h := by
    refine ⟨T₁.x, T₁.base, T₁.kk, T₁.new, T₁.L0, T₁.LK, fun p hp => ?_, List.pairwise_cons.mpr ⟨fun p hp => ?_, T₁.nd⟩, fun z c hc => ?_, T₁.cellO, T₁.cellA⟩
    · rcases List.mem_cons.mp hp with rfl | hp
      · refine ⟨⟨oC, eC, rfl⟩, T.base.none Cn, CK, fun q => ?_⟩
        obtain ⟨oL, _, _, eL, _⟩ := id T.x.ns
        have q : C = env.locals := q
        rw [← q, Cn] at eL; cases eL
      · exact T₁.has p hp
    · obtain ⟨⟨o', e', _⟩, _⟩ := T.has p hp
      intro q
      have q : C = p.1 := q
      rw [← q, Cn] at e'; cases e'
    · obtain ⟨o', e', _⟩ := T.x.cell z c hc
      obtain ⟨c1, c2⟩ := T₁.cellL z c hc
      refine ⟨c1, fun p hp => ?_⟩
      rcases List.mem_cons.mp hp with rfl | hp
      · intro q
        have q : C = c := q
        rw [← q, Cn] at e'; cases e'
      · exact c2 p hp
  show wpAny _ A (assign (.Name x px) env (.ref D)) _ _ _
  refine wpAny_assign_Name (st_local T₂ (fun h₄ tk₄ T₄ => ?_) hke hx)
  obtain ⟨⟨o₄, e₄, q₄⟩, _⟩ := T₄.has (C, _) List.mem_cons_self
  have q₄ : o₄ = oC := q₄
  subst q₄
  refine ⟨_, ⟨o₄, es, ep, e₄, rC⟩, fun h₅ sb => ?_⟩
  refine fin D ys K₁ K₂ h₅ tk₄ hJ hK₂ S₃.kk ?_ (plain_of ⟨o, hko, hO⟩) hl
  exact S.dropAll (l := [(C, fun o => o = o₄)]) (T₄.perm (List.perm_append_comm (l₁ := own) (l₂ := [(C, fun o => o = o₄)]))) fun b o hb e => (sb.2 b (by simpa using hb)).trans e
end
end Mine
end
section
open PySem PySem.W PyProof.Rows
namespace Mine
abbrev dc2 (kx vx t1 i1 t2 i2 : Expr) (scope : Scope) (pos : Pos) : Expr := .DictComp kx vx [⟨t1, i1, [], 0⟩, ⟨t2, i2, [], 0⟩] scope pos
theorem compTurn_d2o (kx vx t1 i1 t2 i2 : Expr) (scope : Scope) (pos : Pos) (it : Value) (D : Addr) (env : Env) :
    compTurn (dc2 kx vx t1 i1 t2 i2 scope pos) 0 it (.ref D) env = (do
      standAt i1.pos
      match ← pyNext it with
      | none => pure (.done .next)
      | some v =>
        letOwnedTupleGo t1 it v
        assign t1 env v
        let mut ok := true
        for c in ([] : List Expr) do
          if ok then ok ← isTrue c env (eval c env)
        if ok then
          let x ← eval i2 env
          standAt i2.pos
          let x ← foldedSetIterable i2 env x
          let _ ← runOwn (.compStart (dc2 kx vx t1 i1 t2 i2 scope pos) 1 (← holding [x] (pyIter x)) (.ref D) env) env
        again (.compLoop (dc2 kx vx t1 i1 t2 i2 scope pos) 0 it (.ref D) env)) := by rfl
theorem compTurn_d2i (kx vx t1 i1 t2 i2 : Expr) (scope : Scope) (pos : Pos) (it : Value) (D : Addr) (env : Env) :
    compTurn (dc2 kx vx t1 i1 t2 i2 scope pos) 1 it (.ref D) env = (do
      standAt i2.pos
      match ← pyNext it with
      | none => pure (.done .next)
      | some v =>
        letOwnedTupleGo t2 it v
        assign t2 env v
        let mut ok := true
        for c in ([] : List Expr) do
          if ok then ok ← isTrue c env (eval c env)
        if ok then
          (do
            let kv ← eval kx env
            let vv ← holding [kv] (eval vx env)
            standAt { kx.pos with endLine := vx.pos.endLine, endCol := vx.pos.endCol }
            holding [kv, vv] (dictSet D kv vv))
        again (.compLoop (dc2 kx vx t1 i1 t2 i2 scope pos) 1 it (.ref D) env)) := by rfl
theorem mark_of {w : World} {A : Around} {c : Code} {R : Result → Shared → Prop} {s : Shared} (h : codeAny (model prg w) A c R s) : codeAny (model prg w) (A.mark none) c R s := by
  rw [Around.mark_none]; exact h
section
variable {w : World} {A : Around} {E : Value → Shared → Prop} {s : Shared}
theorem compStart_d2i {R : Result → Shared → Prop} {kx vx t1 i1 t2 i2 : Expr} {scope : Scope} {pos : Pos} {it acc : Value} {env : Env}
    (h0 : codeAny (model prg w) A (.compLoop (dc2 kx vx t1 i1 t2 i2 scope pos) 1 it acc env) R s)
    (h : wpAny (model prg w) A (pyIter it) (fun it' s' => codeAny (model prg w) A (.compLoop (dc2 kx vx t1 i1 t2 i2 scope pos) 1 it' acc env) R s')
      (notedBy (model prg w) A env fun x s' => R (.error x) s') s) :
    codeAny (model prg w) A (.compStart (dc2 kx vx t1 i1 t2 i2 scope pos) 1 it acc env) R s := by
  refine codeAny_of_tree ?_
  show wpAny _ A ((compStart (dc2 kx vx t1 i1 t2 i2 scope pos) 1 it acc env).onRaise (fun x => do noteFrame x env; standAt theWindowsPlace)) _ _ s
  refine wpAny_notedAt ?_
  unfold compStart
  show wpAny _ A (ask >>= _) _ _ s
  refine wpAny_bind (wpAny_askSetting (wpAny_ite ?_))
  split
  · first
      | exact wpAny_bind (wpAny_pure (wpAny_pure (And.intro rfl h0)))
      | exact wpAny_pure (And.intro rfl h0)
  · first
      | exact wpAny_bind (wpAny_rule (wpAny_bind (wpAny_standAt (wpAny_bind (wpAny_mono h (fun it' s' h' => wpAny_pure (And.intro rfl h')) fun _ _ x => x)))))
      | (refine wpAny_bind (wpAny_rule ?_); show wpAny _ _ (standAt i2.pos >>= _) _ _ s; exact wpAny_bind (wpAny_standAt (wpAny_bind (wpAny_mono h (fun it' s' h' => wpAny_pure (And.intro rfl h')) fun _ _ x => x))))
theorem d2i_go {R : Result → Shared → Prop} {kx vx t1 i1 t2 i2 : Expr} {scope : Scope} {pos : Pos} {it : Value} {D : Addr} {env : Env} (I : Nat → Shared → Prop)
    (turn : ∀ n s, I n s → wpAny (model prg w) A (pyNext it) (fun r s₁ => match r with
      | none => R (.ok .next) s₁
      | some v => wpAny (model prg w) A (letOwnedTupleGo t2 it v) (fun _ s₁' => wpAny (model prg w) A (assign t2 env v) (fun _ s₃ =>
            wpAny (model prg w) A (eval kx env) (fun kv s₄ => wpAny (model prg w) A (eval vx env) (fun vv s₅ =>
              wpAny (model prg w) A (dictSet D kv vv) (fun _ s₆ => ∃ m, m < n ∧ I m s₆) (notedBy (model prg w) A env fun e s' => R (.error e) s') s₅) (notedBy (model prg w) A env fun e s' => R (.error e) s') s₄) (notedBy (model prg w) A env fun e s' => R (.error e) s') s₃)
            (notedBy (model prg w) A env fun e s' => R (.error e) s') s₁') (notedBy (model prg w) A env fun e s' => R (.error e) s') s₁)
        (notedBy (model prg w) A env fun e s' => R (.error e) s') s)
    (n : Nat) (h : I n s) : codeAny (model prg w) A (.compLoop (dc2 kx vx t1 i1 t2 i2 scope pos) 1 it (.ref D) env) R s := by
  refine codeAny_loop rfl I (fun n s hI => ?_) n h
  show wpAny _ A ((compTurn (dc2 kx vx t1 i1 t2 i2 scope pos) 1 it (.ref D) env).onRaise (fun x => do noteFrame x env; theTreesLotGoes x)) _ _ s
  refine wpAny_noted ?_
  rw [compTurn_d2i]
  refine wpAny_bind (wpAny_standAt (wpAny_bind (wpAny_mono (turn n s hI) (fun r s₁ h₁ => ?_) fun _ _ h' => h')))
  cases r with
  | none => exact wpAny_pure h₁
  | some v =>
    refine wpAny_bind (wpAny_mono h₁ (fun _ s₁' h₁' => ?_) fun _ _ h' => h')
    refine wpAny_bind (wpAny_mono h₁' (fun _ s₃ h₃ => wpAny_bind (wpAny_tests_nil ?_)) fun _ _ h' => h')
    refine wpAny_bind (wpAny_bind (wpAny_mono h₃ (fun kv s₄ h₄ => ?_) fun _ _ h' => h'))
    refine wpAny_bind (wpAny_holding (wpAny_mono h₄ (fun vv s₅ h₅ => ?_) fun _ _ h' => h'))
    refine wpAny_bind (wpAny_standAt (wpAny_holding (wpAny_mono h₅ (fun _ s₆ h₆ => ?_) fun _ _ h' => h')))
    exact wpAny_pure ⟨rfl, h₆⟩
theorem d2o_go {R : Result → Shared → Prop} {kx vx t1 i1 t2 i2 : Expr} {scope : Scope} {pos : Pos} {it : Value} {D : Addr} {env : Env} (I : Nat → Shared → Prop) (hs : ∀ x, foldedSetIterable i2 env x = pure x)
    (turn : ∀ n s, I n s → wpAny (model prg w) A (pyNext it) (fun r s₁ => match r with
      | none => R (.ok .next) s₁
      | some v => wpAny (model prg w) A (letOwnedTupleGo t1 it v) (fun _ s₁' => wpAny (model prg w) A (assign t1 env v) (fun _ s₃ =>
            wpAny (model prg w) A (eval i2 env) (fun x s₄ => wpAny (model prg w) A (pyIter x) (fun it₂ s₅ =>
              codeAny (model prg w) A (.compStart (dc2 kx vx t1 i1 t2 i2 scope pos) 1 it₂ (.ref D) env) (fun r s₆ => match r with
                | .ok _ => ∃ m, m < n ∧ I m s₆
                | .error e => cameBackBy (model prg w) A env (notedBy (model prg w) A env fun e s' => R (.error e) s') e s₆) s₅) (notedBy (model prg w) A env fun e s' => R (.error e) s') s₄) (notedBy (model prg w) A env fun e s' => R (.error e) s') s₃)
            (notedBy (model prg w) A env fun e s' => R (.error e) s') s₁') (notedBy (model prg w) A env fun e s' => R (.error e) s') s₁)
        (notedBy (model prg w) A env fun e s' => R (.error e) s') s)
    (n : Nat) (h : I n s) : codeAny (model prg w) A (.compLoop (dc2 kx vx t1 i1 t2 i2 scope pos) 0 it (.ref D) env) R s := by
  refine codeAny_loop rfl I (fun n s hI => ?_) n h
  show wpAny _ A ((compTurn (dc2 kx vx t1 i1 t2 i2 scope pos) 0 it (.ref D) env).onRaise (fun x => do noteFrame x env; theTreesLotGoes x)) _ _ s
  refine wpAny_noted ?_
  rw [compTurn_d2o]
  refine wpAny_bind (wpAny_standAt (wpAny_bind (wpAny_mono (turn n s hI) (fun r s₁ h₁ => ?_) fun _ _ h' => h')))
  cases r with
  | none => exact wpAny_pure h₁
  | some v =>
    refine wpAny_bind (wpAny_mono h₁ (fun _ s₁' h₁' => ?_) fun _ _ h' => h')
    refine wpAny_bind (wpAny_mono h₁' (fun _ s₃ h₃ => wpAny_bind (wpAny_tests_nil ?_)) fun _ _ h' => h')
    refine wpAny_bind (wpAny_mono h₃ (fun x s₄ h₄ => ?_) fun _ _ h' => h')
    refine wpAny_bind (wpAny_standAt (wpAny_bind (wpAny_of_eq (hs x) ?_)))
    refine wpAny_bind (wpAny_holding (wpAny_mono h₄ (fun it₂ s₅ h₅ => ?_) fun _ _ h' => h'))
    refine wpAny_bind (wpAny_mono (wpAny_runOwn (Q := fun _ s₆ => ∃ m, m < n ∧ I m s₆) (codeAny_mono (mark_of h₅) fun r s₆ h₆ => ?_) (by intro x; cases x)) (fun _ s₆ h₆ => wpAny_pure ⟨rfl, h₆⟩) fun _ _ h' => h')
    cases r with
    | ok f => exact h₆
    | error e => exact h₆
end
section
variable {w : World} {A : Around} {E : Value → Shared → Prop} {s : Shared} {K Kb h₀ : Heap} {cenv : Env} {m cm : Str → Option Value}
theorem d2i_loop {R₀ : Result → Shared → Prop} {kx vx t1 i1 t2 i2 : Expr} {scope : Scope} {pos : Pos} {I D : Addr} {fp wr : List Addr} {n : Nat} {P : Nat → Value → Prop} {St : Nat → Heap → Prop} {R₁ : OwnL} {acc₀ : List (Str × Value)}
    (W : Walks prg w A I fp wr n P St) (hob : ∀ i h, St i h → ∀ b ∈ wr, ∃ o, h.get? b = some o) (hfp : ∀ b ∈ fp, b ∈ wr ∨ ∃ o, K.get? b = some o)
    (hgo : ∀ i (s' : Shared) v (Q' : Unit → Shared → Prop) E', St i s'.heap → Q' () s' → wpAny (model prg w) A (letOwnedTupleGo t2 (.ref I) v) Q' E' s')
    (J : Nat → Heap → (Str → Option Value) → List (Str × Value) → Prop) (S₀ : S false w h₀ Kb cenv K m cm ([(D, dictO w acc₀)] ++ (R₁ ++ any1 wr)) s.heap) (st : St 0 s.heap) (h0 : J 0 K m acc₀)
    (turn : ∀ i v K₁ m₁ acc R h tk E', i < n → P i v → Le K K₁ → J i K₁ m₁ acc → S false w h₀ Kb cenv K₁ m₁ cm R h →
      wpAny (model prg w) A (assign t2 cenv v) (fun _ s₃ => wpAny (model prg w) A (eval kx cenv) (fun kv s₄ => wpAny (model prg w) A (eval vx cenv) (fun vv s₅ => ∃ k t, kv = .str k t ∧
        ∃ h' tk' K' m', s₅ = { s with heap := h', toks := tk' } ∧ Le K₁ K' ∧ J (i + 1) K' m' (stored acc k vv) ∧ S false w h₀ Kb cenv K' m' cm R h') E' s₄) E' s₃) E' { s with heap := h, toks := tk })
    (fin : ∀ K₁ m₁ ys h tk, Le K K₁ → ys.length ≤ acc₀.length + n → J n K₁ m₁ ys → S false w h₀ Kb cenv K₁ m₁ cm ([(D, dictO w ys)] ++ R₁) h → R₀ (.ok .next) { s with heap := h, toks := tk })
    (hsz : acc₀.length + n ≤ sizeLine) :
    codeAny (model prg w) A (.compLoop (dc2 kx vx t1 i1 t2 i2 scope pos) 1 (.ref I) (.ref D) cenv) R₀ s := by
  have asc : ∀ (a : List (Str × Value)) (l : OwnL), [(D, dictO w a)] ++ (R₁ ++ l) = ([(D, dictO w a)] ++ R₁) ++ l := fun a l => (List.append_assoc _ _ _).symm
  rw [asc] at S₀
  refine d2i_go
    (fun k s' => ∃ i h' tk' K' m' acc, s' = { s with heap := h', toks := tk' } ∧ i ≤ n ∧ acc.length ≤ acc₀.length + i ∧ k = n + 1 - i ∧ Le K K' ∧ J i K' m' acc ∧ S false w h₀ Kb cenv K' m' cm (([(D, dictO w acc)] ++ R₁) ++ any1 wr) h' ∧ St i h') ?_ (n + 1)
    ⟨0, s.heap, s.toks, K, m, acc₀, rfl, Nat.zero_le _, Nat.le_refl _, rfl, Le.refl _, h0, S₀, st⟩
  rintro k s' ⟨i, h', tk', K', m', acc, rfl, hi, hacc, rfl, hK, hJ, S', st'⟩
  by_cases hlt : i < n
  · refine W.item i _ _ _ hlt st' fun v h₁ tk₁ hP st₁ up => ?_
    have S₁ : S false w h₀ Kb cenv K' m' cm (([(D, dictO w acc)] ++ R₁) ++ exact1 h₁ wr) h₁ := by
      refine S'.updAll (by rw [exact1_fst, any1_fst]) (fun p hp => ?_) (fun b o hb e => up b o (by rwa [any1_fst] at hb) e)
      obtain ⟨b, hb, rfl⟩ := List.mem_map.mp hp
      obtain ⟨o, e⟩ := hob _ _ st₁ b hb
      exact ⟨o, e, e⟩
    dsimp only
    refine hgo (i + 1) _ v _ _ st₁ ?_
    refine wpAny_mono (turn i v K' m' acc _ h₁ tk₁ _ hlt hP hK hJ S₁) (fun _ s₃ q => wpAny_mono q (fun kv s₄ q => wpAny_mono q (fun vv s₅ q => ?_) fun _ _ e => e) fun _ _ e => e) fun _ _ e => e
    obtain ⟨k, t, rfl, h₂, tk₂, K₂, m₂, rfl, hK₂, hJ₂, S₂⟩ := q
    have S₂' : S false w h₀ Kb cenv K₂ m₂ cm ([] ++ (D, dictO w acc) :: (R₁ ++ exact1 h₁ wr)) h₂ := S₂
    refine wpAny_dictSet_pairs (knd := strKind prg w) (strKind_is _ _ k _) (dict_of (S₂'.has (D, dictO w acc) (by simp)).1) (fun h₃ hl sb => ?_) (by omega)
    have S₃ := S.upd (l₁ := []) (P' := dictO w (stored acc k vv)) S₂' (of_dict hl) fun b o hb q => (sb.2 b hb).trans q
    have S₄ : S false w h₀ Kb cenv K₂ m₂ cm (([(D, dictO w (stored acc k vv))] ++ R₁) ++ exact1 h₁ wr) h₃ := S₃
    refine ⟨n + 1 - (i + 1), by omega, i + 1, h₃, _, K₂, m₂, stored acc k vv, rfl, hlt, Nat.le_trans (stored_length_le acc k vv) (by omega), rfl, hK.trans hK₂, hJ₂, ?_, ?_⟩
    · refine S₄.updAll (by rw [exact1_fst, any1_fst]) (fun p hp => ?_) (fun b o hb e => e)
      obtain ⟨b, hb, rfl⟩ := List.mem_map.mp hp
      obtain ⟨⟨o, e, _⟩, _⟩ := S₄.has (b, _) (List.mem_append_right _ (List.mem_map.mpr ⟨b, hb, rfl⟩))
      exact ⟨o, e, trivial⟩
    · refine W.frame _ _ _ st₁ fun b hb o e => ?_
      rcases hfp b hb with hb | ⟨o', e'⟩
      · obtain ⟨⟨o₂, e₂, q⟩, _⟩ := S₄.has (b, _) (List.mem_append_right _ (List.mem_map.mpr ⟨b, hb, rfl⟩))
        have q' : h₁.get? b = some o₂ := q
        rw [e] at q'
        cases q'
        exact e₂
      · have e1 := S₁.x.kh _ _ (hK _ _ e')
        rw [e] at e1
        cases e1
        exact S₄.x.kh _ _ (hK₂ _ _ (hK _ _ e'))
  · have hin : i = n := by omega
    subst hin
    refine W.done _ _ _ st' fun h₁ tk₁ up => ?_
    exact fin K' m' acc h₁ tk₁ hK hacc hJ (S'.dropAll fun b o hb e => up b o (by rwa [any1_fst] at hb) e)
/-- what a turn of the outer clause must come to -/
def Turn2 (w : World) (A : Around) (Jo : Nat → Heap → List (Str × Value) → Prop) (h₀ Kb : Heap) (cenv : Env) (cm : Str → Option Value) (kx vx t2 : Expr) (s : Shared) (i : Nat) (K₁ : Heap) (acc : List (Str × Value)) (R : OwnL) (x : Value) (s₃ : Shared) : Prop :=
  ∃ (n₂ : Nat) (P₂ : Nat → Value → Prop) (K₂ : Heap) (m₂ : Str → Option Value) (h₂ : Heap) (tk₂ : Nat) (J₂ : Nat → Heap → (Str → Option Value) → List (Str × Value) → Prop),
    s₃ = { s with heap := h₂, toks := tk₂ } ∧ Le K₁ K₂ ∧ Src w A K₂ x n₂ P₂ ∧ S false w h₀ Kb cenv K₂ m₂ cm R h₂ ∧ J₂ 0 K₂ m₂ acc ∧ n₂ ≤ 100 ∧
    (∀ j v K₃ m₃ acc' R' h tk E', j < n₂ → P₂ j v → Le K₂ K₃ → J₂ j K₃ m₃ acc' → S false w h₀ Kb cenv K₃ m₃ cm R' h →
      wpAny (model prg w) A (assign t2 cenv v) (fun _ s₃ => wpAny (model prg w) A (eval kx cenv) (fun kv s₄ => wpAny (model prg w) A (eval vx cenv) (fun vv s₅ => ∃ k t, kv = .str k t ∧
        ∃ h' tk' K' m', s₅ = { s with heap := h', toks := tk' } ∧ Le K₃ K' ∧ J₂ (j + 1) K' m' (stored acc' k vv) ∧ S false w h₀ Kb cenv K' m' cm R' h') E' s₄) E' s₃) E' { s with heap := h, toks := tk }) ∧
    (∀ K₃ m₃ ys, Le K₂ K₃ → J₂ n₂ K₃ m₃ ys → Jo (i + 1) K₃ ys)
theorem d2o_loop {R₀ : Result → Shared → Prop} {kx vx t1 i1 t2 i2 : Expr} {scope : Scope} {pos : Pos} {I D : Addr} {fp wr : List Addr} {n : Nat} {P : Nat → Value → Prop} {St : Nat → Heap → Prop}
    (W : Walks prg w A I fp wr n P St) (hob : ∀ i h, St i h → ∀ b ∈ wr, ∃ o, h.get? b = some o) (hfp : ∀ b ∈ fp, b ∈ wr ∨ ∃ o, K.get? b = some o)
    (hgo : ∀ i (s' : Shared) v (Q' : Unit → Shared → Prop) E', St i s'.heap → Q' () s' → wpAny (model prg w) A (letOwnedTupleGo t1 (.ref I) v) Q' E' s') (hs : ∀ x, foldedSetIterable i2 cenv x = pure x)
    (Jo : Nat → Heap → List (Str × Value) → Prop) (S₀ : S false w h₀ Kb cenv K m cm ([(D, dictO w [])] ++ any1 wr) s.heap) (st : St 0 s.heap) (h0 : Jo 0 K [])
    (turn : ∀ i v K₁ m₁ acc R h tk E', i < n → P i v → Le K K₁ → Jo i K₁ acc → S false w h₀ Kb cenv K₁ m₁ cm R h →
      wpAny (model prg w) A (assign t1 cenv v) (fun _ s₂ => wpAny (model prg w) A (eval i2 cenv) (Turn2 w A Jo h₀ Kb cenv cm kx vx t2 s i K₁ acc R) E' s₂) E' { s with heap := h, toks := tk })
    (fin : ∀ K₁ m₁ ys h tk, Le K K₁ → Jo n K₁ ys → S false w h₀ Kb cenv K₁ m₁ cm [(D, dictO w ys)] h → R₀ (.ok .next) { s with heap := h, toks := tk })
    (hn : n ≤ 100) :
    codeAny (model prg w) A (.compLoop (dc2 kx vx t1 i1 t2 i2 scope pos) 0 (.ref I) (.ref D) cenv) R₀ s := by
  refine d2o_go
    (fun k s' => ∃ i h' tk' K' m' acc, s' = { s with heap := h', toks := tk' } ∧ i ≤ n ∧ acc.length ≤ 100 * i ∧ k = n + 1 - i ∧ Le K K' ∧ Jo i K' acc ∧ S false w h₀ Kb cenv K' m' cm ([(D, dictO w acc)] ++ any1 wr) h' ∧ St i h') hs ?_ (n + 1)
    ⟨0, s.heap, s.toks, K, m, [], rfl, Nat.zero_le _, Nat.le_refl _, rfl, Le.refl _, h0, S₀, st⟩
  rintro k s' ⟨i, h', tk', K', m', acc, rfl, hi, hacc, rfl, hK, hJ, S', st'⟩
  by_cases hlt : i < n
  · refine W.item i _ _ _ hlt st' fun v h₁ tk₁ hP st₁ up => ?_
    have S₁ : S false w h₀ Kb cenv K' m' cm ([(D, dictO w acc)] ++ exact1 h₁ wr) h₁ := by
      refine S'.updAll (by rw [exact1_fst, any1_fst]) (fun p hp => ?_) (fun b o hb e => up b o (by rwa [any1_fst] at hb) e)
      obtain ⟨b, hb, rfl⟩ := List.mem_map.mp hp
      obtain ⟨o, e⟩ := hob _ _ st₁ b hb
      exact ⟨o, e, e⟩
    dsimp only
    refine hgo (i + 1) _ v _ _ st₁ ?_
    refine wpAny_mono (turn i v K' m' acc _ h₁ tk₁ _ hlt hP hK hJ S₁) (fun _ s₂ q => wpAny_mono q (fun x s₃ q => ?_) fun _ _ e => e) fun _ _ e => e
    obtain ⟨n₂, P₂, K₂, m₂, h₂, tk₂, J₂, rfl, hK₂, src, S₂, j0, hn₂, turn₂, fin₂⟩ := q
    refine src _ _ _ S₂.x.kh fun I₂ wr₂ fp₂ St₂ h₃ le₃ W₂ hob₂ hfp₂ hgo₂ st₂ hwr₂ hnd₂ => ?_
    have S₃ : S false w h₀ Kb cenv K₂ m₂ cm ([(D, dictO w acc)] ++ (exact1 h₁ wr ++ any1 wr₂)) h₃ := by
      have T := S₂.more le₃
      have eq : [(D, dictO w acc)] ++ (exact1 h₁ wr ++ any1 wr₂) = ([(D, dictO w acc)] ++ exact1 h₁ wr) ++ any1 wr₂ := (List.append_assoc _ _ _).symm
      rw [eq]
      have old : ∀ b ∈ wr₂, ∀ c, (∃ o, h₂.get? c = some o) → c ≠ b := fun b hb c hc e => by
        obtain ⟨o, eo⟩ := hc
        have := hwr₂ b hb
        rw [← e] at this
        exact absurd (this.symm.trans eo) (by simp)
      refine ⟨T.x, T.base, T.kk, T.new, T.L0, T.LK, fun p hp => ?_, List.pairwise_append.mpr ⟨T.nd, List.pairwise_map.mpr hnd₂, fun p hp q hq => ?_⟩, fun z c hz => ⟨(T.cellL z c hz).1, fun p hp => ?_⟩, T.cellO, T.cellA⟩
      · rcases List.mem_append.mp hp with q | q
        · exact T.has p q
        · obtain ⟨b, hb, rfl⟩ := List.mem_map.mp q
          obtain ⟨o, e⟩ := hob₂ _ _ st₂ b hb
          have fr : h₂.get? b = none := hwr₂ b hb
          refine ⟨⟨o, e, trivial⟩, S₂.base.none fr, S₂.x.kh.none fr, ?_⟩
          obtain ⟨oL, _, _, eL, _⟩ := S₂.x.ns
          exact Ne.symm (old b hb _ ⟨oL, eL⟩)
      · obtain ⟨b, hb, rfl⟩ := List.mem_map.mp hq
        obtain ⟨⟨o, e, _⟩, _⟩ := S₂.has p hp
        exact old b hb _ ⟨o, e⟩
      · rcases List.mem_append.mp hp with q | q
        · exact (T.cellL z c hz).2 p q
        · obtain ⟨b, hb, rfl⟩ := List.mem_map.mp q
          obtain ⟨o, e, _⟩ := S₂.x.cell z c hz
          exact Ne.symm (old b hb _ ⟨o, e⟩)
    have loop : codeAny (model prg w) A (.compLoop (dc2 kx vx t1 i1 t2 i2 scope pos) 1 (.ref I₂) (.ref D) cenv) (fun r s₆ => match r with
        | .ok _ => ∃ m, m < n + 1 - i ∧ ∃ i h' tk' K' m' acc, s₆ = { s with heap := h', toks := tk' } ∧ i ≤ n ∧ acc.length ≤ 100 * i ∧ m = n + 1 - i ∧ Le K K' ∧ Jo i K' acc ∧ S false w h₀ Kb cenv K' m' cm ([(D, dictO w acc)] ++ any1 wr) h' ∧ St i h'
        | .error e => cameBackBy (model prg w) A cenv (notedBy (model prg w) A cenv fun e s' => R₀ (.error e) s') e s₆) { s with heap := h₃, toks := tk₂ } := by
      refine d2i_loop (s := { s with heap := h₃, toks := tk₂ }) W₂ hob₂ hfp₂ (hgo₂ t2) J₂ S₃ st₂ j0 turn₂ (fun K₄ m₄ ys h₄ tk₄ hK₄ hys hJ₄ S₄ => ?_) (by show _ ≤ 16777216; omega)
      refine ⟨n + 1 - (i + 1), by omega, i + 1, h₄, tk₄, K₄, m₄, ys, rfl, hlt, by omega, rfl, hK.trans (hK₂.trans hK₄), fin₂ K₄ m₄ ys hK₄ hJ₄, ?_, ?_⟩
      · refine S₄.updAll (by rw [exact1_fst, any1_fst]) (fun p hp => ?_) (fun b o hb e => e)
        obtain ⟨b, hb, rfl⟩ := List.mem_map.mp hp
        obtain ⟨⟨o, e, _⟩, _⟩ := S₄.has (b, _) (List.mem_append_right _ (List.mem_map.mpr ⟨b, hb, rfl⟩))
        exact ⟨o, e, trivial⟩
      · refine W.frame _ _ _ st₁ fun b hb o e => ?_
        rcases hfp b hb with hb | ⟨o', e'⟩
        · obtain ⟨⟨o₂, e₂, q⟩, _⟩ := S₄.has (b, _) (List.mem_append_right _ (List.mem_map.mpr ⟨b, hb, rfl⟩))
          have q' : h₁.get? b = some o₂ := q
          rw [e] at q'
          cases q'
          exact e₂
        · have e1 := S₁.x.kh _ _ (hK _ _ e')
          rw [e] at e1
          cases e1
          exact S₄.x.kh _ _ (hK₄ _ _ (hK₂ _ _ (hK _ _ e')))
    exact compStart_d2i loop (W₂.self 0 _ _ _ st₂ loop)
  · have hin : i = n := by omega
    subst hin
    refine W.done _ _ _ st' fun h₁ tk₁ up => ?_
    exact fin K' m' acc h₁ tk₁ hK hJ (S'.dropAll fun b o hb e => up b o (by rwa [any1_fst] at hb) e)
end
section
variable {w : World} {A : Around} {E : Value → Shared → Prop} {s : Shared} {env : Env}
/-- the frame of a table's comprehension, its accumulator and its iterator stand -/
theorem dcomp2_start {kx vx t1 i1 t2 i2 : Expr} {scope : Scope} {cl : List (Str × Addr)} {pos : Pos} {K : Heap} {m cm : Str → Option Value} {I : Addr} {wr fp : List Addr} {n : Nat} {P : Nat → Value → Prop} {St : Nat → Heap → Prop}
    {h' : Heap} {RR : Value → Addr → Result → Shared → Prop}
    (hcell : ∀ y ∈ scope.names, y.2 ≠ .cell) (hkind : scope.kind = .function) (hcl : ∀ y c, cl.lookup y = some c → env.cells.lookup y = some c) (hclA : cl.Pairwise fun p q => p.2 ≠ q.2)
    (x : X w K env m cm s.heap) (le : Le s.heap h') (W : Walks prg w A I fp wr n P St) (hob : ∀ i h, St i h → ∀ b ∈ wr, ∃ o, h.get? b = some o) (hfp : ∀ b ∈ fp, b ∈ wr ∨ ∃ o, K.get? b = some o)
    (hgo : ∀ target i (s' : Shared) v (Q' : Unit → Shared → Prop) E', St i s'.heap → Q' () s' → wpAny (model prg w) A (letOwnedTupleGo target (.ref I) v) Q' E' s') (st : St 0 h')
    (hwr : ∀ b ∈ wr, s.heap.get? b = none) (hnd : wr.Pairwise (· ≠ ·)) (hn : n ≤ 100) (hs2 : ∀ (C : Addr) x, foldedSetIterable i2 (compEnvC scope cl C env) x = pure x)
    (J : Nat → Heap → List (Str × Value) → Prop) (h0 : J 0 K [])
    (turn : ∀ C i v K₁ m₁ acc R h tk E', i < n → P i v → Le K K₁ → J i K₁ acc → S false w s.heap K (compEnvC scope cl C env) K₁ m₁ cm R h →
      wpAny (model prg w) A (assign t1 (compEnvC scope cl C env) v) (fun _ s₂ => wpAny (model prg w) A (eval i2 (compEnvC scope cl C env)) (Turn2 w A J s.heap K (compEnvC scope cl C env) cm kx vx t2 s i K₁ acc R) E' s₂) E' { s with heap := h, toks := tk })
    (fin : ∀ D C K₁ m₁ ys h tk, D ≠ 1 → Le K K₁ → J n K₁ ys → S false w s.heap K (compEnvC scope cl C env) K₁ m₁ cm [(D, dictO w ys)] h → RR (.ref D) C (.ok .next) { s with heap := h, toks := tk }) :
    wpAny (model prg w) A newDict (fun acc s₃ => wpAny (model prg w) A (newFunctionEnv scope env.globals cl [] env.qual none .none (some env)) (fun cenv s₄ =>
      codeAny (model prg w) A (.compStart (dc2 kx vx t1 i1 t2 i2 scope pos) 0 (.ref I) acc { cenv with scope := relabel scope env }) (RR acc cenv.locals) s₄) E s₃) E { s with heap := h' } := by
  unfold newDict
  refine wpAny_newObj_type (wpAny_newFunctionEnv hcell (by intro y hy; simp at hy) (fun h₁ hns₁ hsb₁ => ?_) hkind)
  dsimp only at hns₁ hsb₁ ⊢
  have l1 := le_push h' { cls := .type "dict", dict := none, data := .dict #[] }
  have hD1 : (h'.push { cls := .type "dict", dict := none, data := .dict #[] }).get? h'.objs.size = some { cls := .type "dict", dict := none, data := .dict #[] } := Heap.get?_push_size _ rfl
  generalize h'.push { cls := .type "dict", dict := none, data := .dict #[] } = H2 at hns₁ hsb₁ l1 hD1 ⊢
  have l2 : Le H2 h₁ := fun b o e => hsb₁.extBut b o (fun q => by rw [q, none_size] at e; cases e) (Heap.get?_push_of_some _ e)
  have Cn : H2.get? H2.objs.size = none := none_size _
  have Dn : h'.get? h'.objs.size = none := none_size _
  have D1 : h'.objs.size ≠ 1 := size_ne_one (x.base.le (x.kh.trans le))
  generalize H2.objs.size = C at hns₁ Cn ⊢
  generalize h'.objs.size = D at hD1 Dn D1 ⊢
  have lK : Le K h₁ := x.kh.trans (le.trans (l1.trans l2))
  have S₀ : S false w s.heap K (compEnvC scope cl C env) K (fun x => [].reverse.lookup x) cm ([(D, dictO w [])] ++ any1 wr) h₁ := by
    have Cs : s.heap.get? C = none := le.none (l1.none Cn)
    refine ⟨⟨hns₁, fun y c e => (x.cell y c (hcl y c e)).keeps (le.trans (l1.trans l2)), lK, x.base⟩, le.trans (l1.trans l2), Le.refl _, (fun a o e q => by rw [q] at e; cases e), Cs, x.kh.none Cs, ?_, ?_, ?_, (fun q => nomatch q), hclA⟩
    · intro p hp
      rcases List.mem_append.mp hp with q | q
      · cases List.mem_singleton.mp q
        have Ds : s.heap.get? D = none := le.none Dn
        refine ⟨⟨_, l2 _ _ hD1, dict_new⟩, Ds, x.kh.none Ds, fun e => ?_⟩
        have e : D = C := e
        rw [e, Cn] at hD1; cases hD1
      · obtain ⟨b, hb, rfl⟩ := List.mem_map.mp q
        obtain ⟨o, e⟩ := hob _ _ st b hb
        refine ⟨⟨o, l2 _ _ (l1 _ _ e), trivial⟩, hwr b hb, x.kh.none (hwr b hb), fun q => ?_⟩
        have q : b = C := q
        rw [q] at e
        rw [l1 _ _ e] at Cn; cases Cn
    · show ((D, dictO w []) :: any1 wr).Pairwise _
      refine List.pairwise_cons.mpr ⟨fun p hp => ?_, ?_⟩
      · obtain ⟨b, hb, rfl⟩ := List.mem_map.mp hp
        obtain ⟨o, e⟩ := hob _ _ st b hb
        intro q
        have q : D = b := q
        rw [← q, Dn] at e; cases e
      · exact List.pairwise_map.mpr hnd
    · intro y c hc
      obtain ⟨o, e, _⟩ := x.cell y c (hcl y c hc)
      refine ⟨fun q => ?_, fun p hp q => ?_⟩
      · have q : c = C := q
        rw [q, Cs] at e; cases e
      · rcases List.mem_append.mp hp with r | r
        · cases List.mem_singleton.mp r
          have q : D = c := q
          rw [← q, le.none Dn] at e; cases e
        · obtain ⟨b, hb, rfl⟩ := List.mem_map.mp r
          have q : b = c := q
          rw [← q, hwr b hb] at e; cases e
  have st₁ : St 0 h₁ := W.frame _ _ _ st fun b _ o e => l2 _ _ (l1 _ _ e)
  have loop : codeAny (model prg w) A (.compLoop (dc2 kx vx t1 i1 t2 i2 scope pos) 0 (.ref I) (.ref D) (compEnvC scope cl C env)) (RR (.ref D) C) { s with heap := h₁, toks := s.toks + ([] : List (Str × Value)).length } := by
    exact d2o_loop W hob hfp (hgo t1) (hs2 C) J S₀ st₁ h0 (turn C) (fun K₁ m₁ ys h tk hK hJ S₁ => fin D C K₁ m₁ ys h tk D1 hK hJ S₁) hn
  exact codeAny_compStart_dict loop (W.self 0 _ _ _ st₁ loop)
/-- a list comprehension as a value -/
theorem DictComp2_K {kx vx t1 i1 t2 i2 : Expr} {scope : Scope} {cl : List (Str × Addr)} {pos : Pos} {Q : Value → Shared → Prop}
    (hclos : closureFor scope env = pure cl) (hcell : ∀ y ∈ scope.names, y.2 ≠ .cell) (hkind : scope.kind = .function)
    (hnames : ∀ y ∈ scope.names, y.2 = .local → scope.names.lookup y.1 = some .local) (hcl : ∀ y c, cl.lookup y = some c → env.cells.lookup y = some c) (hclA : cl.Pairwise fun p q => p.2 ≠ q.2)
    (h : wpAny (model prg w) A (eval i1 env) (fun v s₁ => ∃ (n : Nat) (P : Nat → Value → Prop) (K : Heap) (m cm : Str → Option Value) (J : Nat → Heap → List (Str × Value) → Prop), Src w A K v n P ∧ X w K env m cm s₁.heap ∧ n ≤ 100 ∧ J 0 K [] ∧
      (∀ C i v K₁ m₁ acc R h tk E', i < n → P i v → Le K K₁ → J i K₁ acc → S false w s₁.heap K (compEnvC scope cl C env) K₁ m₁ cm R h →
        wpAny (model prg w) A (assign t1 (compEnvC scope cl C env) v) (fun _ s₂ => wpAny (model prg w) A (eval i2 (compEnvC scope cl C env)) (Turn2 w A J s₁.heap K (compEnvC scope cl C env) cm kx vx t2 s₁ i K₁ acc R) E' s₂) E' { s₁ with heap := h, toks := tk }) ∧
      (∀ a ys K₁ K₂ h' tk, J n K₁ ys → Le K₁ K₂ → Grown K s₁.heap K₂ h' → K₂.DictOf (strKind prg w) a ys → K.get? a = none → a ≠ 1 → Q (.ref a) { s₁ with heap := h', toks := tk })) E s)
    (hs : ∀ x, foldedSetIterable i1 env x = pure x := by intro _; rfl) (hs2 : ∀ (C : Addr) x, foldedSetIterable i2 (compEnvC scope cl C env) x = pure x := by intro _ _; rfl) :
    wpAny (model prg w) A (eval (dc2 kx vx t1 i1 t2 i2 scope pos) env) Q E s := by
  rw [arm_eval_DictComp]
  refine wpAny_comprehension_free (use := none) rfl hs hclos hkind hnames (wpAny_mono h (fun v s₁ h₁ => ?_) fun _ _ e => e)
  obtain ⟨n, P, K, m, cm, J, src, x, hn, h0, turn, fin⟩ := h₁
  refine src s₁ E _ x.kh fun I wr fp St h' le W hob hfp hgo st hwr hnd => ?_
  refine dcomp2_start (s := s₁) (RR := fun acc C => compPost (model prg w) A E none Q acc C) hcell hkind hcl hclA x le W hob hfp hgo st hwr hnd hn hs2 J h0 turn ?_
  intro D C K₁ m₁ ys h tk D1 hK hJ S₁
  refine ⟨m₁, S₁.x.ns, fun h'' sb => ?_⟩
  obtain ⟨K₂, o, S₃, hK₂, hko, hO, _⟩ := S₁.freeze
  have LK : K₂.get? C = none := S₃.LK
  have L0 : s₁.heap.get? C = none := S₃.L0
  have ne : ∀ b o, K₂.get? b = some o → b ≠ C := fun b o e q => by rw [q, LK] at e; cases e
  have ne0 : ∀ b o, s₁.heap.get? b = some o → b ≠ C := fun b o e q => by rw [q, L0] at e; cases e
  refine fin D ys K₁ K₂ h'' tk hJ hK₂ ⟨fun b o e => (sb.2 b (ne0 b o e)).trans (S₃.base _ _ e), S₃.kk, fun b o e => (sb.2 b (ne b o e)).trans (S₃.x.kh _ _ e), S₃.new⟩ (dict_of ⟨o, hko, hO⟩) ?_ ?_
  · exact x.kh.none (S₁.has (D, dictO w ys) (by simp)).2.1
  · exact D1
end
end Mine
end
section
open PySem PySem.W PyProof.Rows
namespace Mine
/-- what a call of a plain def is, as a run -/
theorem call_defC {w : World} {A : Around} {R : Result → Shared → Prop} {s : Shared} {K : Heap} {n : Nat} {a : Addr} {o : Obj} {fd : FuncData} {body : List Stmt} {vals : List Value} {binds : List (Str × Value)}
    (hA : AOk (n + 1) A) (hB : Base w K) (hle : Le K s.heap) (ho : K.get? a = some o) (hdata : o.data = .func fd) (hcd : K.CodeRec fd.code fd.qualname)
    (hbody : fd.body = .stmts body) (hbind : bindArgs fd ⟨vals, []⟩ = pure binds)
    (hkind : kindsOk fd.scope.names (binds.map (·.1)) = true)
    (h : ∀ h₁ tk, AOk n (A.deeper (callEnvC fd s.heap.objs.size a)) →
      S true w s.heap K (callEnvC fd s.heap.objs.size a) K (bindL (callEnvC fd s.heap.objs.size a).kindOf binds fun _ => none) (bindC (callEnvC fd s.heap.objs.size a).kindOf binds fun _ => none) [] h₁ →
      wpAny (model prg w) (A.deeper (callEnvC fd s.heap.objs.size a)) (execs body (callEnvC fd s.heap.objs.size a)) (fun f s' => R (.ok (.ret (match f with | .ret v => v | _ => .none))) s') (fun _ _ => False) { s with heap := h₁, toks := tk })
    (hclo : fd.closure = [] := by rfl) (hco : fd.scope.isCoroutine = false := by rfl) (hgen : fd.scope.isGenerator = false := by rfl) (hk : fd.scope.kind = .function := by rfl) :
    codeAny (model prg w) A (.call (.ref a) ⟨vals, []⟩) R s := by
  refine codeAny_call_cells (by have := hA.depth; show A.depth < 1000; omega) (hle _ _ ho) hdata (hB.nolim.keeps hle) (hcd.keeps hle) hbody hbind hclo (kinds_of hkind) (fun s₁ x => ?_) hco hgen hk
  obtain ⟨⟨⟨h₁, tk, rfl⟩, ns, keep, fresh⟩, cell, apart, above⟩ := x
  have hL : (callEnvC fd s.heap.objs.size a).locals = s.heap.objs.size := rfl
  have none_ge : ∀ b, s.heap.objs.size ≤ b → s.heap.get? b = none := fun b hb => by
    cases q : s.heap.get? b with
    | none => rfl
    | some o' => exact absurd (Heap.lt_size q) (Nat.not_lt.mpr hb)
  have cge : ∀ y c, (callEnvC fd s.heap.objs.size a).cells.lookup y = some c → s.heap.objs.size < c := fun y c hc => above y c (mem_of_lookup hc)
  refine wpAny_mono (h h₁ tk (hA.deeper _) ⟨⟨ns, cell, hle.trans keep, hB⟩, keep, Le.refl _, (fun a o e n => by rw [n] at e; cases e), none_ge _ (Nat.le_of_eq hL.symm), hle.none (none_ge _ (Nat.le_of_eq hL.symm)), fun p hp => (nomatch hp), List.Pairwise.nil, ?_, ?_, apart⟩) (fun f s' q => q) fun _ _ e => e.elim
  · exact fun y c hc => ⟨Nat.ne_of_gt (cge y c hc), fun p hp => (nomatch hp)⟩
  · exact fun _ y c hc => ⟨none_ge _ (Nat.le_of_lt (cge y c hc)), hle.none (none_ge _ (Nat.le_of_lt (cge y c hc)))⟩
/-- fresh objects become own, all at once -/
theorem S.pushAll {oc : Bool} {w : World} {h₀ Kb K h h' : Heap} {env : Env} {m cm : Str → Option Value} {own l : OwnL} (x : S oc w h₀ Kb env K m cm own h) (g : Le h h') (hl : ∀ p ∈ l, (∃ o, h'.get? p.1 = some o ∧ p.2 o) ∧ h.get? p.1 = none) (nd : l.Pairwise fun p q => p.1 ≠ q.1) :
    S oc w h₀ Kb env K m cm (own ++ l) h' := by
  have T := x.more g
  have old : ∀ p ∈ l, ∀ c, (∃ o, h.get? c = some o) → c ≠ p.1 := fun p hp c hc e => by
    obtain ⟨o, eo⟩ := hc
    have := (hl p hp).2
    rw [← e] at this
    exact absurd (this.symm.trans eo) (by simp)
  refine ⟨T.x, T.base, T.kk, T.new, T.L0, T.LK, fun p hp => ?_, List.pairwise_append.mpr ⟨T.nd, nd, fun p hp q hq => ?_⟩, fun z c hz => ⟨(T.cellL z c hz).1, fun p hp => ?_⟩, T.cellO, T.cellA⟩
  · rcases List.mem_append.mp hp with q | q
    · exact T.has p q
    · refine ⟨(hl p q).1, x.base.none (hl p q).2, x.x.kh.none (hl p q).2, ?_⟩
      obtain ⟨oL, _, _, eL, _⟩ := x.x.ns
      exact Ne.symm (old p q _ ⟨oL, eL⟩)
  · obtain ⟨⟨o, e, _⟩, _⟩ := x.has p hp
    exact old q hq _ ⟨o, e⟩
  · rcases List.mem_append.mp hp with q | q
    · exact (T.cellL z c hz).2 p q
    · obtain ⟨o, e, _⟩ := x.x.cell z c hz
      exact Ne.symm (old p q _ ⟨o, e⟩)
section
variable {w : World} {A : Around} {E : Value → Shared → Prop} {s : Shared} {env : Env}
/-- a list comprehension as a value -/
theorem ListComp_K2 {elt target iter : Expr} {ifs : List Expr} {scope : Scope} {cl : List (Str × Addr)} {pos : Pos} {Q : Value → Shared → Prop}
    (hclos : closureFor scope env = pure cl) (hcell : ∀ y ∈ scope.names, y.2 ≠ .cell) (hkind : scope.kind = .function)
    (hnames : ∀ y ∈ scope.names, y.2 = .local → scope.names.lookup y.1 = some .local) (hcl : ∀ y c, cl.lookup y = some c → env.cells.lookup y = some c) (hclA : cl.Pairwise fun p q => p.2 ≠ q.2)
    (h : wpAny (model prg w) A (eval iter env) (fun v s₁ => ∃ (n : Nat) (P : Nat → Value → Prop) (K : Heap) (m cm : Str → Option Value) (J : Nat → Heap → List Value → Prop), Src w A K v n P ∧ X w K env m cm s₁.heap ∧ n ≤ sizeLine ∧ J 0 K [] ∧
      (∀ C i v K₁ m₁ acc R h tk E', i < n → P i v → Le K K₁ → J i K₁ acc → S false w s₁.heap K (compEnvC scope cl C env) K₁ m₁ cm R h →
        wpAny (model prg w) A (assign target (compEnvC scope cl C env) v) (fun _ s₂ => wpAny (model prg w) A (tests (compEnvC scope cl C env) ifs) (fun ok s₃ =>
          if ok = true then wpAny (model prg w) A (eval elt (compEnvC scope cl C env)) (fun y s₄ => CompEnd w (J (i + 1)) s₁.heap K (compEnvC scope cl C env) cm K₁ R s₁ (acc ++ [y]) s₄) E' s₃
          else CompEnd w (J (i + 1)) s₁.heap K (compEnvC scope cl C env) cm K₁ R s₁ acc s₃) E' s₂) E' { s₁ with heap := h, toks := tk }) ∧
      (∀ a ys K₁ K₂ h' tk, J n K₁ ys → Le K K₁ → Le K₁ K₂ → Grown K s₁.heap K₂ h' → K₂.PlainList a ys.toArray → K₁.get? a = none → ys.length ≤ n → Q (.ref a) { s₁ with heap := h', toks := tk })) E s)
    (hs : ∀ x, foldedSetIterable iter env x = pure x := by intro _; rfl) :
    wpAny (model prg w) A (eval (.ListComp elt [⟨target, iter, ifs, 0⟩] scope pos) env) Q E s := by
  rw [eval_ListComp]
  refine wpAny_comprehension_free (use := none) rfl hs hclos hkind hnames (wpAny_mono h (fun v s₁ h₁ => ?_) fun _ _ e => e)
  obtain ⟨n, P, K, m, cm, J, src, x, hsz, h0, turn, fin⟩ := h₁
  refine src s₁ E _ x.kh fun I wr fp St h' le W hob hfp hgo st hwr hnd => ?_
  refine comp_start (s := s₁) (RR := fun acc C => compPost (model prg w) A E none Q acc C) hcell hkind hcl hclA x le W hob hfp hgo st hwr hnd hsz J h0 turn ?_
  intro D C K₁ m₁ ys h tk hK hJ hl S₁
  refine ⟨m₁, S₁.x.ns, fun h'' sb => ?_⟩
  obtain ⟨K₂, o, S₃, hK₂, hko, hO, _⟩ := S₁.freeze
  have LK : K₂.get? C = none := S₃.LK
  have L0 : s₁.heap.get? C = none := S₃.L0
  have ne : ∀ b o, K₂.get? b = some o → b ≠ C := fun b o e q => by rw [q, LK] at e; cases e
  have ne0 : ∀ b o, s₁.heap.get? b = some o → b ≠ C := fun b o e q => by rw [q, L0] at e; cases e
  refine fin D ys K₁ K₂ h'' tk hJ hK hK₂ ⟨fun b o e => (sb.2 b (ne0 b o e)).trans (S₃.base _ _ e), S₃.kk, fun b o e => (sb.2 b (ne b o e)).trans (S₃.x.kh _ _ e), S₃.new⟩ (plain_of ⟨o, hko, hO⟩) ?_ hl
  exact (S₁.has (D, listO ys) (by simp)).2.2.1
end
abbrev Host := List Str × Int
def jn (p : Host) : Str := joinF p.1
def HostOk (p : Host) : Prop := p.1 ≠ [] ∧ jn p ∈ U ∧ (p.1.map (·.length)).sum + p.1.length ≤ 1000 ∧ (0 ≤ p.2 ∧ p.2 ≤ 4095) ∧ ladderF p.1 = climbF (jn p)
def rightsF (H : List Host) : List (Str × Int) := H.foldl (fun d p => putD d (jn p) p.2) []
def climbsF (H : List Host) : List (List Str) := H.map fun p => climbF (jn p)
/-- the climbed lists so far -/
def JClimb (K₀ : Heap) (H : List Host) (i : Nat) (K' : Heap) (acc : List Value) : Prop := ∃ ps : Seqs, acc = refsS ps ∧ strsS ps = (climbsF H).take i ∧ okS ps ∧ (∀ p ∈ ps, K'.PlainList p.1 p.2.1.toArray ∧ K₀.get? p.1 = none) ∧ (ps.map (·.1)).Pairwise (· ≠ ·)
theorem climb_len {x : Str} (hx : x ∈ U) : (climbF x).length ≤ 20 := by
  have : U.all (fun x => decide ((climbF x).length ≤ 20)) = true := by decide +kernel
  have := List.all_eq_true.mp this x hx
  simpa using this
theorem JClimb.more {K₀ K₁ K₂ : Heap} {H : List Host} {i : Nat} {acc : List Value} {p : Host} {a : Addr} {vs : List Value} (x : JClimb K₀ H i K₁ acc) (hp : H[i]? = some p) (hU : jn p ∈ U) (l : Le K₁ K₂) (l0 : Le K₀ K₁) (pl : K₂.PlainList a vs.toArray) (hv : Rel2 IsS vs (climbF (jn p))) (kn : K₁.get? a = none) :
    JClimb K₀ H (i + 1) K₂ (acc ++ [.ref a]) := by
  obtain ⟨ps, e1, e2, e3, e4, e5⟩ := x
  refine ⟨ps ++ [(a, vs, climbF (jn p))], ?_, ?_, ?_, ?_, ?_⟩
  · rw [e1]; simp [refsS]
  · have : (climbsF H)[i]? = some (climbF (jn p)) := by simp [climbsF, hp]
    rw [take_succ this, ← e2]; simp [strsS]
  · intro q hq
    rcases List.mem_append.mp hq with r | r
    · exact e3 q r
    · cases List.mem_singleton.mp r
      exact ⟨hv, by rw [hv.length]; have := climb_len hU; omega⟩
  · intro q hq
    rcases List.mem_append.mp hq with r | r
    · exact ⟨pl_le (e4 q r).1 l, (e4 q r).2⟩
    · cases List.mem_singleton.mp r
      exact ⟨pl, l0.none kn⟩
  · rw [List.map_append, List.pairwise_append]
    refine ⟨e5, List.pairwise_singleton _ _, fun b hb c hc => ?_⟩
    cases List.mem_singleton.mp hc
    obtain ⟨q, hq, rfl⟩ := List.mem_map.mp hb
    obtain ⟨n, e⟩ := (e4 q hq).1
    intro r
    have r : q.1 = a := r
    rw [r, kn] at e; cases e
theorem rights_bound {H : List Host} (hH : ∀ p ∈ H, HostOk p) (r : Str) : 0 ≤ (lookD (rightsF H) r).getD 4095 ∧ (lookD (rightsF H) r).getD 4095 ≤ 4095 := by
  have : ∀ (l : List Host) (d : List (Str × Int)), (∀ p ∈ l, HostOk p) → (0 ≤ (lookD d r).getD 4095 ∧ (lookD d r).getD 4095 ≤ 4095) → (0 ≤ (lookD (l.foldl (fun d p => putD d (jn p) p.2) d) r).getD 4095 ∧ (lookD (l.foldl (fun d p => putD d (jn p) p.2) d) r).getD 4095 ≤ 4095) := by
    intro l
    induction l with
    | nil => intro d _ h; exact h
    | cons p q ih =>
      intro d hq h
      refine ih _ (fun x hx => hq x (List.mem_cons_of_mem _ hx)) ?_
      rw [lookD_put]
      have := hq p List.mem_cons_self
      by_cases e : r = jn p
      · rw [if_pos e]; exact this.2.2.2.1
      · rw [if_neg e]; exact h
  exact this H [] hH (by simp [lookD])
theorem list_more {K K' : Heap} {line : List Str} {j : Nat} {r : Str} {acc : List Value} {v : Value} {f : Str → Str} (h : Rel2 (LPS K) acc ((line.take j).map fun r => (r, f r))) (l : Le K K') (hr : line[j]? = some r) (hv : LPS K' v (r, f r)) :
    Rel2 (LPS K') (acc ++ [v]) ((line.take (j + 1)).map fun r => (r, f r)) := by
  rw [take_succ hr, List.map_append]
  exact (lps_le h l).append (.cons hv .nil)
theorem climbs_more {K K' : Heap} {H : List Host} {j : Nat} {p : Host} {acc : List Value} {v : Value} (h : Rel2 (LStr K) acc ((climbsF H).take j)) (l : Le K K') (hp : H[j]? = some p) (hv : LStr K' v (climbF (jn p))) :
    Rel2 (LStr K') (acc ++ [v]) ((climbsF H).take (j + 1)) := by
  have : (climbsF H)[j]? = some (climbF (jn p)) := by simp [climbsF, hp]
  rw [take_succ this]
  exact (ll_le h l).append (.cons hv .nil)
theorem climbs_ok {H : List Host} (hH : ∀ p ∈ H, HostOk p) : (∀ ld ∈ climbsF H, ld ≠ []) ∧ ∀ ld ∈ climbsF H, ld.length ≤ 100 := by
  constructor
  · intro ld hl
    obtain ⟨p, hp, rfl⟩ := List.mem_map.mp hl
    rw [climb_eq (hH p hp).2.1]; simp
  · intro ld hl
    obtain ⟨p, hp, rfl⟩ := List.mem_map.mp hl
    have := climb_len (hH p hp).2.1
    omega
def abIn (ld : List Str) (j : Nat) (d : List (Str × Str)) : List (Str × Str) := (List.range j).foldl (fun d k => putD d ((ld[k]?).getD (Str.ofString "")) ((ld[k + 1]?).getD (Str.ofString ""))) d
def abF (lads : List (List Str)) : List (Str × Str) := lads.foldl (fun d ld => abIn ld (ld.length - 1) d) []
theorem abIn_succ (ld : List Str) (j : Nat) (d : List (Str × Str)) : abIn ld (j + 1) d = putD (abIn ld j d) ((ld[j]?).getD (Str.ofString "")) ((ld[j + 1]?).getD (Str.ofString "")) := by
  unfold abIn; rw [List.range_succ, List.foldl_append]; rfl
theorem ab_next {lads : List (List Str)} {i : Nat} {ld : List Str} (h : lads[i]? = some ld) : abF (lads.take (i + 1)) = abIn ld (ld.length - 1) (abF (lads.take i)) := by
  unfold abF; rw [foldl_take h]
def LTable (K : Heap) (v : Value) (p : List Str × Int) : Prop := ∃ a g t vg, v = .ref a ∧ Tup K a [.ref g, .int p.2 t] ∧ K.PlainList g vg.toArray ∧ Rel2 IsS vg p.1
theorem LTable.le {K K' : Heap} {v : Value} {p : List Str × Int} (x : LTable K v p) (l : Le K K') : LTable K' v p := let ⟨a, g, t, vg, e, tp, pl, r⟩ := x; ⟨a, g, t, vg, e, tp.le l, pl_le pl l, r⟩
theorem lt_le {K K' : Heap} {us : List Value} {ls : List (List Str × Int)} (x : Rel2 (LTable K) us ls) (l : Le K K') : Rel2 (LTable K') us ls := x.mono fun _ _ q => q.le l
abbrev TabK := Nat → List Str × Int
theorem rng_more {α : Type} {P P' : Value → α → Prop} {acc : List Value} {j : Nat} {v : Value} {f : Nat → α} (h : Rel2 P acc ((List.range j).map f)) (l : ∀ v a, P v a → P' v a) (hv : P' v (f j)) : Rel2 P' (acc ++ [v]) ((List.range (j + 1)).map f) := by
  rw [List.range_succ, List.map_append]
  exact (h.mono l).append (.cons hv .nil)
def sumL (T : TabK) (r : Str) (j : Nat) : List Int := ((List.range j).filter fun k => decide (r ∈ (T k).1)).map fun k : Nat => (2 : Int) ^ (k : Int).toNat
theorem sumL_t {T : TabK} {r : Str} {j : Nat} {acc : List Value} {v : Value} (h : Rel2 IsI acc (sumL T r j)) (hr : r ∈ (T j).1) (hv : IsI v ((2 : Int) ^ (j : Int).toNat)) : Rel2 IsI (acc ++ [v]) (sumL T r (j + 1)) := by
  unfold sumL at h ⊢
  rw [List.range_succ, List.filter_append, List.map_append, List.filter_cons_of_pos (by simpa using hr)]
  exact h.append (.cons hv .nil)
theorem sumL_f {T : TabK} {r : Str} {j : Nat} {acc : List Value} (h : Rel2 IsI acc (sumL T r j)) (hr : ¬ r ∈ (T j).1) : Rel2 IsI acc (sumL T r (j + 1)) := by
  unfold sumL at h ⊢
  rw [List.range_succ, List.filter_append, List.map_append, List.filter_cons_of_neg (by simpa using hr)]
  simpa using h
def bitF (ch : List (Str × Int)) (k : Nat) (r : Str) : Bool := ((chF ch r).fdiv ((2 : Int) ^ (k : Int).toNat)).fmod 2 != 0
theorem bit_t {ch : List (Str × Int)} {k j : Nat} {line : List Str} {r : Str} {acc : List Value} {v : Value} (h : Rel2 IsS acc ((line.take j).filter (bitF ch k))) (hr : line[j]? = some r) (hb : bitF ch k r = true) (hv : IsS v r) : Rel2 IsS (acc ++ [v]) ((line.take (j + 1)).filter (bitF ch k)) := by
  rw [take_succ hr, List.filter_append, List.filter_cons_of_pos hb]
  exact h.append (.cons hv .nil)
theorem bit_f {ch : List (Str × Int)} {k j : Nat} {line : List Str} {r : Str} {acc : List Value} (h : Rel2 IsS acc ((line.take j).filter (bitF ch k))) (hr : line[j]? = some r) (hb : bitF ch k r = false) : Rel2 IsS acc ((line.take (j + 1)).filter (bitF ch k)) := by
  rw [take_succ hr, List.filter_append, List.filter_cons_of_neg (by rw [hb]; exact Bool.false_ne_true)]
  simpa using h
theorem ab_put {acc : List (Str × Value)} {ld : List Str} {j : Nat} {d : List (Str × Str)} {k : Str} {v : Value} {y : Str} (h : RelD IsS acc (abIn ld j d)) (hk : ld[j]? = some k) (hy : ld[j + 1]? = some y) (hv : IsS v y) : RelD IsS (stored acc k v) (abIn ld (j + 1) d) := by
  rw [abIn_succ, hk, hy]
  exact RelD.put h hv
theorem sumL_bound (T : TabK) (r : Str) : ∀ j, 0 ≤ (sumL T r j).sum ∧ (sumL T r j).sum ≤ (2 : Int) ^ j - 1 := by
  intro j
  induction j with
  | zero => exact ⟨Int.le_refl _, Int.le_refl _⟩
  | succ j ih =>
    unfold sumL at ih ⊢
    rw [List.range_succ, List.filter_append, List.map_append, List.sum_append]
    have e : (2 : Int) ^ (j + 1) = 2 ^ j + 2 ^ j := by rw [Int.pow_succ]; omega
    have p : (0 : Int) < 2 ^ j := Int.pow_pos (by decide)
    by_cases h : r ∈ (T j).1
    · rw [List.filter_cons_of_pos (by simpa using h)]
      simp only [List.filter_nil, List.map_cons, List.map_nil, List.sum_cons, List.sum_nil]
      rw [show ((j : Int)).toNat = j from Int.toNat_natCast j]
      omega
    · rw [List.filter_cons_of_neg (by simpa using h)]
      simp only [List.filter_nil, List.map_nil, List.sum_nil]
      omega
theorem pow12 : ∀ j < 12, 0 < (2 : Int) ^ ((j : Nat) : Int).toNat ∧ (2 : Int) ^ ((j : Nat) : Int).toNat ≤ 4096 := by decide
def tabsF (H : List Host) : TabK := fun k => tableF (rightsF H) (abF (climbsF H)) ((2 : Int) ^ (k : Int).toNat) (orderF (climbsF H))
theorem rng_get {T : TabK} {j : Nat} (h : j < 12) : ((List.range 12).map T)[j]? = some (T j) := by
  rw [List.getElem?_map, List.getElem?_range h]; rfl
end Mine
end
section
open PySem PySem.W PyProof.Rows
namespace Mine
theorem rights_next {H : List Host} {i : Nat} {p : Host} {kvs : List (Str × Value)} {v : Value} (hp : H[i]? = some p) (h : RelD IsI kvs (rightsF (H.take i))) (hv : IsI v p.2) : RelD IsI (stored kvs (jn p) v) (rightsF (H.take (i + 1))) := by
  unfold rightsF; rw [foldl_take hp]; exact RelD.put h hv
theorem ab_zero {acc : List (Str × Value)} {ld : List Str} {d : List (Str × Str)} (h : RelD IsS acc d) : RelD IsS acc (abIn ld 0 d) := h
theorem get_ex {α : Type} {l : List α} {j : Nat} (h : j < l.length) : ∃ y, l[j]? = some y := ⟨l[j], List.getElem?_eq_getElem h⟩
theorem plain_ex {h : Heap} {a : Addr} {vs : List Value} (x : h.PlainList a vs.toArray) : ∃ o, h.get? a = some o ∧ listO vs o := of_plain x
theorem eq_ret {α : Type} [DecidableEq α] {xs ys : List α} {R : Result → Shared → Prop} {s : Shared} (e : xs = ys) (h : R (.ok (.ret (.bool true))) s) : R (.ok (.ret (.bool (decide (xs = ys))))) s := by
  rw [decide_eq_true e]; exact h
section
variable {w : World} {A : Around} {s : Shared} {K : Heap} {n : Nat}
set_option maxHeartbeats 4000000 in
theorem law_walk {l : Addr} {vs : List Value} {ns : List Int} {mg : Str → Option Value} {line : List Str} {R : Result → Shared → Prop} (hA : AOk (n + 6) A) (hB : Base w K) (hle : Le K s.heap) (hl : K.IsList l vs.toArray) (hr : Rel2 IsI vs ns) (hsz : vs.length ≤ 63)
    (hmg : K.Ns mainGlobals mg) (hbA : K.BuiltinsAt mg 125) (h125 : s.heap.get? 125 = some (tabObj #[])) (hk125 : K.get? 125 = none)
    (H : List Host) (eH : H = hostsF ns) (hH : ∀ p ∈ H, HostOk p) (hHl : H.length ≤ 6) (hline : c3N 200 (climbsF H) = some line) (hlU : ∀ x ∈ line, x ∈ U) (hll : line.length ≤ 200) (hol : (orderF (climbsF H)).length ≤ 200)
    (hch : ∀ r, 0 ≤ chF (chosenF (rightsF H) line) r ∧ chF (chosenF (rightsF H) line) r ≤ 4095)
    (eqL : (line.map fun r => (r, filemodeF (Builtin.bitOr 16384 (chF (chosenF (rightsF H) line) r)))) = (orderF (climbsF H)).map fun r => (r, signsF (sumL (tabsF H) r 12).sum))
    (eqC : ((List.range 12).map fun k => ((line.filter (bitF (chosenF (rightsF H) line) k)).length : Int)) = (List.range 12).map fun k => (tabsF H k).2)
    (h : ∀ h' tk, (∀ b o, b ≠ 125 → s.heap.get? b = some o → h'.get? b = some o) → (∃ ps, h'.get? 125 = some (tabObj ps)) → R (.ok (.ret (.bool true))) { s with heap := h', toks := tk }) :
    codeAny (model prg w) A (.call (.ref 159) ⟨[.ref l], []⟩) R s := by
  refine call_defC (binds := [("script", .ref l)]) hA hB hle (hB.frag 159 _ rfl) rfl ⟨_, _, _, _, rfl, hB.frag 158 _ rfl, rfl, rfl⟩ rfl rfl rfl ?_
  intro h₁ tk hA' S₁
  have S₂ := S₁.adopt ⟨_, h125, rfl⟩ hk125 (P := fun o => o = tabObj #[]) (fun y c e q => by rw [← q] at e; rw [(S₁.cellO rfl y _ e).1] at h125; cases h125)
  clear S₁
  -- hosts
  refine wpAny_execs_cons (wpAny_Assign_Name (Call_ (x_global S₂.x rfl (callWith_def rfl (spliced_more (x_local S₂.x rfl (spliced_none ⟨S₂.x.kh _ _ (hB.frag 116 _ rfl), ?_⟩)))))))
  refine spec_hosts hA' hB S₂.x.kh hl hr hsz fun ah h₃ K₃ tk₃ us g₃ plh hus _ => ?_
  rw [← eH] at hus
  refine st_local (S₂.grow g₃) fun h₄ tk₄ S₄ => ?_
  clear S₂
  have hB₃ := S₄.x.base
  have ulen : us.length ≤ 6 := by rw [hus.length]; exact hHl
  -- rights
  refine wpAny_execs_cons ?_
  refine wpAny_Assign_Name ?_ rfl
  refine DictComp_K rfl (by decide) rfl (by decide) (fun _ _ e => by cases e) List.Pairwise.nil (x_local S₄.x rfl
    ⟨_, _, _, _, _, (fun j K' acc => RelD IsI acc (rightsF (H.take j))), src_list hA'.handled plh, S₄.x, by show _ ≤ 16777216; omega, .nil, ?_, ?_⟩)
  · rintro C i v K₅ m₅ acc R₅ h₅ tk₅ E₅ hi hv hK₅ hacc S₅
    refine (hus.get hv).elim fun p qp => qp.2.elim fun tp q => q.elim fun ll q => q.elim fun ls q => q.elim fun tm q => ?_
    have ev := q.1
    subst ev
    have hp := hH p (List.mem_of_getElem? qp.1)
    --<
    refine assign_pair hA'.handled S₅ ((q.2.1.le (hK₅.trans S₅.x.kh)).isTup) rfl rfl rfl fun h₆ tk₆ S₆ => wpAny_tests_nil (br_t rfl ?_)
    refine Call_method1 rfl rfl rfl (wpAny_Constant_str (join_m (x_local S₆.x rfl ⟨_, _, _, rfl, pl_le q.2.2.1 (hK₅.trans S₆.x.kh), q.2.2.2, ?_, fun t₇ k₇ => x_local S₆.x rfl ⟨jn p, _, rfl, h₆, _, K₅, _, rfl, Le.refl _, rights_next qp.1 hacc ⟨_, rfl⟩, S₆⟩⟩)))
    show _ + _ * 1 ≤ _
    have := hp.2.2.1
    omega
    -->
  rintro dr kvr K₅ K₆ h₆ tk₆ hJ hK₅ g₆ hdr _ dr1 _
  have hrr : RelD IsI kvr (rightsF H) := by
    have := hJ
    rw [List.take_of_length_le (by rw [hus.length]; exact Nat.le_refl _)] at this
    exact this
  clear hJ
  refine st_cell (S₄.grow g₆) fun h₇ S₇ => ?_
  clear S₄
  have plh₆ := pl_le plh g₆.kk
  have hus₆ := lh_le hus g₆.kk
  -- line
  refine wpAny_execs_cons ?_
  refine wpAny_Assign_Name ?_ rfl
  refine Call_ (x_global S₇.x rfl ?_)
  have fa₇ : FnAt 64 h₇ := ⟨_, _, _, _, S₇.x.kh _ _ (S₇.x.base.frag 64 _ rfl)⟩
  refine callWith_F fa₇ (spliced_more ?_)
  refine ListComp_K2 rfl (by decide) rfl (by decide) (fun _ _ e => by cases e) List.Pairwise.nil (x_local S₇.x rfl
    ⟨_, _, _, _, _, JClimb K₆ H, src_list hA'.handled plh₆, S₇.x, by show _ ≤ 16777216; omega, ⟨[], rfl, rfl, (fun _ h => nomatch h), (fun _ h => nomatch h), .nil⟩, ?_, ?_⟩)
  · rintro C i v K₈ m₈ acc R₈ h₈ tk₈ E₈ hi hv hK₈ hacc S₈
    refine (hus₆.get hv).elim fun p qp => qp.2.elim fun tp q => q.elim fun ll q => q.elim fun ls q => q.elim fun tm q => ?_
    have ev := q.1
    subst ev
    have hp := hH p (List.mem_of_getElem? qp.1)
    --<
    refine assign_pair hA'.handled S₈ ((q.2.1.le (hK₈.trans S₈.x.kh)).isTup) rfl rfl rfl fun h₉ tk₉ S₉ => wpAny_tests_nil (br_t rfl ?_)
    refine Call_ (x_global S₉.x rfl (callWith_def rfl (spliced_more (Call_method1 rfl rfl rfl (wpAny_Constant_str (join_m (x_local S₉.x rfl ⟨_, _, _, rfl, pl_le q.2.2.1 (hK₈.trans S₉.x.kh), q.2.2.2, ?_, fun t₁₀ k₁₀ => spliced_none ⟨S₉.x.kh _ _ (S₉.x.base.frag 123 _ rfl), ?_⟩⟩)))))))
    · show _ + _ * 1 ≤ _
      have := hp.2.2.1
      omega
    refine spec_climbed hA' S₉.x.base S₉.x.kh hp.2.1 fun a₁₁ h₁₁ K₁₁ tk₁₁ ws g₁₁ pl₁₁ hws kn₁₁ => ?_
    exact ⟨h₁₁, _, K₁₁, _, rfl, g₁₁.kk, hacc.more qp.1 hp.2.1 g₁₁.kk hK₈ pl₁₁ hws kn₁₁, S₉.grow g₁₁⟩
    -->
  rintro lc ys K₈ K₉ h₉ tk₉ hJ hK68 hK₈ g₉ pl₉ kn₉ _
  refine hJ.elim fun ps q => ?_
  have eys := q.1
  subst eys
  have hstr : strsS ps = climbsF H := by rw [q.2.1, hus.length]; exact List.take_of_length_le (by simp [climbsF])
  have hpsl : ps.length ≤ 6 := by
    have := congrArg List.length hstr
    simp only [strsS, climbsF, List.length_map] at this
    omega
  have fresh : ∀ b o, K₉.get? b = some o → K₆.get? b = none → h₇.get? b = none := fun b o e n' => g₉.new b o e n'
  have plc : ∀ p ∈ ps, K₉.PlainList p.1 p.2.1.toArray := fun p hp => pl_le (q.2.2.2.1 p hp).1 hK₈
  have hne : ∀ p ∈ ps, p.1 ≠ lc := fun p hp e => by
    have e1 := (q.2.2.2.1 p hp).1
    rw [e] at e1
    exact e1.elim fun nn e1 => by rw [kn₉] at e1; cases e1
  have kn6 : K₆.get? lc = none := hK68.none kn₉
  have S₉ := S₇.pushAll g₉.ext (l := ownS ps ++ [(lc, fun _ => True)]) (fun p hp => by
      rcases List.mem_append.mp hp with r | r
      · obtain ⟨p', hp', rfl⟩ := List.mem_map.mp r
        obtain ⟨nn, e⟩ := plc p' hp'
        exact ⟨of_plain (pl_le (plc p' hp') g₉.kh), fresh _ _ e (q.2.2.2.1 p' hp').2⟩
      · cases List.mem_singleton.mp r
        obtain ⟨nn, e⟩ := pl₉
        exact ⟨⟨_, g₉.kh _ _ e, trivial⟩, fresh _ _ e kn6⟩) (by
      rw [List.pairwise_append]
      refine ⟨List.pairwise_map.mpr (List.pairwise_map.mp q.2.2.2.2), List.pairwise_singleton _ _, fun p hp r hr => ?_⟩
      obtain ⟨p', hp', rfl⟩ := List.mem_map.mp hp
      cases List.mem_singleton.mp hr
      exact hne p' hp')
  clear S₇
  refine (plain_ex (pl_le pl₉ g₉.kh)).elim fun olc qlc => ?_
  refine (lend S₉.x.kh qlc.1).elim fun Kc qc => ?_
  have hBc := S₉.x.base.le qc.1
  refine spliced_none ⟨fn_le fa₇ g₉.ext, ?_⟩
  refine spec_c3 (n := n + 4) (k := 200) hA' hBc qc.2.1 (plain_of ⟨olc, qc.2.2.1, qlc.2⟩) q.2.2.1 (fun p hp => ⟨pl_le (plc p hp) g₉.kh, by rw [qc.2.2.2 _ (hne p hp)]; exact (q.2.2.2.1 p hp).2⟩) q.2.2.2.2 (by omega) (by decide) (by rw [hstr]; exact hline) fun al h₁₀ K₁₀ tk₁₀ vl up₁₀ kK₁₀ kh₁₀ new₁₀ pll hvl => ?_
  have S₁₀ := S₉.growBut (fun b o hb e => up₁₀ b o (fun r => hb (by rw [List.map_append]; exact List.mem_append_left _ (by simpa [ownS] using r))) e) (qc.1.trans kK₁₀) kh₁₀ (fun a o e n' => by
      rw [List.map_append]
      cases r : Kc.get? a with
      | none =>
        rcases new₁₀ a o e r with r | r
        · exact .inl (List.mem_append_left _ (by simpa [ownS] using r))
        · exact .inr r
      | some o' =>
        by_cases e' : a = lc
        · exact .inl (List.mem_append_right _ (by simp [e']))
        · rw [qc.2.2.2 a e', n'] at r; cases r)
  clear S₉
  refine st_cell S₁₀ fun h₁₁ S₁₁ => ?_
  clear S₁₀
  have k6 : Le K₆ K₁₀ := qc.1.trans kK₁₀
  have vll : vl.length ≤ 200 := by rw [hvl.length]; exact hll
  -- chosen
  have fa₁₁ : FnAt 130 h₁₁ := ⟨_, _, _, _, S₁₁.x.kh _ _ (S₁₁.x.base.frag 130 _ rfl)⟩
  refine wpAny_execs_cons ?_
  refine wpAny_Assign_Name ?_ rfl
  refine Call_ (x_global S₁₁.x rfl (callWith_F fa₁₁ ?_))
  refine spliced_more (x_cell S₁₁.x rfl (spliced_more (x_cell S₁₁.x rfl (spliced_none ⟨fa₁₁, ?_⟩))))
  have o125 := S₁₁.has (125, fun o => o = tabObj #[]) (by simp)
  refine o125.1.elim fun ot qt => ?_
  have kK : Le K K₁₀ := g₃.kk.trans (g₆.kk.trans k6)
  refine spec_chosen (n := n) hA' S₁₁.x.base S₁₁.x.kh pll hvl hlU (by omega) (hdr.keep k6) hrr dr1 (hmg.keeps kK) (hbA.keeps kK) (qt.2 ▸ qt.1) o125.2.2.1 fun dc h₁₂ K₁₂ tk₁₂ kvc up₁₂ tab₁₂ kk₁₂ kh₁₂ new₁₂ hdc hrc dc1 => ?_
  have S₁₂ := S₁₁.growAt (P' := fun o => ∃ ps, o = tabObj ps) up₁₂ (tab₁₂.elim fun ps e => ⟨_, e, ps, rfl⟩) kk₁₂ kh₁₂ new₁₂
  clear S₁₁
  refine st_cell S₁₂ fun h₁₃ S₁₃ => ?_
  clear S₁₂
  have k612 : Le K₆ K₁₂ := k6.trans kk₁₂
  have pll₁₂ := pl_le pll kk₁₂
  have hdr₁₂ := hdr.keep k612
  have plh₁₂ := pl_le plh₆ k612
  have hus₁₂ := lh_le hus₆ k612
  -- listing
  refine wpAny_execs_cons (Assign_ListComp_K (oc := true) (h₀ := but s.heap 125) (Kb := K) (own := [(125, fun o => ∃ ps, o = tabObj ps)]) rfl rfl (by decide) rfl (by decide) (cl_ok ⟨rfl, trivial⟩) (List.pairwise_singleton _ _) rfl rfl (x_cell S₁₃.x rfl
    ⟨_, _, _, _, _, (fun j K' acc => Rel2 (LPS K') acc ((line.take j).map fun r => (r, filemodeF (Builtin.bitOr 16384 (chF (chosenF (rightsF H) line) r))))), src_list hA'.handled pll₁₂, S₁₃, by show _ ≤ 16777216; omega, .nil, ?_, ?_⟩))
  · rintro C j v K₁₄ m₁₄ acc R₁₄ h₁₄ tk₁₄ E₁₄ hj hv hK hacc S₁₄
    --<
    refine (hvl.get hv).elim fun r q => q.2.elim fun tr ev => ?_
    subst ev
    refine wpAny_assign_Name (st_local S₁₄ fun h₁₅ tk₁₅ S₁₅ => wpAny_tests_nil (br_t rfl ?_))
    have fa : FnAt 111 h₁₅ := ⟨_, _, _, _, S₁₅.x.kh _ _ (S₁₅.x.base.frag 111 _ rfl)⟩
    have hdc' : h₁₅.DictOf (strKind prg w) dc kvc := hdc.keep (hK.trans S₁₅.x.kh)
    refine Tuple_ (spliced_more (x_local S₁₅.x rfl (spliced_more ?_)))
    refine Call_ (x_global S₁₅.x rfl (callWith_F fa (spliced_more ?_)))
    refine wpAny_BinOp (x_global S₁₅.x rfl ?_)
    refine Call_method2 rfl rfl rfl (x_cell S₁₅.x rfl (get_d ⟨_, hdc'⟩ dc1 (x_local S₁₅.x rfl (wpAny_Constant_int ⟨r, _, 0, _, kvc, _, rfl, rfl, hdc', hrc, fun t₁₆ tk₁₆ => or_int (spliced_none ⟨fa, ?_⟩)⟩))))
    refine spec_filemode (n := n + 3) hA' S₁₅.x.base S₁₅.x.kh fun h₁₇ tk₁₇ t₁₇ l₁₇ => ?_
    have S₁₇ := S₁₅.more l₁₇
    refine spliced_none (ntK S₁₇.x.kh fun a₁₈ h₁₈ K₁₈ g₁₈ tp₁₈ => ?_)
    exact ⟨h₁₈, _, K₁₈, _, rfl, g₁₈.kk, list_more hacc g₁₈.kk q.1 ⟨_, _, _, rfl, tp₁₈⟩, S₁₇.grow g₁₈⟩
    -->
  rintro lli yli K₁₄ K₁₅ h₁₅ tk₁₅ hJli hK₁₄ hK₁₅ S₁₅ plli _ _
  clear S₁₃
  -- ladders
  refine wpAny_execs_cons (Assign_ListComp_K (oc := true) (h₀ := but s.heap 125) (Kb := K) (own := [(125, fun o => ∃ ps, o = tabObj ps)]) rfl rfl (by decide) rfl (by decide) (fun _ _ e => by cases e) List.Pairwise.nil rfl rfl (x_local S₁₅.x rfl
    ⟨_, _, _, _, _, (fun j K' acc => Rel2 (LStr K') acc ((climbsF H).take j)), src_list hA'.handled (pl_le plh₁₂ hK₁₅), S₁₅, by show _ ≤ 16777216; omega, .nil, ?_, ?_⟩))
  · rintro C j v K₁₆ m₁₆ acc R₁₆ h₁₆ tk₁₆ E₁₆ hj hv hK hacc S₁₆
    --<
    refine (hus₁₂.get hv).elim fun p qp => qp.2.elim fun tp q => q.elim fun ll q => q.elim fun ls q => q.elim fun tm q => ?_
    have ev := q.1
    subst ev
    have hp := hH p (List.mem_of_getElem? qp.1)
    have kk := hK₁₅.trans hK
    refine assign_pair hA'.handled S₁₆ ((q.2.1.le (kk.trans S₁₆.x.kh)).isTup) rfl rfl rfl fun h₁₇ tk₁₇ S₁₇ => wpAny_tests_nil (br_t rfl ?_)
    have fa : FnAt 137 h₁₇ := ⟨_, _, _, _, S₁₇.x.kh _ _ (S₁₇.x.base.frag 137 _ rfl)⟩
    refine Call_ (x_global S₁₇.x rfl (callWith_F fa (spliced_more (x_local S₁₇.x rfl (spliced_none ⟨fa, ?_⟩)))))
    refine spec_ladder (n := n + 4) hA' S₁₇.x.base S₁₇.x.kh (pl_le q.2.2.1 kk) q.2.2.2 hp.1 hp.2.2.1 fun a₁₈ h₁₈ K₁₈ tk₁₈ ws g₁₈ pl₁₈ hws _ => ?_
    exact ⟨h₁₈, _, K₁₈, _, rfl, g₁₈.kk, climbs_more hacc g₁₈.kk qp.1 ⟨_, _, rfl, pl₁₈, hp.2.2.2.2 ▸ hws⟩, S₁₇.grow g₁₈⟩
    -->
  rintro lla yla K₁₆ K₁₇ h₁₇ tk₁₇ hJla hK₁₆ hK₁₇ S₁₇ plla _ _
  clear S₁₅
  have hla : Rel2 (LStr K₁₇) yla (climbsF H) := by
    have e1 : (climbsF H).take us.length = climbsF H := List.take_of_length_le (by rw [hus.length]; simp [climbsF])
    have := ll_le hJla hK₁₆
    rw [e1] at this
    exact this
  have hco := climbs_ok hH
  have hcl6 : (climbsF H).length ≤ 6 := by simpa [climbsF] using hHl
  -- order
  have fa₁₇ : FnAt 142 h₁₇ := ⟨_, _, _, _, S₁₇.x.kh _ _ (S₁₇.x.base.frag 142 _ rfl)⟩
  refine wpAny_execs_cons ?_
  refine wpAny_Assign_Name ?_ rfl
  refine Call_ (x_global S₁₇.x rfl (callWith_F fa₁₇ (spliced_more (x_local S₁₇.x rfl (spliced_none ⟨fa₁₇, ?_⟩)))))
  refine spec_order (n := n + 4) hA' S₁₇.x.base S₁₇.x.kh plla hla hco.1 (by omega) hco.2 fun lo h₁₈ K₁₈ tk₁₈ vo g₁₈ plo hvo _ => ?_
  refine st_cell (S₁₇.grow g₁₈) fun h₁₉ S₁₉ => ?_
  clear S₁₇
  have plla₁₈ := pl_le plla g₁₈.kk
  have hla₁₈ := ll_le hla g₁₈.kk
  have k1218 : Le K₁₂ K₁₈ := hK₁₅.trans (hK₁₇.trans g₁₈.kk)
  have yll : yla.length ≤ 6 := by rw [hla.length]; exact hcl6
  -- above
  refine wpAny_execs_cons ?_
  refine wpAny_Assign_Name ?_ rfl
  refine DictComp2_K rfl (by decide) rfl (by decide) (fun _ _ e => by cases e) List.Pairwise.nil (x_local S₁₉.x rfl
    ⟨_, _, _, _, _, (fun j K' acc => RelD IsS acc (abF ((climbsF H).take j))), src_list hA'.handled plla₁₈, S₁₉.x, by omega, .nil, ?_, ?_⟩)
  · rintro C i v K₂₀ m₂₀ acc R₂₀ h₂₀ tk₂₀ E₂₀ hi hv hK hacc S₂₀
    --<
    refine (hla₁₈.get hv).elim fun ld q => q.2.elim fun al' q2 => q2.elim fun ws q2 => ?_
    have ev := q2.1
    subst ev
    have hld : ld ∈ climbsF H := List.mem_of_getElem? q.1
    have hl100 := hco.2 ld hld
    have hlne : 1 ≤ ld.length := List.length_pos_iff.mpr (hco.1 ld hld)
    have hwl : ws.length = ld.length := q2.2.2.length
    refine wpAny_assign_Name (st_local S₂₀ fun h₂₁ tk₂₁ S₂₁ => ?_)
    have plw : K₂₀.PlainList al' ws.toArray := pl_le q2.2.1 hK
    refine Call_ (x_builtin S₂₁.x rfl boot_range (cw_ty (spliced_more ?_)))
    refine wpAny_BinOp (Call_ (x_builtin S₂₁.x rfl boot_len (cw_bi (spliced_more (x_local S₂₁.x rfl (spliced_none (len_l (pl_le plw S₂₁.x.kh) (by show _ ≤ 16777216; omega) fun tk₂₂ t₂₂ => ?_)))))))
    refine wpAny_Constant_int (sub_int (spliced_none (range_k (K := K₂₀) S₂₁.x.kh hA'.handled (by omega) (by omega) fun rr h₂₃ K₂₃ tk₂₃ g₂₃ src => ?_)))
    have S₂₃ := S₂₁.grow g₂₃
    have en : ((ws.length : Int) - 1).toNat = ld.length - 1 := by omega
    rw [en] at src
    refine ⟨_, _, K₂₃, _, h₂₃, _, (fun j K' m' acc' => m' "ladder" = some (.ref al') ∧ RelD IsS acc' (abIn ld j (abF ((climbsF H).take i)))), rfl, g₂₃.kk, src, S₂₃, ?_, by omega, ?_, ?_⟩
    · exact ⟨rfl, ab_zero hacc⟩
    · rintro j v K₂₄ m₂₄ acc' R₂₄ h₂₄ tk₂₄ E₂₄ hj ⟨tj, rfl⟩ hK' ⟨m1, hacc'⟩ S₂₄
      have plw' : K₂₄.PlainList al' ws.toArray := pl_le plw (g₂₃.kk.trans hK')
      have g0 := get_ex (show j < ld.length by omega)
      have g1 := get_ex (show j + 1 < ld.length by omega)
      refine g0.elim fun y0 e0 => g1.elim fun y1 e1 => ?_
      refine (q2.2.2.get' (i := ((j : Int)).toNat) (by simpa using e0)).elim fun v0 qv0 => (q2.2.2.get' (i := ((j : Int) + 1).toNat) (by rw [show ((j : Int) + 1).toNat = j + 1 by omega]; exact e1)).elim fun v1 qv1 => ?_
      refine qv0.2.elim fun t0 ev0 => qv1.2.elim fun t1 ev1 => ?_
      subst ev0 ev1
      refine wpAny_assign_Name (st_local S₂₄ fun h₂₅ tk₂₅ S₂₅ => ?_)
      refine Subscript_ (x_local S₂₅.x m1 (x_local S₂₅.x rfl (item_l (pl_le plw' S₂₅.x.kh) (by omega) (by omega) qv0.1 ?_)))
      refine Subscript_ (x_local S₂₅.x m1 (wpAny_BinOp (x_local S₂₅.x rfl (wpAny_Constant_int (add_int (item_l (pl_le plw' S₂₅.x.kh) (by omega) (by omega) qv1.1 ?_))))))
      refine ⟨y0, _, rfl, h₂₅, _, K₂₄, _, rfl, Le.refl _, ⟨?_, ab_put hacc' e0 e1 ⟨_, rfl⟩⟩, S₂₅⟩
      exact m1
    · rintro K₂₄ m₂₄ ys hK' ⟨_, hys⟩
      have := ab_next q.1
      show RelD IsS ys _
      rw [this]; exact hys
    -->
  rintro da kva K₂₀ K₂₁ h₂₁ tk₂₁ hJa hK₂₀ g₂₁ hda _ da1
  have hra : RelD IsS kva (abF (climbsF H)) := by
    have := hJa
    rw [List.take_of_length_le (by rw [hla.length]; exact Nat.le_refl _)] at this
    exact this
  refine st_cell (S₁₉.grow g₂₁) fun h₂₂ S₂₂ => ?_
  clear S₁₉
  have k1221 : Le K₁₂ K₂₁ := k1218.trans g₂₁.kk
  have hdr₂₁ := hdr₁₂.keep k1221
  have plo₂₁ := pl_le plo g₂₁.kk
  have hrb := rights_bound hH
  -- tables
  refine wpAny_execs_cons ?_
  refine wpAny_Assign_Name ?_ rfl
  refine ListComp_K rfl (by decide) rfl (by decide) (cl_ok ⟨rfl, rfl, rfl, trivial⟩) (cl_pair S₂₂.cellA ⟨rfl, rfl, rfl, trivial⟩ [Str.ofString "rights", Str.ofString "order", Str.ofString "above"] rfl (by decide)) ?_
  refine Call_ (x_builtin S₂₂.x rfl boot_range (cw_ty (spliced_more (wpAny_Constant_int (spliced_none (range_k (K := K₂₁) S₂₂.x.kh hA'.handled (by decide) (by decide) fun rr h₂₃ K₂₃ tk₂₃ g₂₃ src => ?_))))))
  have S₂₃ := S₂₂.grow g₂₃
  clear S₂₂
  refine ⟨_, _, K₂₃, _, _, (fun j K' acc => Rel2 (LTable K') acc ((List.range j).map (tabsF H))), src, S₂₃.x, by decide, .nil, ?_, ?_⟩
  · rintro C j v K₂₄ m₂₄ acc R₂₄ h₂₄ tk₂₄ E₂₄ hj ⟨tj, rfl⟩ hK hacc S₂₄
    --<
    have hj12 : j < 12 := hj
    have hpw := pow12 j hj12
    refine wpAny_assign_Name (st_local S₂₄ fun h₂₅ tk₂₅ S₂₅ => wpAny_tests_nil (br_t rfl ?_))
    have fa : FnAt 147 h₂₅ := ⟨_, _, _, _, S₂₅.x.kh _ _ (S₂₅.x.base.frag 147 _ rfl)⟩
    have kk : Le K₂₁ K₂₄ := g₂₃.kk.trans hK
    refine Call_ (x_global S₂₅.x rfl (callWith_F fa ?_))
    refine spliced_more (x_cell S₂₅.x rfl ?_)
    refine spliced_more (x_cell S₂₅.x rfl ?_)
    refine spliced_more (x_cell S₂₅.x rfl ?_)
    refine spliced_more (wpAny_BinOp (wpAny_Constant_int (x_local S₂₅.x rfl (pow_int (by omega) (pow2 (by omega) (by omega)) (spliced_none ⟨fa, ?_⟩)))))
    refine spec_table (n := n + 4) hA' S₂₅.x.base S₂₅.x.kh (pl_le plo₂₁ kk) hvo (by omega) (hda.keep kk) hra da1 (hdr₂₁.keep kk) hrr dr1 hrb hpw fun a g h₂₆ K₂₆ tk₂₆ t₂₆ vg g₂₆ tp plg hvg => ?_
    exact ⟨h₂₆, _, K₂₆, _, rfl, g₂₆.kk, rng_more hacc (fun _ _ q => q.le g₂₆.kk) ⟨a, g, _, vg, rfl, tp, plg, hvg⟩, S₂₅.grow g₂₆⟩
    -->
  rintro lt ylt K₂₄ K₂₅ h₂₅ tk₂₅ hJt hK₂₄ g₂₅ plt _ _
  have hJt' : Rel2 (LTable K₂₅) ylt ((List.range 12).map (tabsF H)) := lt_le hJt hK₂₄
  clear hJt
  refine st_cell (S₂₃.grow g₂₅) fun h₂₆ S₂₆ => ?_
  clear S₂₃
  have k2125 : Le K₂₁ K₂₅ := g₂₃.kk.trans g₂₅.kk
  have plo₂₅ := pl_le plo₂₁ k2125
  have k1225 : Le K₁₂ K₂₅ := k1221.trans k2125
  have k1525 : Le K₁₅ K₂₅ := hK₁₇.trans (g₁₈.kk.trans (g₂₁.kk.trans k2125))
  have vol : vo.length ≤ 200 := by rw [hvo.length]; exact hol
  -- due
  refine wpAny_execs_cons ?_
  refine wpAny_Assign_Name ?_ ?_
  rotate_left
  · exact sw_List
  refine List_ (spliced_none (nlA fun rd h₂₇ l₂₇ p₂₇ kr => ?_))
  have S₂₈ := S₂₆.push l₂₇ (of_plain p₂₇) kr
  clear S₂₆
  refine st_local S₂₈ fun h₂₉ tk₂₉ S₂₉ => ?_
  clear S₂₈
  refine wpAny_execs_cons (wpAny_For (x_cell S₂₉.x rfl ?_))
  refine iter_list hA'.handled S₂₉ plo₂₅ (fun i K' m' cm' own' => ∃ vd, own' = [(rd, listO vd), (125, fun o => ∃ ps, o = tabObj ps)] ∧ Rel2 (LPS K') vd (((orderF (climbsF H)).take i).map fun r => (r, signsF (sumL (tabsF H) r 12).sum)) ∧ vd.length = i ∧ m' "due" = some (.ref rd) ∧ m' "listing" = some (.ref lli) ∧
    cm' "tables" = some (.ref lt) ∧ cm' "line" = some (.ref al) ∧ cm' "chosen" = some (.ref dc)) ?_ ?_ ?_
  · exact ⟨[], rfl, .nil, rfl, rfl, rfl, rfl, rfl, rfl⟩
  · rintro i v K₃₀ m₃₀ cm₃₀ own₃₀ R₃₀ h₃₀ tk₃₀ E₃₀ hv hK ⟨vd, rfl, hvd, hvdl, m1, m2, c1, c2, c3⟩ S₃₀
    --<
    have hi : i < vo.length := (List.getElem?_eq_some_iff.mp hv).1
    refine (hvo.get hv).elim fun r q => q.2.elim fun tr ev => ?_
    subst ev
    refine wpAny_assign_Name (st_cell S₃₀ fun h₃₁ S₃₁ => ?_)
    refine wpAny_execs_cons (wpAny_Expr (Call_method1 rfl rfl rfl (x_local S₃₁.x m1 (append_at S₃₁ ?_))))
    refine Tuple_ ?_
    refine spliced_more (x_cell S₃₁.x rfl ?_)
    refine spliced_more ?_
    have fs : FnAt 154 h₃₁ := ⟨_, _, _, _, S₃₁.x.kh _ _ (S₃₁.x.base.frag 154 _ rfl)⟩
    refine Call_ (x_global S₃₁.x rfl (callWith_F fs ?_))
    refine spliced_more ?_
    refine Call_ (x_builtin S₃₁.x rfl boot_sum (cw_bi ?_))
    refine spliced_more ?_
    refine ListComp_K rfl (by decide) rfl (by decide) (cl_ok ⟨rfl, rfl, trivial⟩) (cl_pair S₃₁.cellA ⟨rfl, rfl, trivial⟩ [Str.ofString "tables", Str.ofString "rung"] rfl (by decide)) ?_
    refine Call_ (x_builtin S₃₁.x rfl boot_range (cw_ty (spliced_more (wpAny_Constant_int (spliced_none (range_k (K := K₃₀) S₃₁.x.kh hA'.handled (by decide) (by decide) fun rr h₃₂ K₃₂ tk₃₂ g₃₂ src => ?_))))))
    have S₃₂ := S₃₁.grow g₃₂
    clear S₃₁
    refine ⟨_, _, K₃₂, _, _, (fun j K' acc => Rel2 IsI acc (sumL (tabsF H) r j)), src, S₃₂.x, by decide, .nil, ?_, ?_⟩
    · rintro C j v K₃₃ m₃₃ acc R₃₃ h₃₃ tk₃₃ E₃₃ hj ⟨tj, rfl⟩ hK' hacc S₃₃
      have hj12 : j < 12 := hj
      refine wpAny_assign_Name (st_local S₃₃ fun h₃₄ tk₃₄ S₃₄ => ?_)
      have kk : Le K₂₅ h₃₄ := hK.trans (g₃₂.kk.trans (hK'.trans S₃₄.x.kh))
      refine (hJt'.get' (i := (j : Int).toNat) (by simpa using rng_get hj12)).elim fun vt qt => qt.2.elim fun at' q2 => q2.elim fun gt q2 => q2.elim fun tt q2 => q2.elim fun vg q2 => ?_
      have ev := q2.1
      subst ev
      refine wpAny_tests_one (wpAny_isTrue_Compare1 (x_cell S₃₄.x rfl ?_))
      refine Subscript_ (Subscript_ (x_cell S₃₄.x c1 (x_local S₃₄.x rfl (item_l (pl_le plt kk) (by omega) (by omega) qt.1 (wpAny_Constant_int (item_t (q2.2.1.le kk) (by decide) (by decide) rfl ?_))))))
      refine in_l (pl_le q2.2.2.1 kk) q2.2.2.2 (wpAny_truthy_bool ?_)
      by_cases hin : r ∈ (tabsF H j).1
      · refine br_t (decide_eq_true hin) ?_
        refine wpAny_BinOp (wpAny_Constant_int (x_local S₃₄.x rfl (pow_int (by omega) (pow2 (by omega) (by omega)) ?_)))
        exact ⟨h₃₄, _, K₃₃, _, rfl, Le.refl _, sumL_t hacc hin ⟨_, rfl⟩, S₃₄⟩
      · refine br_f (decide_eq_false hin) ?_
        exact ⟨h₃₄, _, K₃₃, _, rfl, Le.refl _, sumL_f hacc hin, S₃₄⟩
    rintro ls ys K₃₃ K₃₄ h₃₄ tk₃₄ hJs hK₃₃ g₃₄ pls _ _
    have S₃₄ := S₃₂.grow g₃₄
    clear S₃₂
    have hJs' : Rel2 IsI ys (sumL (tabsF H) r 12) := hJs
    refine spliced_none (sum_l hA'.handled (pl_le pls S₃₄.x.kh) hJs' fun h₃₅ tk₃₅ t₃₅ l₃₅ => spliced_none ⟨fn_le fs (g₃₂.ext.trans (g₃₄.ext.trans l₃₅)), ?_⟩)
    have S₃₅ := S₃₄.more l₃₅
    clear S₃₄
    have hb := sumL_bound (tabsF H) r 12
    refine spec_signs (n := n + 4) hA' S₃₅.x.base S₃₅.x.kh hb.1 hb.2 fun h₃₆ tk₃₆ t₃₆ l₃₆ => ?_
    have S₃₆ := S₃₅.more l₃₆
    clear S₃₅
    refine spliced_none (ntK S₃₆.x.kh fun a h₃₇ K₃₇ g₃₇ tp => ?_)
    have S₃₇ := S₃₆.grow g₃₇
    clear S₃₆
    have up : Le K₃₀ K₃₇ := g₃₂.kk.trans (g₃₄.kk.trans g₃₇.kk)
    refine ⟨_, _, _, S₃₇, by show _ ≤ 16777216; omega, fun h₃₈ S₃₈ => ?_⟩
    refine wpAny_execs_nil ?_
    refine ⟨h₃₈, _, K₃₇, _, _, [(rd, _), (125, _)], rfl, up, ⟨_, rfl, list_more hvd up q.1 ⟨_, _, _, rfl, tp⟩, by rw [List.length_append, hvdl]; rfl, ?_, ?_, ?_, ?_, ?_⟩, S₃₈⟩
    · exact m1
    · exact m2
    · exact c1
    · exact c2
    · exact c3
    -->
  rintro K₃₀ m₃₀ cm₃₀ own₃₀ h₃₀ tk₃₀ E₃₀ hK ⟨vd, rfl, hvd, hvdl, m1, m2, c1, c2, c3⟩ S₃₀
  have hvd' : Rel2 (LPS K₃₀) vd ((orderF (climbsF H)).map fun r => (r, signsF (sumL (tabsF H) r 12).sum)) := by
    rw [List.take_of_length_le (by rw [hvo.length]; exact Nat.le_refl _)] at hvd
    exact hvd
  refine wpAny_execs_nil ?_
  -- counts
  have k2530 : Le K₂₅ K₃₀ := hK
  have pll₃₀ := pl_le pll₁₂ (k1225.trans hK)
  have hdc₃₀ := hdc.keep (k1225.trans hK)
  refine wpAny_execs_cons (Assign_ListComp_KC (oc := true) (h₀ := but s.heap 125) (Kb := K) (own := [(rd, listO vd), (125, fun o => ∃ ps, o = tabObj ps)]) rfl rfl (fun _ _ => rfl) (fun _ => rfl) rfl rfl (by decide) ⟨rfl, rfl, trivial⟩ (cl_pair S₃₀.cellA ⟨rfl, rfl, trivial⟩ [Str.ofString "line", Str.ofString "chosen"] rfl (by decide)) rfl rfl ?_)
  refine Call_ (x_builtin S₃₀.x rfl boot_range (cw_ty (spliced_more (wpAny_Constant_int (spliced_none (range_k (K := K₃₀) S₃₀.x.kh hA'.handled (by decide) (by decide) fun rr h₃₁ K₃₁ tk₃₁ g₃₁ src => ?_))))))
  have S₃₁ := S₃₀.grow g₃₁
  clear S₃₀
  refine ⟨_, _, K₃₁, _, _, (fun j K' acc => Rel2 IsI acc ((List.range j).map fun k => ((line.filter (bitF (chosenF (rightsF H) line) k)).length : Int))), src, S₃₁, by decide, .nil, ?_, ?_⟩
  · rintro C c j v K₃₂ m₃₂ acc R₃₂ h₃₂ tk₃₂ E₃₂ hj ⟨tj, rfl⟩ hK' hacc S₃₂
    --<
    have hj12 : j < 12 := hj
    have hpw := pow12 j hj12
    have kk : Le K₃₀ K₃₂ := g₃₁.kk.trans hK'
    refine Call_ (x_builtin S₃₂.x rfl boot_len (cw_bi ?_))
    refine spliced_more ?_
    refine ListComp_K rfl (by decide) rfl (by decide) (cl_ok ⟨rfl, rfl, trivial⟩) (cl_pair S₃₂.cellA ⟨rfl, rfl, trivial⟩ [Str.ofString "k", Str.ofString "chosen"] rfl (by decide)) (x_cell S₃₂.x c2
      ⟨_, _, _, _, _, (fun i K' acc => Rel2 IsS acc ((line.take i).filter (bitF (chosenF (rightsF H) line) j))), src_list hA'.handled (pl_le pll₃₀ kk), S₃₂.x, by show _ ≤ 16777216; omega, .nil, ?_, ?_⟩)
    · rintro C' i v' K₃₃ m₃₃ acc' R₃₃ h₃₃ tk₃₃ E₃₃ hi hv' hK'' hacc' S₃₃
      refine (hvl.get hv').elim fun r q => q.2.elim fun tr ev => ?_
      subst ev
      have hb1 : 0 ≤ (lookD (chosenF (rightsF H) line) r).getD 0 ∧ (lookD (chosenF (rightsF H) line) r).getD 0 ≤ 4095 := hch r
      refine wpAny_assign_Name (st_local S₃₃ fun h₃₄ tk₃₄ S₃₄ => ?_)
      have hdc' : h₃₄.DictOf (strKind prg w) dc kvc := hdc₃₀.keep (kk.trans (hK''.trans S₃₄.x.kh))
      refine wpAny_tests_one (wpAny_isTrue_value (wpAny_BinOp (wpAny_BinOp ?_)))
      refine Call_method2 rfl rfl rfl (x_cell S₃₄.x c3 (get_d ⟨_, hdc'⟩ dc1 (x_local S₃₄.x rfl (wpAny_Constant_int ⟨r, _, 0, _, kvc, _, rfl, rfl, hdc', hrc, fun t₃₅ tk₃₅ => ?_⟩))))
      refine wpAny_BinOp (wpAny_Constant_int (x_cell S₃₄.x rfl (pow_int (by omega) (pow2 (by omega) (by omega)) (floordiv_int (Int.ne_of_gt hpw.1) ?_ (.inl (PyProof.noPylong_small (by omega)))))))
      refine wpAny_Constant_int (mod_int' (by decide) (truthy_int ?_))
      by_cases hb : bitF (chosenF (rightsF H) line) j r = true
      · refine br_t hb (x_local S₃₄.x rfl ?_)
        exact ⟨h₃₄, _, K₃₃, _, rfl, Le.refl _, bit_t hacc' q.1 hb ⟨_, rfl⟩, S₃₄⟩
      · have hb' : bitF (chosenF (rightsF H) line) j r = false := by simpa using hb
        refine br_f hb' ?_
        exact ⟨h₃₄, _, K₃₃, _, rfl, Le.refl _, bit_f hacc' q.1 hb', S₃₄⟩
    · rintro lr yr K₃₃ K₃₄ h₃₄ tk₃₄ hJr hK₃₃ g₃₄ plr _ hyrl
      have el : yr.length = (line.filter (bitF (chosenF (rightsF H) line) j)).length := by
        have e1 := hJr
        rw [List.take_of_length_le (by rw [hvl.length]; exact Nat.le_refl _)] at e1
        exact e1.length
      refine spliced_none (len_l (pl_le plr g₃₄.kh) (by show _ ≤ 16777216; omega) fun tk₃₅ t₃₅ => ?_)
      exact ⟨h₃₄, _, K₃₄, rfl, g₃₄, rng_more hacc (fun _ _ q => q) ⟨t₃₅, by rw [el]⟩⟩
    -->
  rintro lcn ycn K₃₂ K₃₃ h₃₃ tk₃₃ hJc hK₃₂ hK₃₃ S₃₃ plcn _
  clear S₃₁
  have hJc' : Rel2 IsI ycn ((List.range 12).map fun k => ((line.filter (bitF (chosenF (rightsF H) line) k)).length : Int)) := hJc
  have k3033 : Le K₃₀ K₃₃ := g₃₁.kk.trans hK₃₃
  have hu : ∀ A : Around, A.units < 9000 → A.in1.units < cLine := fun A h => by show A.units + 1 < 9900; omega
  have hu0 := hA'.units
  have hli : Rel2 (LPS h₃₃) yli (line.map fun r => (r, filemodeF (Builtin.bitOr 16384 (chF (chosenF (rightsF H) line) r)))) := by
    have e1 := hJli
    rw [List.take_of_length_le (by rw [hvl.length]; exact Nat.le_refl _)] at e1
    exact lps_le e1 (hK₁₄.trans (k1525.trans (k2530.trans (k3033.trans S₃₃.x.kh))))
  have hdu := lps_le hvd' (k3033.trans S₃₃.x.kh)
  -- the end
  refine wpAny_execs_cons (wpAny_Return_some (BoolOp_and ?_))
  refine wpAny_Compare1 (x_local S₃₃.x m2 (x_local S₃₃.x m1 ?_))
  refine eq_l (P := LPS h₃₃) (by omega) (pl_le plli (k1525.trans (k2530.trans (k3033.trans S₃₃.x.kh)))) (plain_of (S₃₃.has (rd, listO vd) (by simp)).1) hli hdu (fun v x u y p q => eqAt_pair (hu _ (by omega)) p q) ?_
  refine wpAny_truthy_bool (br_t (decide_eq_true eqL) ?_)
  refine BoolOp_one (wpAny_Compare1 (x_local S₃₃.x rfl ?_))
  have ylt12 : ylt.length = 12 := by rw [hJt'.length]; rfl
  refine ListComp_K rfl (by decide) rfl (by decide) (fun _ _ e => by cases e) List.Pairwise.nil (x_cell S₃₃.x c1
    ⟨_, _, _, _, _, (fun j K' acc => Rel2 IsI acc ((List.range j).map fun k => (tabsF H k).2)), src_list hA'.handled (pl_le plt (k2530.trans k3033)), S₃₃.x, by show _ ≤ 16777216; omega, .nil, ?_, ?_⟩)
  · rintro C j v K₃₄ m₃₄ acc R₃₄ h₃₄ tk₃₄ E₃₄ hj hv hK' hacc S₃₄
    --<
    have hj12 : j < 12 := by rw [← ylt12]; exact (List.getElem?_eq_some_iff.mp hv).1
    refine (hJt'.get hv).elim fun p qp => ?_
    have ep : p = tabsF H j := by
      have := qp.1
      rw [rng_get hj12] at this
      exact (Option.some.inj this).symm
    subst ep
    refine qp.2.elim fun at' q2 => q2.elim fun gt q2 => q2.elim fun tt q2 => q2.elim fun vg q2 => ?_
    have ev := q2.1
    subst ev
    refine assign_pair hA'.handled S₃₄ ((q2.2.1.le (k2530.trans (k3033.trans (hK'.trans S₃₄.x.kh)))).isTup) rfl rfl rfl fun h₃₅ tk₃₅ S₃₅ => wpAny_tests_nil (br_t rfl (x_local S₃₅.x rfl ?_))
    exact ⟨h₃₅, _, K₃₄, _, rfl, Le.refl _, rng_more hacc (fun _ _ q => q) ⟨_, rfl⟩, S₃₅⟩
    -->
  rintro lf yf K₃₄ K₃₅ h₃₅ tk₃₅ hJf hK₃₄ g₃₅ plf _ _
  have S₃₅ := S₃₃.grow g₃₅
  have hJf' : Rel2 IsI yf ((List.range 12).map fun k => (tabsF H k).2) := by
    have e1 := hJf
    rw [ylt12] at e1
    exact e1
  refine eq_l (P := IsI) (by omega) (pl_le plcn (g₃₅.kk.trans S₃₅.x.kh)) (pl_le plf S₃₅.x.kh) hJc' hJf' (fun v x u y p q => eqAt_int p q) ?_
  refine eq_ret eqC (h _ _ (up_but S₃₅.base) ?_)
  exact (S₃₅.has (125, fun o => ∃ ps, o = tabObj ps) (by simp)).1.elim fun o q => q.2.elim fun ps e => ⟨ps, e ▸ q.1⟩
end
end Mine
end
section
open PySem PySem.W PyProof.Rows
namespace Mine
/-! the ladders as a forest -/
def upOk (y : Str) : Bool :=
  !(decide (y ∈ (climbF y).tail)) && (climbF y).all (fun z => decide (z ∈ U) && (climbF z).all fun u => decide (u ∈ climbF y)) &&
  (climbF y).tail.all (fun z => decide ((climbF z).length < (climbF y).length) && (climbF z).all fun u => decide (u ∈ (climbF y).tail)) && decide ((climbF y).length ≤ 20) && decide (climbF y).Nodup
theorem U_up : U.all upOk = true := by decide +kernel
theorem up_facts {y : Str} (h : y ∈ U) : y ∉ (climbF y).tail ∧ (∀ z ∈ climbF y, z ∈ U ∧ ∀ u ∈ climbF z, u ∈ climbF y) ∧ (∀ z ∈ (climbF y).tail, (climbF z).length < (climbF y).length ∧ ∀ u ∈ climbF z, u ∈ (climbF y).tail) ∧ (climbF y).length ≤ 20 ∧ (climbF y).Nodup := by
  have := List.all_eq_true.mp U_up y h
  unfold upOk at this
  simp only [Bool.and_eq_true, Bool.not_eq_true', decide_eq_false_iff_not, List.all_eq_true, decide_eq_true_eq] at this
  obtain ⟨⟨⟨⟨a, b⟩, c⟩, d⟩, e⟩ := this
  exact ⟨a, b, c, d, e⟩
theorem climb_tail {x : Str} (h : x ∈ U) : (climbF x).tail = match parF x with | none => [] | some y => climbF y := by rw [climb_eq h]; rfl
theorem climb_ne {x : Str} (h : x ∈ U) : climbF x ≠ [] := by rw [climb_eq h]; simp
theorem climb_hd {x : Str} (h : x ∈ U) : hd0 (climbF x) = x := by rw [climb_eq h]; rfl
theorem mem_self {x : Str} (h : x ∈ U) : x ∈ climbF x := by rw [climb_eq h]; simp
theorem climb_mem {x z : Str} (h : x ∈ U) : z ∈ climbF x ↔ z = x ∨ z ∈ (climbF x).tail := by
  rw [climb_eq h]; simp
def inT (ys : List Str) (z : Str) : Bool := ys.any fun y => decide (z ∈ (climbF y).tail)
theorem inT_iff {ys : List Str} {z : Str} : inT ys z = true ↔ ∃ y ∈ ys, z ∈ (climbF y).tail := by simp [inT]
def AllU (ys : List Str) : Prop := ∀ y ∈ ys, y ∈ U
def stepY (x : Str) (ys : List Str) : List Str := ys.filterMap fun y => if y = x then parF x else some y
theorem mem_step {x z : Str} {ys : List Str} : z ∈ stepY x ys ↔ (z ∈ ys ∧ z ≠ x) ∨ (x ∈ ys ∧ parF x = some z) := by
  unfold stepY
  rw [List.mem_filterMap]
  constructor
  · rintro ⟨a, ha, e⟩
    by_cases h : a = x
    · rw [if_pos h] at e; exact .inr ⟨h ▸ ha, e⟩
    · rw [if_neg h] at e; cases e; exact .inl ⟨ha, h⟩
  · rintro (⟨h1, h2⟩ | ⟨h1, h2⟩)
    · exact ⟨z, h1, by rw [if_neg h2]⟩
    · exact ⟨x, h1, by rw [if_pos rfl]; exact h2⟩
theorem step_U {x : Str} {ys : List Str} (h : AllU ys) : AllU (stepY x ys) := fun z hz => by
  rcases mem_step.mp hz with ⟨h1, _⟩ | ⟨h1, h2⟩
  · exact h z h1
  · exact (par_mem (h x h1) h2).1
theorem inT_step {x z : Str} {ys : List Str} (h : AllU ys) (hx : x ∈ ys) : inT ys z = true ↔ inT (stepY x ys) z = true ∨ parF x = some z := by
  rw [inT_iff, inT_iff]
  have tx := climb_tail (h x hx)
  constructor
  · rintro ⟨y, hy, hz⟩
    by_cases e : y = x
    · subst e
      rw [tx] at hz
      cases p : parF y with
      | none => rw [p] at hz; cases hz
      | some q =>
        rw [p] at hz
        have hq := (par_mem (h y hx) p).1
        rcases (climb_mem hq).mp hz with r | r
        · exact .inr (by rw [r])
        · exact .inl ⟨q, mem_step.mpr (.inr ⟨hx, p⟩), r⟩
    · exact .inl ⟨y, mem_step.mpr (.inl ⟨hy, e⟩), hz⟩
  · rintro (⟨y, hy, hz⟩ | p)
    · rcases mem_step.mp hy with ⟨h1, _⟩ | ⟨_, h2⟩
      · exact ⟨y, h1, hz⟩
      · refine ⟨x, hx, ?_⟩
        rw [tx, h2]
        exact (climb_mem (par_mem (h x hx) h2).1).mpr (.inr hz)
    · refine ⟨x, hx, ?_⟩
      rw [tx, p]
      exact mem_self (par_mem (h x hx) p).1
/-! c3 on the nodes -/
theorem seqs_ne {ys : List Str} (h : AllU ys) : (ys.map climbF).filter neF = ys.map climbF := by
  rw [List.filter_eq_self]
  intro s hs
  obtain ⟨y, hy, rfl⟩ := List.mem_map.mp hs
  rw [climb_eq (h y hy)]; rfl
theorem cand_eq {ys : List Str} : ∀ {zs : List Str}, AllU zs → cand (ys.map climbF) (zs.map climbF) = zs.find? fun z => !inT ys z
  | [], _ => rfl
  | z :: zs, h => by
    have hz := h z List.mem_cons_self
    have e : (ys.map climbF).any (fun u => decide (z ∈ u.tail)) = inT ys z := by unfold inT; rw [List.any_map]; rfl
    have ih := cand_eq (ys := ys) (zs := zs) fun y hy => h y (List.mem_cons_of_mem _ hy)
    rw [List.map_cons, List.find?_cons]
    conv => lhs; unfold cand
    rw [climb_eq hz]
    dsimp only
    rw [e, ih]
    cases inT ys z <;> rfl
theorem pop_eq {x y : Str} (h : y ∈ U) : popH x (climbF y) = if y = x then (climbF y).tail else climbF y := by
  rw [climb_eq h]; unfold popH; rfl
theorem pop_step {x : Str} : ∀ {ys : List Str}, AllU ys → ((ys.map climbF).map (popH x)).filter neF = (stepY x ys).map climbF
  | [], _ => rfl
  | y :: ys, h => by
    have hy := h y List.mem_cons_self
    have ih := pop_step (x := x) (ys := ys) fun z hz => h z (List.mem_cons_of_mem _ hz)
    rw [List.map_cons, List.map_cons, List.filter_cons, ih, pop_eq hy]
    unfold stepY
    rw [List.filterMap_cons]
    by_cases e : y = x
    · subst e
      rw [if_pos rfl, if_pos rfl, climb_tail hy]
      cases p : parF y with
      | none => rfl
      | some q =>
        have hq := (par_mem hy p).1
        have hn : neF (climbF q) = true := by rw [climb_eq hq]; rfl
        show (if neF (climbF q) = true then climbF q :: _ else _) = climbF q :: _
        rw [if_pos hn]
    · rw [if_neg e, if_neg e]
      have hn : neF (climbF y) = true := by rw [climb_eq hy]; rfl
      rw [if_pos hn]; rfl
theorem c3_filter : ∀ (k : Nat) (ss : List (List Str)), c3N k ss = c3N k (ss.filter neF)
  | 0, _ => rfl
  | k + 1, ss => by
    unfold c3N
    rw [List.filter_filter]
    have : (fun a => neF a && neF a) = neF := by funext a; simp
    rw [this]
/-! first occurrences -/
def ddf : List Str → List Str → List Str
  | acc, [] => acc
  | acc, y :: l => ddf (if y ∈ acc then acc else acc ++ [y]) l
theorem ddf_cons (a : Str) : ∀ (l acc : List Str), ddf (a :: acc) l = a :: ddf acc (l.filter fun y => !decide (y = a))
  | [], acc => rfl
  | y :: l, acc => by
    rw [List.filter_cons]
    by_cases e : y = a
    · subst e
      rw [if_neg (by simp)]
      show ddf (if y ∈ y :: acc then _ else _) l = _
      rw [if_pos List.mem_cons_self]
      exact ddf_cons y l acc
    · rw [if_pos (by simpa using e)]
      show ddf (if y ∈ a :: acc then _ else _) l = a :: ddf (if y ∈ acc then _ else _) _
      by_cases h : y ∈ acc
      · rw [if_pos (List.mem_cons_of_mem _ h), if_pos h]; exact ddf_cons a l acc
      · rw [if_neg (by simp [e, h]), if_neg h]; exact ddf_cons a l (acc ++ [y])
theorem mem_ddf : ∀ (l acc : List Str) (z : Str), z ∈ ddf acc l ↔ z ∈ acc ∨ z ∈ l
  | [], acc, z => by simp [ddf]
  | y :: l, acc, z => by
    show z ∈ ddf _ l ↔ _
    rw [mem_ddf l]
    by_cases h : y ∈ acc
    · rw [if_pos h]
      constructor
      · rintro (r | r)
        · exact .inl r
        · exact .inr (List.mem_cons_of_mem _ r)
      · rintro (r | r)
        · exact .inl r
        · rcases List.mem_cons.mp r with rfl | r
          · exact .inl h
          · exact .inr r
    · rw [if_neg h]; simp [or_assoc]
def startsY (ys : List Str) : List Str := ddf [] (ys.filter fun z => !inT ys z)
theorem starts_eq {ys : List Str} (h : AllU ys) : startsF (ys.map climbF) = (startsY ys).map climbF := by
  have key : ∀ (l acc : List Str), AllU l → AllU acc → (l.map climbF).foldl (startStep (ys.map climbF)) (acc.map climbF) = (ddf acc (l.filter fun z => !inT ys z)).map climbF := by
    intro l
    induction l with
    | nil => intro acc _ _; rfl
    | cons y l ih =>
      intro acc hl ha
      have hy := hl y List.mem_cons_self
      have hl' : AllU l := fun z hz => hl z (List.mem_cons_of_mem _ hz)
      rw [List.map_cons, List.foldl_cons]
      have e1 : ((ys.map climbF).filter fun one => decide (hd0 (climbF y) ∈ one.drop 1)).isEmpty = !inT ys y := by
        rw [climb_hd hy, Bool.eq_iff_iff]
        simp only [List.isEmpty_iff, List.filter_eq_nil_iff, List.mem_map, decide_eq_true_eq, Bool.not_eq_true', List.drop_one]
        rw [← Bool.not_eq_true, inT_iff]
        constructor
        · rintro a ⟨y', h1, h2⟩; exact a _ ⟨y', h1, rfl⟩ h2
        · rintro a s ⟨y', h1, rfl⟩ h2; exact a ⟨y', h1, h2⟩
      have e2 : (acc.map climbF).map hd0 = acc := by
        rw [List.map_map]
        refine (List.map_congr_left fun z hz => ?_).trans (List.map_id acc)
        exact climb_hd (ha z hz)
      have e3 : startStep (ys.map climbF) (acc.map climbF) (climbF y) = if (!inT ys y) = true then (if y ∈ acc then acc else acc ++ [y]).map climbF else acc.map climbF := by
        unfold startStep
        rw [e1, e2, climb_hd hy]
        cases inT ys y
        · by_cases hm : y ∈ acc <;> simp [hm]
        · simp
      rw [e3, List.filter_cons]
      cases hT : inT ys y
      · simp only [Bool.not_false, if_true]
        refine ih _ hl' ?_
        by_cases hm : y ∈ acc
        · rw [if_pos hm]; exact ha
        · rw [if_neg hm]
          intro z hz
          rcases List.mem_append.mp hz with r | r
          · exact ha z r
          · cases List.mem_singleton.mp r; exact hy
      · simp only [Bool.not_true, Bool.false_eq_true, if_false]
        exact ih _ hl' ha
  exact key ys [] h (fun _ h => nomatch h)
theorem fold_split : ∀ (ls : List (List Str)) (o : List Str), ls.foldl orderStep o = o.filter (fun r => !ls.any fun l => decide (r ∈ l)) ++ ls.foldl orderStep []
  | [], o => by
    simp only [List.foldl_nil, List.any_nil, Bool.not_false, List.append_nil]
    exact (List.filter_eq_self.mpr (by simp)).symm
  | ld :: ls, o => by
    rw [List.foldl_cons, List.foldl_cons, fold_split ls (orderStep o ld), fold_split ls (orderStep [] ld)]
    unfold orderStep
    rw [List.filter_append, List.filter_append, List.filter_filter]
    simp only [List.filter_nil, List.nil_append, List.any_cons, Bool.not_or, List.append_assoc]
    congr 1
    refine List.filter_congr fun r _ => ?_
    rw [Bool.and_comm]
theorem below {ys : List Str} (h : AllU ys) : ∀ (k : Nat) (y : Str), y ∈ ys → 20 ≤ (climbF y).length + k → ∃ s ∈ startsY ys, y ∈ climbF s
  | 0, y, hy, hk => by
    refine ⟨y, (mem_ddf _ _ _).mpr (.inr (List.mem_filter.mpr ⟨hy, ?_⟩)), mem_self (h y hy)⟩
    simp only [Bool.not_eq_true']
    rw [← Bool.not_eq_true, inT_iff]
    rintro ⟨y2, h2, hz⟩
    have f := up_facts (h y2 h2)
    have := (f.2.2.1 y hz).1
    have := f.2.2.2.1
    omega
  | k + 1, y, hy, hk => by
    by_cases hT : inT ys y = true
    · obtain ⟨y2, h2, hz⟩ := inT_iff.mp hT
      have f := up_facts (h y2 h2)
      have := (f.2.2.1 y hz).1
      obtain ⟨s, hs, hm⟩ := below h k y2 h2 (by omega)
      refine ⟨s, hs, ?_⟩
      have hsU : s ∈ U := h s (List.mem_filter.mp ((mem_ddf _ _ _).mp hs |>.resolve_left (by simp))).1
      exact ((up_facts hsU).2.1 y2 hm).2 y ((climb_mem (h y2 h2)).mpr (.inr hz))
    · refine ⟨y, (mem_ddf _ _ _).mpr (.inr (List.mem_filter.mpr ⟨hy, by simpa using hT⟩)), mem_self (h y hy)⟩
theorem cand_some {ys : List Str} (h : AllU ys) (hne : ys ≠ []) : ∃ x, (ys.find? fun z => !inT ys z) = some x ∧ x ∈ ys ∧ inT ys x = false := by
  cases ys with
  | nil => exact absurd rfl hne
  | cons y l =>
    obtain ⟨s, hs, _⟩ := below h 20 y List.mem_cons_self (by omega)
    have hs' := (mem_ddf _ _ _).mp hs |>.resolve_left (by simp)
    cases e : (y :: l).find? fun z => !inT (y :: l) z with
    | none =>
      have := List.find?_eq_none.mp e s (List.mem_filter.mp hs').1
      exact absurd (List.mem_filter.mp hs').2 this
    | some x =>
      refine ⟨x, rfl, List.mem_of_find?_eq_some e, ?_⟩
      have := List.find?_some e
      simpa using this
theorem find_split {f : Str → Bool} {x : Str} : ∀ {l : List Str}, l.find? f = some x → ∃ r, l.filter f = x :: r
  | [], h => by cases h
  | y :: l, h => by
    rw [List.find?_cons] at h
    rw [List.filter_cons]
    cases e : f y with
    | true => rw [e] at h; cases h; exact ⟨_, rfl⟩
    | false => rw [e] at h; simpa using find_split h
theorem starts_cons {ys : List Str} {f : Str → Bool} {x : Str} (h : ys.find? f = some x) : ddf [] (ys.filter f) = x :: ddf [] ((ys.filter f).filter fun y => !decide (y = x)) := by
  obtain ⟨r, e⟩ := find_split h
  rw [e]
  show ddf (if x ∈ [] then [] else [] ++ [x]) r = _
  rw [if_neg (by simp), List.nil_append, ddf_cons, List.filter_cons]
  simp
/-- the starts behind the first one -/
def restY (x : Str) (ys : List Str) : List Str := ddf [] ((ys.filter fun z => !inT ys z).filter fun y => !decide (y = x))
theorem mem_rest {x z : Str} {ys : List Str} : z ∈ restY x ys ↔ z ∈ ys ∧ inT ys z = false ∧ z ≠ x := by
  unfold restY
  rw [mem_ddf, List.mem_filter, List.mem_filter]
  simp
  constructor
  · rintro ⟨⟨a, b⟩, c⟩; exact ⟨a, b, c⟩
  · rintro ⟨a, b, c⟩; exact ⟨⟨a, b⟩, c⟩
theorem filt_step {f : Str → Bool} {x : Str} (hp : ∀ p, parF x = some p → f p = false) : ∀ ys : List Str, (stepY x ys).filter f = (ys.filter f).filter fun y => !decide (y = x)
  | [] => rfl
  | y :: ys => by
    have ih := filt_step hp ys
    unfold stepY at ih ⊢
    rw [List.filterMap_cons]
    by_cases e : y = x
    · subst e
      rw [if_pos rfl]
      have e2 : ((y :: ys).filter f).filter (fun z => !decide (z = y)) = (ys.filter f).filter fun z => !decide (z = y) := by
        rw [List.filter_cons]
        cases f y
        · simp
        · simp
      rw [e2, ← ih]
      cases p : parF y with
      | none => rfl
      | some q =>
        dsimp only
        rw [List.filter_cons, hp q p]; simp
    · rw [if_neg e]
      dsimp only
      rw [List.filter_cons, List.filter_cons]
      cases hf : f y
      · simpa using ih
      · simp only [if_true]
        rw [List.filter_cons, ih]
        simp [e]
theorem find_step {f f' : Str → Bool} {x p : Str} (hx : f x = true) (hp : parF x = some p) (hf : ∀ z, f' z = (f z || decide (z = p))) : ∀ ys : List Str, ys.find? f = some x → (stepY x ys).find? f' = some p
  | [], h => by cases h
  | y :: ys, h => by
    rw [List.find?_cons] at h
    unfold stepY
    rw [List.filterMap_cons]
    cases e : f y with
    | true =>
      rw [e] at h; cases h
      rw [if_pos rfl, hp]
      dsimp only
      rw [List.find?_cons, hf p]; simp
    | false =>
      rw [e] at h
      have hne : y ≠ x := fun q => by rw [q, hx] at e; cases e
      rw [if_neg hne]
      dsimp only
      rw [List.find?_cons, hf y, e]
      by_cases q : y = p
      · simp [q]
      · simp only [Bool.false_or, q, decide_false]
        exact find_step hx hp hf ys h
theorem orderF_starts {ys : List Str} (h : AllU ys) : orderF (ys.map climbF) = ((startsY ys).map climbF).foldl orderStep [] := by
  unfold orderF; rw [starts_eq h]
theorem order_one (x : Str) (A : List Str) : ((x :: A).map climbF).foldl orderStep [] = (climbF x).filter (fun r => !(A.map climbF).any fun l => decide (r ∈ l)) ++ (A.map climbF).foldl orderStep [] := by
  rw [List.map_cons, List.foldl_cons, fold_split]
  unfold orderStep
  simp
/-- the key: the first candidate goes ahead -/
theorem order_step {ys : List Str} {x : Str} (h : AllU ys) (hx : (ys.find? fun z => !inT ys z) = some x) : orderF (ys.map climbF) = x :: orderF ((stepY x ys).map climbF) := by
  have hm : x ∈ ys := List.mem_of_find?_eq_some hx
  have hT : inT ys x = false := by have := List.find?_some hx; simpa using this
  have hU := h x hm
  have hs : startsY ys = x :: restY x ys := starts_cons hx
  have h' := step_U (x := x) h
  have nx : ∀ a ∈ restY x ys, x ∉ climbF a := fun a ha hxa => by
    obtain ⟨a1, a2, a3⟩ := mem_rest.mp ha
    rcases (climb_mem (h a a1)).mp hxa with r | r
    · exact a3 r.symm
    · have := inT_iff.mpr ⟨a, a1, r⟩
      rw [hT] at this; cases this
  have e1 : (climbF x).filter (fun r => !((restY x ys).map climbF).any fun l => decide (r ∈ l)) = x :: (climbF x).tail.filter (fun r => !((restY x ys).map climbF).any fun l => decide (r ∈ l)) := by
    have hb : (!((restY x ys).map climbF).any fun l => decide (x ∈ l)) = true := by
      rw [Bool.not_eq_true', List.any_eq_false]
      intro l hl
      obtain ⟨a, ha, rfl⟩ := List.mem_map.mp hl
      simpa using nx a ha
    have ec : climbF x = x :: (climbF x).tail := by rw [climb_tail hU]; exact climb_eq hU
    conv => lhs; rw [ec]
    rw [List.filter_cons, if_pos hb]
  rw [orderF_starts h, orderF_starts h', hs, order_one, e1, List.cons_append]
  congr 1
  have iT := fun z => inT_step (z := z) h hm
  cases hp : parF x with
  | none =>
    have et : (climbF x).tail = [] := by rw [climb_tail hU, hp]
    have eT : ∀ z, inT (stepY x ys) z = inT ys z := fun z => by rw [Bool.eq_iff_iff, iT z, hp]; simp
    have es : startsY (stepY x ys) = restY x ys := by
      unfold startsY restY
      rw [← filt_step (fun p e => by rw [hp] at e; cases e) ys]
      congr 1
      exact List.filter_congr fun z _ => by rw [eT]
    rw [et, es]; simp
  | some p =>
    have hpU := (par_mem hU hp).1
    have et : (climbF x).tail = climbF p := by rw [climb_tail hU, hp]
    have pT : inT ys p = true := (iT p).mpr (.inr hp)
    have ef := filt_step (f := fun z => !inT ys z) (x := x) (fun q e => by rw [hp] at e; cases e; simp [pT]) ys
    cases hq : inT (stepY x ys) p with
    | true =>
      have eT : ∀ z, inT (stepY x ys) z = inT ys z := fun z => by
        rw [Bool.eq_iff_iff, iT z, hp]
        constructor
        · exact .inl
        · rintro (r | r)
          · exact r
          · cases r; exact hq
      have es : startsY (stepY x ys) = restY x ys := by
        unfold startsY restY
        rw [← ef]
        congr 1
        exact List.filter_congr fun z _ => by rw [eT]
      obtain ⟨y', hy', hz⟩ := inT_iff.mp hq
      obtain ⟨s, hs', hm'⟩ := below h' 20 y' hy' (by omega)
      rw [es] at hs'
      have sU : s ∈ U := h s (mem_rest.mp hs').1
      have ps : p ∈ climbF s := ((up_facts sU).2.1 y' hm').2 p ((climb_mem (h' y' hy')).mpr (.inr hz))
      have e3 : (climbF p).filter (fun r => !((restY x ys).map climbF).any fun l => decide (r ∈ l)) = [] := by
        rw [List.filter_eq_nil_iff]
        intro u hu
        simp only [Bool.not_eq_true', Bool.not_eq_false, List.any_map, List.any_eq_true, Function.comp, decide_eq_true_eq]
        exact ⟨s, hs', ((up_facts sU).2.1 p ps).2 u hu⟩
      rw [et, es, e3]; rfl
    | false =>
      have eT : ∀ z, (!inT (stepY x ys) z) = (!inT ys z || decide (z = p)) := fun z => by
        rw [Bool.eq_iff_iff]
        have := iT z
        rw [hp] at this
        simp only [Bool.not_eq_true', Bool.or_eq_true, decide_eq_true_eq]
        constructor
        · intro r
          by_cases e : z = p
          · exact .inr e
          · refine .inl ?_
            rw [← Bool.not_eq_true, this]
            rintro (q | q)
            · rw [r] at q; cases q
            · cases q; exact e rfl
        · rintro (r | r)
          · rw [← Bool.not_eq_true]
            intro q
            rw [this.mpr (.inl q)] at r; cases r
          · rw [r]; exact hq
      have hfind := find_step (f := fun z => !inT ys z) (f' := fun z => !inT (stepY x ys) z) (x := x) (p := p) (by simp [hT]) hp eT ys hx
      have es : startsY (stepY x ys) = p :: restY x ys := by
        unfold startsY
        rw [starts_cons hfind]
        unfold restY
        congr 2
        rw [← ef, List.filter_filter]
        refine List.filter_congr fun z _ => ?_
        have := eT z
        rw [this]
        by_cases e : z = p
        · subst e; simp [pT]
        · simp [e]
      rw [et, es, order_one]
/-! the merge -/
def Topo : List Str → Prop
  | [] => True
  | r :: rest => (∀ p, parF r = some p → p ∈ rest) ∧ Topo rest
def wt (ys : List Str) : Nat := (ys.map fun y => (climbF y).length).sum
theorem wt_step {x : Str} : ∀ {ys : List Str}, AllU ys → wt (stepY x ys) + ys.count x ≤ wt ys
  | [], _ => by simp [wt, stepY]
  | y :: ys, h => by
    have hy := h y List.mem_cons_self
    have ih := wt_step (x := x) (ys := ys) fun z hz => h z (List.mem_cons_of_mem _ hz)
    unfold wt stepY at ih ⊢
    rw [List.filterMap_cons]
    by_cases e : y = x
    · subst e
      rw [if_pos rfl, List.count_cons_self, List.map_cons, List.sum_cons]
      have ht := congrArg List.length (climb_tail hy)
      have hl : (climbF y).length = (climbF y).tail.length + 1 := by rw [climb_eq hy]; rfl
      cases p : parF y with
      | none =>
        simp only [p] at ih
        dsimp only
        omega
      | some q =>
        rw [p] at ht
        simp only [p] at ih
        have ht : (climbF y).tail.length = (climbF q).length := ht
        dsimp only
        rw [List.map_cons, List.sum_cons]
        omega
    · rw [if_neg e, List.count_cons_of_ne (by simpa using e)]
      dsimp only
      rw [List.map_cons, List.map_cons, List.sum_cons, List.sum_cons]
      omega
theorem merge : ∀ (k : Nat) (ys : List Str), AllU ys → wt ys < k → ∃ L, c3N k (ys.map climbF) = some L ∧ orderF (ys.map climbF) = L ∧ Topo L ∧ L.Nodup ∧ (∀ r, r ∈ L ↔ ∃ y ∈ ys, r ∈ climbF y) ∧ L.length ≤ wt ys
  | 0, _, _, h => absurd h (Nat.not_lt_zero _)
  | k + 1, ys, h, hk => by
    by_cases hn : ys = []
    · subst hn
      exact ⟨[], rfl, rfl, trivial, .nil, (fun r => by simp), Nat.zero_le _⟩
    · obtain ⟨x, hx, hm, hT⟩ := cand_some h hn
      have hU := h x hm
      have h' := step_U (x := x) h
      have hw := wt_step (x := x) h
      have hc : 0 < ys.count x := List.count_pos_iff.mpr hm
      obtain ⟨L, c1, c2, c3, c4, c5, c6⟩ := merge k (stepY x ys) h' (by omega)
      have hns : ys.map climbF ≠ [] := by simpa using hn
      refine ⟨x :: L, ?_, ?_, ?_, ?_, ?_, ?_⟩
      · conv => lhs; unfold c3N
        rw [seqs_ne h, if_neg hns, cand_eq h, hx]
        dsimp only
        rw [c3_filter, pop_step h, c1]; rfl
      · rw [order_step h hx, c2]
      · refine ⟨fun p hp => ?_, c3⟩
        exact (c5 p).mpr ⟨p, mem_step.mpr (.inr ⟨hm, hp⟩), mem_self (par_mem hU hp).1⟩
      · refine List.nodup_cons.mpr ⟨fun hxL => ?_, c4⟩
        obtain ⟨y, hy, hz⟩ := (c5 x).mp hxL
        rcases mem_step.mp hy with ⟨h1, h2⟩ | ⟨_, h2⟩
        · rcases (climb_mem (h y h1)).mp hz with r | r
          · exact h2 r.symm
          · have := inT_iff.mpr ⟨y, h1, r⟩
            rw [hT] at this; cases this
        · have := (up_facts hU).1
          rw [climb_tail hU, h2] at this
          exact this hz
      · intro r
        rw [List.mem_cons, c5]
        constructor
        · rintro (e | ⟨y, hy, hz⟩)
          · exact ⟨x, hm, by rw [e]; exact mem_self hU⟩
          · rcases mem_step.mp hy with ⟨h1, _⟩ | ⟨_, h2⟩
            · exact ⟨y, h1, hz⟩
            · refine ⟨x, hm, (climb_mem hU).mpr (.inr ?_)⟩
              rw [climb_tail hU, h2]; exact hz
        · rintro ⟨y, hy, hz⟩
          by_cases e : y = x
          · subst e
            rcases (climb_mem hU).mp hz with q | q
            · exact .inl q
            · rw [climb_tail hU] at q
              cases p : parF y with
              | none => rw [p] at q; cases q
              | some u =>
                rw [p] at q
                exact .inr ⟨u, mem_step.mpr (.inr ⟨hm, p⟩), q⟩
          · exact .inr ⟨y, mem_step.mpr (.inl ⟨hy, e⟩), hz⟩
      · rw [List.length_cons]; omega
end Mine
end
section
open PySem PySem.W PyProof.Rows
namespace Mine
/-! the hosts -/
def allLabs : List (List Str) :=
  let L := [Str.ofString "a", Str.ofString "b"]
  let T := [Str.ofString "local", Str.ofString "com", Str.ofString "7"]
  T.flatMap fun t => (L.map fun a => [a, t]) ++ (L.flatMap fun a => L.map fun b => [a, b, t]) ++ (L.flatMap fun a => L.flatMap fun b => L.map fun c => [a, b, c, t])
def labOk (xs : List Str) : Bool := !xs.isEmpty && decide (joinF xs ∈ U) && decide ((xs.map (·.length)).sum + xs.length ≤ 1000) && decide (ladderF xs = climbF (joinF xs))
theorem labs_ok : allLabs.all labOk = true := by decide +kernel
theorem lab_ab (n k : Int) : labF n k = Str.ofString "a" ∨ labF n k = Str.ofString "b" := by
  unfold labF
  have h0 : 0 ≤ ((n.fdiv 12).fdiv (2 ^ k.toNat)).fmod 2 := Int.fmod_nonneg_of_pos _ (by decide)
  have h1 : ((n.fdiv 12).fdiv (2 ^ k.toNat)).fmod 2 < 2 := Int.fmod_lt_of_pos _ (by decide)
  generalize ((n.fdiv 12).fdiv (2 ^ k.toNat)).fmod 2 = m at h0 h1
  have : m = 0 ∨ m = 1 := by omega
  rcases this with rfl | rfl
  · left; decide +kernel
  · right; decide +kernel
theorem tl_mem (i : Int) (h0 : 0 ≤ i) (h1 : i < 4) : tlF i = Str.ofString "local" ∨ tlF i = Str.ofString "com" ∨ tlF i = Str.ofString "7" := by
  have : i = 0 ∨ i = 1 ∨ i = 2 ∨ i = 3 := by omega
  rcases this with rfl | rfl | rfl | rfl
  · exact .inl rfl
  · exact .inr (.inl rfl)
  · exact .inr (.inr rfl)
  · exact .inl rfl
theorem host_labs (n : Int) : (hostN n).1 ∈ allLabs := by
  unfold hostN
  dsimp only
  have b0 : 0 ≤ n.fmod 3 := Int.fmod_nonneg_of_pos _ (by decide)
  have b1 : n.fmod 3 < 3 := Int.fmod_lt_of_pos _ (by decide)
  have t0 : 0 ≤ (n.fdiv 3).fmod 4 := Int.fmod_nonneg_of_pos _ (by decide)
  have t1 : (n.fdiv 3).fmod 4 < 4 := Int.fmod_lt_of_pos _ (by decide)
  have ht := tl_mem _ t0 t1
  generalize tlF ((n.fdiv 3).fmod 4) = t at ht
  have hl : (1 + n.fmod 3).toNat = 1 ∨ (1 + n.fmod 3).toNat = 2 ∨ (1 + n.fmod 3).toNat = 3 := by omega
  have l0 := lab_ab n 0
  have l1 := lab_ab n 1
  have l2 := lab_ab n 2
  rcases hl with e | e | e <;> rw [e]
  · show [labF n 0] ++ [t] ∈ _
    generalize labF n 0 = a at l0
    rcases l0 with rfl | rfl <;> rcases ht with rfl | rfl | rfl <;> decide +kernel
  · show [labF n 0, labF n 1] ++ [t] ∈ _
    generalize labF n 0 = a at l0
    generalize labF n 1 = b at l1
    rcases l0 with rfl | rfl <;> rcases l1 with rfl | rfl <;> rcases ht with rfl | rfl | rfl <;> decide +kernel
  · show [labF n 0, labF n 1, labF n 2] ++ [t] ∈ _
    generalize labF n 0 = a at l0
    generalize labF n 1 = b at l1
    generalize labF n 2 = c at l2
    rcases l0 with rfl | rfl <;> rcases l1 with rfl | rfl <;> rcases l2 with rfl | rfl <;> rcases ht with rfl | rfl | rfl <;> decide +kernel
theorem host_ok {p : Host} (h : p.1 ∈ allLabs) (h0 : 0 ≤ p.2) (h1 : p.2 ≤ 4095) : HostOk p := by
  have := List.all_eq_true.mp labs_ok _ h
  unfold labOk at this
  simp only [Bool.and_eq_true, Bool.not_eq_true', decide_eq_true_eq] at this
  obtain ⟨⟨⟨a, b⟩, c⟩, d⟩ := this
  refine ⟨fun e => ?_, b, c, ⟨h0, h1⟩, d⟩
  rw [e] at a; cases a
theorem hosts_ok (ns : List Int) : (∀ p ∈ hostsF ns, HostOk p) ∧ (hostsF ns).length ≤ 6 := by
  constructor
  · intro p hp
    rcases List.mem_append.mp hp with q | q
    · rcases List.mem_cons.mp q with rfl | q
      · exact host_ok (by decide +kernel) (by decide) (by decide)
      · cases List.mem_singleton.mp q
        exact host_ok (by decide +kernel) (by decide) (by decide)
    · obtain ⟨x, _, rfl⟩ := List.mem_map.mp q
      have r0 : 0 ≤ (hostF x).2 := Int.fmod_nonneg_of_pos _ (by decide)
      have r1 : (hostF x).2 < 4096 := Int.fmod_lt_of_pos _ (by decide)
      exact host_ok (host_labs _) r0 (by omega)
  · unfold hostsF
    rw [List.length_append, List.length_map, List.length_take]
    show 2 + _ ≤ 6
    omega
/-- the line of the hosts -/
theorem line_ok {H : List Host} (hH : ∀ p ∈ H, HostOk p) (hl : H.length ≤ 6) : ∃ L, c3N 200 (climbsF H) = some L ∧ orderF (climbsF H) = L ∧ Topo L ∧ L.Nodup ∧ (∀ r, r ∈ L ↔ ∃ y ∈ H.map jn, r ∈ climbF y) ∧ (∀ r ∈ L, r ∈ U) ∧ L.length ≤ 200 := by
  have hu : AllU (H.map jn) := fun y hy => by
    obtain ⟨p, hp, rfl⟩ := List.mem_map.mp hy
    exact (hH p hp).2.1
  have hw : ∀ ys : List Str, AllU ys → wt ys ≤ 20 * ys.length := by
    intro ys
    induction ys with
    | nil => intro _; exact Nat.le_refl _
    | cons y r ih =>
      intro h
      have h1 := ih fun z hz => h z (List.mem_cons_of_mem _ hz)
      have h2 := (up_facts (h y List.mem_cons_self)).2.2.2.1
      unfold wt at h1 ⊢
      rw [List.map_cons, List.sum_cons, List.length_cons]
      omega
  have hw1 := hw _ hu
  rw [List.length_map] at hw1
  obtain ⟨L, c1, c2, c3, c4, c5, c6⟩ := merge 200 (H.map jn) hu (by omega)
  have e : (H.map jn).map climbF = climbsF H := by unfold climbsF; rw [List.map_map]; rfl
  rw [e] at c1 c2
  refine ⟨L, c1, c2, c3, c4, c5, fun r hr => ?_, by omega⟩
  obtain ⟨y, hy, hz⟩ := (c5 r).mp hr
  exact ((up_facts (hu y hy)).2.1 r hz).1
end Mine
end
section
open PySem PySem.W PyProof.Rows
namespace Mine
def bitN (z : Int) (k : Nat) : Bool := z.toNat.testBit k
theorem and_nn {a b : Int} (ha : 0 ≤ a) (hb : 0 ≤ b) : Builtin.bitAnd a b = ((a.toNat &&& b.toNat : Nat) : Int) := by
  unfold Builtin.bitAnd
  rw [decide_eq_true ha, decide_eq_true hb]
theorem or_nn {a b : Int} (ha : 0 ≤ a) (hb : 0 ≤ b) : Builtin.bitOr a b = ((a.toNat ||| b.toNat : Nat) : Int) := by
  unfold Builtin.bitOr Builtin.bitAnd
  have h1 : decide (0 ≤ Builtin.bitNot a) = false := decide_eq_false (by unfold Builtin.bitNot; omega)
  have h2 : decide (0 ≤ Builtin.bitNot b) = false := decide_eq_false (by unfold Builtin.bitNot; omega)
  rw [h1, h2]
  have e : ∀ x : Int, Builtin.bitNot (Builtin.bitNot x) = x := fun x => by unfold Builtin.bitNot; omega
  simp only [e]
theorem testBit_big {c : Nat} (h : c < 4096) {i : Nat} (hi : 12 ≤ i) : c.testBit i = false :=
  Nat.testBit_lt_two_pow (Nat.lt_of_lt_of_le h (show 4096 ≤ 2 ^ i from Nat.le_trans (by decide : 4096 ≤ 2 ^ 12) (Nat.pow_le_pow_right (by decide) hi)))
theorem xor_nn {c : Int} (h0 : 0 ≤ c) (h1 : c ≤ 4095) : Builtin.bitXor 4095 c = 4095 - c := by
  unfold Builtin.bitXor
  rw [or_nn (by decide) h0, and_nn (by decide) h0]
  have e1 : (4095 : Int).toNat ||| c.toNat = 4095 := by
    refine Nat.eq_of_testBit_eq fun i => ?_
    rw [Nat.testBit_or]
    have e4 : Nat.testBit 4095 i = decide (i < 12) := Nat.testBit_two_pow_sub_one 12 i
    show (Nat.testBit 4095 i || c.toNat.testBit i) = Nat.testBit 4095 i
    rw [e4]
    by_cases hi : i < 12
    · simp [hi]
    · rw [testBit_big (by omega) (by omega)]; simp
  have e2 : (4095 : Int).toNat &&& c.toNat = c.toNat := by
    rw [Nat.and_comm]
    show c.toNat &&& (2 ^ 12 - 1) = _
    rw [Nat.and_two_pow_sub_one_eq_mod]
    exact Nat.mod_eq_of_lt (by omega)
  rw [e1, e2]; omega
def B12 (z : Int) : Prop := 0 ≤ z ∧ z ≤ 4095
theorem bit_and {a b : Int} (ha : B12 a) (hb : B12 b) (k : Nat) : bitN (Builtin.bitAnd a b) k = (bitN a k && bitN b k) ∧ B12 (Builtin.bitAnd a b) := by
  have := Nat.and_lt_two_pow (n := 12) a.toNat (y := b.toNat) (by obtain ⟨_, h⟩ := hb; omega)
  rw [and_nn ha.1 hb.1]
  refine ⟨?_, by omega, by omega⟩
  unfold bitN
  rw [Int.toNat_natCast, Nat.testBit_and]
theorem bit_or {a b : Int} (ha : B12 a) (hb : B12 b) (k : Nat) : bitN (Builtin.bitOr a b) k = (bitN a k || bitN b k) ∧ B12 (Builtin.bitOr a b) := by
  have := Nat.or_lt_two_pow (n := 12) (x := a.toNat) (y := b.toNat) (by obtain ⟨_, h⟩ := ha; omega) (by obtain ⟨_, h⟩ := hb; omega)
  rw [or_nn ha.1 hb.1]
  refine ⟨?_, by omega, by omega⟩
  unfold bitN
  rw [Int.toNat_natCast, Nat.testBit_or]
theorem bit_xor {c : Int} (hc : B12 c) {k : Nat} (hk : k < 12) : bitN (Builtin.bitXor 4095 c) k = (!bitN c k) ∧ B12 (Builtin.bitXor 4095 c) := by
  rw [xor_nn hc.1 hc.2]
  refine ⟨?_, by obtain ⟨h1, h2⟩ := hc; constructor <;> omega⟩
  unfold bitN
  have e : (4095 - c).toNat = 2 ^ 12 - (c.toNat + 1) := by obtain ⟨h1, h2⟩ := hc; omega
  rw [e, Nat.testBit_two_pow_sub_succ (by obtain ⟨h1, h2⟩ := hc; omega)]
  simp [hk]
theorem par_iff {x r : Str} : parF x = some r ↔ reachF x ≠ x ∧ r = upS x := by
  unfold parF upS
  by_cases h : reachF x = x
  · simp [h]
  · simp only [h, if_false, ne_eq, not_false_eq_true, true_and, Option.some.injEq]
    exact eq_comm
def gStep (R : Str → Bool) (c : Str → Bool) (x : Str) : Str → Bool := fun r => c r || (decide (parF x = some r) && R x && R r && !c x)
def AllB (F : List (Str × Int)) : Prop := ∀ r, B12 (chF F r)
theorem ch_step {rt F : List (Str × Int)} (hr : ∀ r, B12 (rtF rt r)) (hF : AllB F) (x : Str) : AllB (chStep rt F x) ∧ ∀ k, k < 12 → (fun r => bitN (chF (chStep rt F x) r) k) = gStep (fun r => bitN (rtF rt r) k) (fun r => bitN (chF F r) k) x := by
  have hx := fun k hk => bit_xor (hF x) (k := k) hk
  have ha := fun k => bit_and (hr x) (hr (upS x)) k
  have hh := fun k => bit_and (ha 0).2 (hx 0 (by decide)).2 k
  have hn := fun k => bit_or (hF (upS x)) (b := handF rt F x) (hh 0).2 k
  have look : ∀ r, chF (chStep rt F x) r = if parF x = some r then Builtin.bitOr (chF F (upS x)) (handF rt F x) else chF F r := fun r => by
    unfold chStep
    by_cases h : reachF x = x
    · rw [if_pos h, if_neg (fun e => (par_iff.mp e).1 h)]
    · rw [if_neg h]
      conv => lhs; unfold chF
      rw [lookD_put]
      by_cases e : r = upS x
      · rw [if_pos e, if_pos (par_iff.mpr ⟨h, e⟩)]; rfl
      · rw [if_neg e, if_neg (fun q => e (par_iff.mp q).2)]; rfl
  constructor
  · intro r
    rw [look]
    split
    · exact (hn 0).2
    · exact hF r
  · intro k hk
    funext r
    unfold gStep
    rw [look]
    by_cases e : parF x = some r
    · rw [if_pos e, (hn k).1]
      have er := (par_iff.mp e).2
      unfold handF
      rw [(hh k).1, (ha k).1, (hx k hk).1, ← er, decide_eq_true e]
      simp
    · rw [if_neg e, decide_eq_false e]; simp
theorem chosen_bits {rt : List (Str × Int)} (hr : ∀ r, B12 (rtF rt r)) (line : List Str) : AllB (chosenF rt line) ∧ ∀ k, k < 12 → (fun r => bitN (chF (chosenF rt line) r) k) = line.foldl (gStep fun r => bitN (rtF rt r) k) fun _ => false := by
  have key : ∀ (l : List Str) (F : List (Str × Int)), AllB F → AllB (l.foldl (chStep rt) F) ∧ ∀ k, k < 12 → (fun r => bitN (chF (l.foldl (chStep rt) F) r) k) = l.foldl (gStep fun r => bitN (rtF rt r) k) fun r => bitN (chF F r) k := by
    intro l
    induction l with
    | nil => intro F hF; exact ⟨hF, fun _ _ => rfl⟩
    | cons x l ih =>
      intro F hF
      have s := ch_step hr hF x
      have := ih _ s.1
      refine ⟨this.1, fun k hk => ?_⟩
      rw [List.foldl_cons, List.foldl_cons, this.2 k hk, s.2 k hk]
  have := key line [] (fun r => ⟨by show 0 ≤ (0 : Int); decide, by show (0 : Int) ≤ 4095; decide⟩)
  refine ⟨this.1, fun k hk => ?_⟩
  have e := this.2 k hk
  have z : (fun r => bitN (chF [] r) k) = fun _ => false := by funext r; show (0 : Int).toNat.testBit k = false; simp
  rw [z] at e
  exact e
theorem bit_div {z : Int} (h : 0 ≤ z) (k : Nat) : ((z.fdiv ((2 : Int) ^ (k : Int).toNat)).fmod 2 != 0) = bitN z k := by
  obtain ⟨n, rfl⟩ := Int.eq_ofNat_of_zero_le h
  have p : (0 : Int) ≤ (2 : Int) ^ k := Int.le_of_lt (Int.pow_pos (by decide))
  rw [Int.toNat_natCast, Int.fdiv_eq_ediv_of_nonneg _ p, Int.fmod_eq_emod_of_nonneg _ (by decide)]
  unfold bitN
  rw [Int.toNat_natCast, Nat.testBit_eq_decide_div_mod_eq]
  have e : ((n : Int) / (2 : Int) ^ k % 2) = ((n / 2 ^ k % 2 : Nat) : Int) := by simp
  rw [e]
  have : n / 2 ^ k % 2 = 0 ∨ n / 2 ^ k % 2 = 1 := by omega
  rcases this with q | q <;> rw [q] <;> rfl
end Mine
end
section
open PySem PySem.W PyProof.Rows
namespace Mine
def woV (st : TS) (r : Str) : Int := (lookD st.wo r).getD 0
def tkV (st : TS) (r : Str) : Int := (lookD st.tk r).getD 0
def miV (st : TS) (x : Str) : Int := if tkV st x < woV st x then tkV st x else woV st x
def Keys (held : List Str) (st : TS) : Prop := keysAre held st.wo ∧ keysAre held st.tk
abbrev pin (held : List Str) (x r : Str) : Prop := parF x = some r ∧ r ∈ held
def hasP (held : List Str) (x : Str) : Bool := match parF x with | none => false | some p => decide (p ∈ held)
theorem hasP_iff {held : List Str} {x : Str} : hasP held x = true ↔ ∃ p, pin held x p := by
  unfold hasP pin
  cases parF x with
  | none => simp
  | some p => simp
theorem step_vals {held : List Str} {ab : List (Str × Str)} {st : TS} {x : Str} (hk : Keys held st) (hab : lookD ab x = parF x) (he : Str.ofString "" ∉ held) :
    (∀ r, woV (tabStep ab st x) r = woV st r + if pin held x r then tkV st x else 0) ∧ (∀ r, tkV (tabStep ab st x) r = tkV st r + if pin held x r then miV st x else 0) ∧
    (tabStep ab st x).few = st.few + (if hasP held x = true then 0 else miV st x) ∧ Keys held (tabStep ab st x) := by
  have hs := hk.2 (topF ab x)
  by_cases h : ∃ p, pin held x p
  · obtain ⟨p, hp, hm⟩ := h
    have ht : topF ab x = p := by unfold topF; rw [hab, hp]; rfl
    have hi : (lookD st.tk (topF ab x)).isSome = true := by rw [hs, ht]; simpa using hm
    have ip : ∀ r, pin held x r ↔ r = p := fun r => ⟨fun q => by have := q.1; rw [hp] at this; exact (Option.some.inj this).symm, fun q => q ▸ ⟨hp, hm⟩⟩
    rw [tab_yes hi, ht]
    refine ⟨fun r => ?_, fun r => ?_, ?_, ?_⟩
    · unfold woV tkV
      rw [lookD_put]
      by_cases e : r = p
      · subst e; rw [if_pos rfl, if_pos (show pin held x r from ⟨hp, hm⟩)]; rfl
      · rw [if_neg e, if_neg (fun q => e ((ip r).mp q))]; simp
    · unfold miV woV tkV
      rw [lookD_put]
      by_cases e : r = p
      · subst e; rw [if_pos rfl, if_pos (show pin held x r from ⟨hp, hm⟩)]; rfl
      · rw [if_neg e, if_neg (fun q => e ((ip r).mp q))]; simp
    · rw [if_pos (hasP_iff.mpr ⟨p, hp, hm⟩)]; simp
    · exact ⟨hk.1.put hm, hk.2.put hm⟩
  · have hi : ¬ (lookD st.tk (topF ab x)).isSome = true := by
      rw [hs]
      simp only [decide_eq_true_eq]
      unfold topF
      rw [hab]
      cases q : parF x with
      | none => exact he
      | some p => exact fun hm => h ⟨p, q, hm⟩
    have ip : ∀ r, ¬ pin held x r := fun r q => h ⟨r, q⟩
    rw [tab_no hi]
    refine ⟨fun r => ?_, fun r => ?_, ?_, ?_⟩
    · rw [if_neg (ip r), Int.add_zero]; rfl
    · rw [if_neg (ip r), Int.add_zero]; rfl
    · rw [if_neg (fun q => h (hasP_iff.mp q))]; rfl
    · exact hk
def TopoH (held : List Str) : List Str → Prop
  | [] => True
  | r :: rest => (∀ p, pin held r p → p ∈ rest) ∧ TopoH held rest
theorem topo_no {held : List Str} : ∀ {l : List Str}, TopoH held l → ∀ y ∈ l, ∀ p, pin held y p → p ∈ l
  | x :: l, h, y, hy, p, hp => by
    rcases List.mem_cons.mp hy with rfl | hy
    · exact List.mem_cons_of_mem _ (h.1 p hp)
    · exact List.mem_cons_of_mem _ (topo_no h.2 y hy p hp)
theorem topo_filter {R : Str → Bool} {held : List Str} (hR : ∀ p ∈ held, R p = true) : ∀ {l : List Str}, Topo l → TopoH held (l.filter R)
  | [], _ => trivial
  | x :: l, h => by
    rw [List.filter_cons]
    split
    · exact ⟨fun p hp => List.mem_filter.mpr ⟨h.1 p hp.1, hR p hp.2⟩, topo_filter hR h.2⟩
    · exact topo_filter hR h.2
theorem sum_add {f g : Str → Int} {p : Str} {m : Int} (hg : ∀ r, g r = f r + if r = p then m else 0) : ∀ {l : List Str}, l.Nodup → (l.map g).sum = (l.map f).sum + if p ∈ l then m else 0
  | [], _ => by simp
  | x :: l, h => by
    obtain ⟨h1, h2⟩ := List.nodup_cons.mp h
    rw [List.map_cons, List.map_cons, List.sum_cons, List.sum_cons, sum_add hg h2, hg x]
    by_cases e : x = p
    · subst e
      rw [if_pos rfl, if_neg h1, if_pos List.mem_cons_self]; omega
    · rw [if_neg e]
      by_cases hm : p ∈ l
      · rw [if_pos hm, if_pos (List.mem_cons_of_mem _ hm)]; omega
      · rw [if_neg hm, if_neg (by simp [hm, Ne.symm e])]; omega
theorem dp_main {held : List Str} {ab : List (Str × Str)} {R : Str → Bool} (he : Str.ofString "" ∉ held) (hR : ∀ p ∈ held, R p = true) :
    ∀ (rest : List Str) (c : Str → Bool) (st : TS), rest.Nodup → (∀ x ∈ rest, x ∈ held ∧ lookD ab x = parF x) → TopoH held rest → Keys held st →
      (∀ r ∈ rest, tkV st r ≤ woV st r + 1 ∧ (c r = true ↔ tkV st r ≤ woV st r)) →
      (∀ r ∈ rest, (rest.foldl (gStep R) c) r = guardF (rest.foldl (tabStep ab) st) r) ∧
      (∀ r, r ∉ rest → (∀ y ∈ rest, ¬ pin held y r) → r ∈ held → (rest.foldl (gStep R) c) r = c r ∧ tkV (rest.foldl (tabStep ab) st) r = tkV st r ∧ woV (rest.foldl (tabStep ab) st) r = woV st r) ∧
      (rest.foldl (tabStep ab) st).few = st.few + (rest.map fun r => tkV st r - 1).sum + ((rest.filter (rest.foldl (gStep R) c)).length : Int)
  | [], c, st, _, _, _, _, _ => ⟨(fun _ h => nomatch h), (fun _ _ _ _ => ⟨rfl, rfl, rfl⟩), by simp⟩
  | x :: rs, c, st, hn, hh, ht, hk, hi => by
    obtain ⟨n1, n2⟩ := List.nodup_cons.mp hn
    obtain ⟨v1, v2, v3, v4⟩ := step_vals hk (hh x List.mem_cons_self).2 he
    have hx := hi x List.mem_cons_self
    have hxh := (hh x List.mem_cons_self).1
    have nxx : ¬ pin held x x := fun q => n1 (ht.1 x q)
    have nyx : ∀ y ∈ rs, ¬ pin held y x := fun y hy q => n1 (topo_no ht.2 y hy x q)
    have g1 : ∀ r ∈ held, gStep R c x r = (c r || (decide (pin held x r) && !c x)) := fun r hr => by
      unfold gStep
      rw [hR x hxh, hR r hr]
      have : decide (parF x = some r) = decide (pin held x r) := by
        rw [Bool.eq_iff_iff]; simp [pin, hr]
      rw [this]; simp
    have mi : miV st x = tkV st x - 1 + (if c x = true then 1 else 0) := by
      unfold miV
      by_cases hc : c x = true
      · have := hx.2.mp hc
        rw [if_pos hc]; split <;> omega
      · have : ¬ tkV st x ≤ woV st x := fun q => hc (hx.2.mpr q)
        rw [if_neg hc, if_neg (by omega)]; omega
    have inv : ∀ r ∈ rs, tkV (tabStep ab st x) r ≤ woV (tabStep ab st x) r + 1 ∧ (gStep R c x r = true ↔ tkV (tabStep ab st x) r ≤ woV (tabStep ab st x) r) := fun r hr => by
      have hrr := hi r (List.mem_cons_of_mem _ hr)
      rw [g1 r (hh r (List.mem_cons_of_mem _ hr)).1, v1, v2]
      by_cases hp : pin held x r
      · rw [if_pos hp, if_pos hp, mi, decide_eq_true hp]
        by_cases hc : c x = true
        · have h3 := hx.2.mp hc
          rw [if_pos hc, hc]
          simp only [Bool.not_true, Bool.and_false, Bool.or_false]
          exact ⟨by omega, by rw [hrr.2]; constructor <;> intro <;> omega⟩
        · have h3 : ¬ tkV st x ≤ woV st x := fun q => hc (hx.2.mpr q)
          have hcf : c x = false := by simpa using hc
          rw [if_neg hc, hcf]
          simp only [Bool.not_false, Bool.and_true, Bool.or_true, true_iff]
          omega
      · rw [if_neg hp, if_neg hp, decide_eq_false hp]
        simp only [Bool.false_and, Bool.or_false, Int.add_zero]
        exact hrr
    obtain ⟨i1, i2, i3⟩ := dp_main he hR rs (gStep R c x) (tabStep ab st x) n2 (fun y hy => hh y (List.mem_cons_of_mem _ hy)) ht.2 v4 inv
    have cx : (rs.foldl (gStep R) (gStep R c x)) x = c x ∧ tkV (rs.foldl (tabStep ab) (tabStep ab st x)) x = tkV st x ∧ woV (rs.foldl (tabStep ab) (tabStep ab st x)) x = woV st x := by
      obtain ⟨a1, a2, a3⟩ := i2 x n1 nyx hxh
      rw [a1, a2, a3, v1, v2, if_neg nxx, if_neg nxx, g1 x hxh, decide_eq_false nxx]
      simp
    rw [List.foldl_cons, List.foldl_cons]
    refine ⟨fun r hr => ?_, fun r hr hy hrh => ?_, ?_⟩
    · rcases List.mem_cons.mp hr with rfl | hr
      · rw [cx.1]
        show c r = decide (tkV _ r ≤ woV _ r)
        rw [cx.2.1, cx.2.2, Bool.eq_iff_iff, decide_eq_true_eq]
        exact hx.2
      · exact i1 r hr
    · obtain ⟨a1, a2, a3⟩ := i2 r (fun q => hr (List.mem_cons_of_mem _ q)) (fun y hy' => hy y (List.mem_cons_of_mem _ hy')) hrh
      have np := hy x List.mem_cons_self
      rw [a1, a2, a3, v1, v2, if_neg np, if_neg np, g1 r hrh, decide_eq_false np]
      simp
    · rw [i3, v3, List.map_cons, List.sum_cons, List.filter_cons]
      have hlen : (((if (rs.foldl (gStep R) (gStep R c x)) x = true then x :: rs.filter (rs.foldl (gStep R) (gStep R c x)) else rs.filter (rs.foldl (gStep R) (gStep R c x))).length : Nat) : Int) = (if c x = true then 1 else 0) + ((rs.filter (rs.foldl (gStep R) (gStep R c x))).length : Int) := by
        rw [cx.1]
        by_cases hc : c x = true
        · rw [if_pos hc, if_pos hc, List.length_cons]; omega
        · rw [if_neg hc, if_neg hc]; omega
      rw [hlen]
      by_cases hp : ∃ p, pin held x p
      · obtain ⟨p, hp'⟩ := hp
        have ip : ∀ r, pin held x r ↔ r = p := fun r => ⟨fun q => by have := q.1; rw [hp'.1] at this; exact (Option.some.inj this).symm, fun q => q ▸ hp'⟩
        have hs := sum_add (f := fun r => tkV st r - 1) (g := fun r => tkV (tabStep ab st x) r - 1) (p := p) (m := miV st x) (fun r => by
          rw [v2]
          by_cases e : r = p
          · rw [if_pos ((ip r).mpr e), if_pos e]; omega
          · rw [if_neg (fun q => e ((ip r).mp q)), if_neg e]; omega) n2
        rw [if_pos (ht.1 p hp')] at hs
        rw [hs, if_pos (hasP_iff.mpr ⟨p, hp'⟩), mi]; omega
      · have hs : (rs.map fun r => tkV (tabStep ab st x) r - 1) = rs.map fun r => tkV st r - 1 := List.map_congr_left fun r _ => by
          rw [v2, if_neg (fun q => hp ⟨r, q⟩), Int.add_zero]
        rw [hs, if_neg (fun q => hp (hasP_iff.mp q)), mi]; omega
/-! what is above -/
def consOk (y : Str) : Bool := (List.range ((climbF y).length - 1)).all (fun j => decide (((climbF y)[j]?).bind parF = (climbF y)[j + 1]?)) && (climbF y).all fun r => (parF r).isNone || decide (r ∈ (climbF y).dropLast)
theorem U_cons : U.all consOk = true := by decide +kernel
theorem cons_facts {y : Str} (h : y ∈ U) : (∀ j, j < (climbF y).length - 1 → ((climbF y)[j]?).bind parF = (climbF y)[j + 1]?) ∧ ∀ r ∈ climbF y, ∀ p, parF r = some p → ∃ j, j < (climbF y).length - 1 ∧ (climbF y)[j]? = some r := by
  have := List.all_eq_true.mp U_cons y h
  unfold consOk at this
  simp only [Bool.and_eq_true, List.all_eq_true, List.mem_range, decide_eq_true_eq, Bool.or_eq_true] at this
  refine ⟨this.1, fun r hr p hp => ?_⟩
  rcases this.2 r hr with e | e
  · rw [hp] at e; cases e
  · obtain ⟨j, hj⟩ := List.getElem?_of_mem e
    have hl : j < (climbF y).dropLast.length := (List.getElem?_eq_some_iff.mp hj).1
    rw [List.length_dropLast] at hl
    refine ⟨j, hl, ?_⟩
    rw [List.getElem?_dropLast, if_pos hl] at hj
    exact hj
def PA (d : List (Str × Str)) : Prop := ∀ r p, lookD d r = some p → parF r = some p
theorem abIn_facts {y : Str} (hy : y ∈ U) : ∀ (j : Nat) (d : List (Str × Str)), j ≤ (climbF y).length - 1 → PA d →
    PA (abIn (climbF y) j d) ∧ (∀ r, (lookD d r).isSome = true → (lookD (abIn (climbF y) j d) r).isSome = true) ∧ ∀ i r, i < j → (climbF y)[i]? = some r → (lookD (abIn (climbF y) j d) r).isSome = true
  | 0, d, _, h => ⟨h, (fun _ e => e), fun i r hi => absurd hi (Nat.not_lt_zero _)⟩
  | j + 1, d, hj, h => by
    obtain ⟨a, b, c⟩ := abIn_facts hy j d (by omega) h
    have hlen : j + 1 < (climbF y).length := by omega
    have e0 : (climbF y)[j]? = some (climbF y)[j] := List.getElem?_eq_getElem (by omega)
    have e1 : (climbF y)[j + 1]? = some (climbF y)[j + 1] := List.getElem?_eq_getElem hlen
    have hc := (cons_facts hy).1 j (by omega)
    rw [e0, e1] at hc
    have hc : parF (climbF y)[j] = some (climbF y)[j + 1] := hc
    rw [abIn_succ, e0, e1]
    show PA (putD (abIn (climbF y) j d) (climbF y)[j] (climbF y)[j + 1]) ∧ (∀ r, _ → (lookD (putD (abIn (climbF y) j d) (climbF y)[j] (climbF y)[j + 1]) r).isSome = true) ∧ ∀ i r, _ → _ → (lookD (putD (abIn (climbF y) j d) (climbF y)[j] (climbF y)[j + 1]) r).isSome = true
    refine ⟨fun r p e => ?_, fun r e => ?_, fun i r hi e => ?_⟩
    · rw [lookD_put] at e
      split at e
      · rename_i q; rw [q, hc]; exact e
      · exact a r p e
    · rw [lookD_put]
      split
      · rfl
      · exact b r e
    · rw [lookD_put]
      split
      · rfl
      · rename_i q
        by_cases hij : i = j
        · subst hij
          rw [e0] at e
          exact absurd (Option.some.inj e).symm q
        · exact c i r (by omega) e
theorem abF_look {H : List Host} (hH : ∀ p ∈ H, HostOk p) {r : Str} (hr : ∃ y ∈ H.map jn, r ∈ climbF y) : lookD (abF (climbsF H)) r = parF r := by
  have key : ∀ (l : List Host) (d : List (Str × Str)), (∀ p ∈ l, HostOk p) → PA d → PA ((climbsF l).foldl (fun d ld => abIn ld (ld.length - 1) d) d) ∧
      (∀ r, (lookD d r).isSome = true → (lookD ((climbsF l).foldl (fun d ld => abIn ld (ld.length - 1) d) d) r).isSome = true) ∧
      ∀ p ∈ l, ∀ i r, i < (climbF (jn p)).length - 1 → (climbF (jn p))[i]? = some r → (lookD ((climbsF l).foldl (fun d ld => abIn ld (ld.length - 1) d) d) r).isSome = true := by
    intro l
    induction l with
    | nil => intro d _ h; exact ⟨h, (fun _ e => e), fun p hp => nomatch hp⟩
    | cons q l ih =>
      intro d hl h
      have hq := (hl q List.mem_cons_self).2.1
      obtain ⟨a, b, c⟩ := abIn_facts hq ((climbF (jn q)).length - 1) d (Nat.le_refl _) h
      obtain ⟨a', b', c'⟩ := ih _ (fun p hp => hl p (List.mem_cons_of_mem _ hp)) a
      refine ⟨a', fun r e => b' r (b r e), fun p hp i r hi e => ?_⟩
      rcases List.mem_cons.mp hp with rfl | hp
      · exact b' r (c i r hi e)
      · exact c' p hp i r hi e
  obtain ⟨a, _, c⟩ := key H [] hH (fun r p e => by cases e)
  obtain ⟨y, hy, hm⟩ := hr
  obtain ⟨p, hp, rfl⟩ := List.mem_map.mp hy
  have hU := (hH p hp).2.1
  show lookD ((climbsF H).foldl (fun d ld => abIn ld (ld.length - 1) d) []) r = _
  cases q : parF r with
  | some u =>
    obtain ⟨j, hj, e⟩ := (cons_facts hU).2 r hm u q
    have := c p hp j r hj e
    cases z : lookD ((climbsF H).foldl (fun d ld => abIn ld (ld.length - 1) d) []) r with
    | none => rw [z] at this; cases this
    | some v => rw [← q, ← a r v z]
  | none =>
    cases z : lookD ((climbsF H).foldl (fun d ld => abIn ld (ld.length - 1) d) []) r with
    | none => rfl
    | some v => have := a r v z; rw [q] at this; cases this
/-! the tables are the greedy choice -/
theorem g_filter (R : Str → Bool) : ∀ (l : List Str) (c : Str → Bool), l.foldl (gStep R) c = (l.filter R).foldl (gStep R) c
  | [], _ => rfl
  | x :: l, c => by
    rw [List.filter_cons, List.foldl_cons]
    cases h : R x with
    | true => rw [if_pos rfl, List.foldl_cons]; exact g_filter R l _
    | false =>
      have : gStep R c x = c := by funext r; unfold gStep; rw [h]; simp
      rw [this]
      simpa using g_filter R l c
theorem g_has (R : Str → Bool) : ∀ (l : List Str) (c : Str → Bool), (∀ r, c r = true → R r = true) → ∀ r, (l.foldl (gStep R) c) r = true → R r = true
  | [], _, h, r, e => h r e
  | x :: l, c, h, r, e => g_has R l (gStep R c x) (fun r e => by
      unfold gStep at e
      rw [Bool.or_eq_true] at e
      rcases e with e | e
      · exact h r e
      · simp only [Bool.and_eq_true] at e
        exact e.1.2) r e
theorem rt_b12 {H : List Host} (hH : ∀ p ∈ H, HostOk p) (r : Str) : B12 (rtF (rightsF H) r) := rights_bound hH r
theorem empty_U : Str.ofString "" ∉ U := by decide +kernel
theorem table_ok {H : List Host} (hH : ∀ p ∈ H, HostOk p) {line : List Str} (eo : orderF (climbsF H) = line) (ht : Topo line) (hn : line.Nodup) (hm : ∀ r, r ∈ line ↔ ∃ y ∈ H.map jn, r ∈ climbF y) (hU : ∀ r ∈ line, r ∈ U) {k : Nat} (hk : k < 12) :
    (∀ r ∈ line, r ∈ (tabsF H k).1 ↔ bitN (chF (chosenF (rightsF H) line) r) k = true) ∧ (tabsF H k).2 = ((line.filter fun r => bitN (chF (chosenF (rightsF H) line) r) k).length : Int) := by
  have hr := rt_b12 hH
  have hb := (chosen_bits hr line).2 k hk
  have eheld : heldF (rightsF H) ((2 : Int) ^ (k : Int).toNat) line = line.filter fun r => bitN (rtF (rightsF H) r) k := by
    unfold heldF
    refine List.filter_congr fun r _ => ?_
    exact bit_div (hr r).1 k
  have ec : ∀ r, bitN (chF (chosenF (rightsF H) line) r) k = (line.foldl (gStep fun r => bitN (rtF (rightsF H) r) k) fun _ => false) r := fun r => congrFun hb r
  rw [g_filter] at ec
  have hhas := g_has (fun r => bitN (rtF (rightsF H) r) k) (line.filter fun r => bitN (rtF (rightsF H) r) k) (fun _ => false) (fun _ e => by cases e)
  have hheldU : ∀ x ∈ line.filter (fun r => bitN (rtF (rightsF H) r) k), x ∈ line ∧ bitN (rtF (rightsF H) x) k = true := fun x hx => List.mem_filter.mp hx
  have m := dp_main (held := line.filter fun r => bitN (rtF (rightsF H) r) k) (ab := abF (climbsF H)) (R := fun r => bitN (rtF (rightsF H) r) k) (fun e => empty_U (hU _ (hheldU _ e).1)) (fun p hp => (hheldU p hp).2)
    (line.filter fun r => bitN (rtF (rightsF H) r) k) (fun _ => false) ⟨constD 0 (line.filter fun r => bitN (rtF (rightsF H) r) k), constD 1 (line.filter fun r => bitN (rtF (rightsF H) r) k), 0⟩
    (hn.filter _) (fun x hx => ⟨hx, abF_look hH ((hm x).mp (hheldU x hx).1)⟩) (topo_filter (fun p hp => (hheldU p hp).2) ht) ⟨keys_const _ _, keys_const _ _⟩ (fun r hr' => by
      unfold tkV woV
      dsimp only
      rw [constD_look, constD_look, if_pos hr', if_pos hr']
      simp)
  obtain ⟨m1, _, m3⟩ := m
  have es : ((line.filter fun r => bitN (rtF (rightsF H) r) k).map fun r => tkV ⟨constD 0 (line.filter fun r => bitN (rtF (rightsF H) r) k), constD 1 (line.filter fun r => bitN (rtF (rightsF H) r) k), 0⟩ r - 1).sum = 0 := by
    have : ((line.filter fun r => bitN (rtF (rightsF H) r) k).map fun r => tkV ⟨constD 0 (line.filter fun r => bitN (rtF (rightsF H) r) k), constD 1 (line.filter fun r => bitN (rtF (rightsF H) r) k), 0⟩ r - 1) = (line.filter fun r => bitN (rtF (rightsF H) r) k).map fun _ => (0 : Int) := List.map_congr_left fun r hr' => by
      unfold tkV
      dsimp only
      rw [constD_look, if_pos hr']; rfl
    rw [this]
    generalize line.filter (fun r => bitN (rtF (rightsF H) r) k) = l
    induction l with
    | nil => rfl
    | cons x l ih => rw [List.map_cons, List.sum_cons, ih]; rfl
  have etab : tabsF H k = (((line.filter fun r => bitN (rtF (rightsF H) r) k).filter (guardF (tabRun (abF (climbsF H)) (line.filter fun r => bitN (rtF (rightsF H) r) k)))), (tabRun (abF (climbsF H)) (line.filter fun r => bitN (rtF (rightsF H) r) k)).few) := by
    unfold tabsF tableF
    rw [eo, eheld]
  have erun : tabRun (abF (climbsF H)) (line.filter fun r => bitN (rtF (rightsF H) r) k) = (line.filter fun r => bitN (rtF (rightsF H) r) k).foldl (tabStep (abF (climbsF H))) ⟨constD 0 (line.filter fun r => bitN (rtF (rightsF H) r) k), constD 1 (line.filter fun r => bitN (rtF (rightsF H) r) k), 0⟩ := rfl
  rw [etab, erun]
  dsimp only
  constructor
  · intro r hrl
    rw [ec, List.mem_filter]
    constructor
    · rintro ⟨h1, h2⟩
      rw [m1 r h1]; exact h2
    · intro h2
      have hR := hhas r h2
      have h1 : r ∈ line.filter fun r => bitN (rtF (rightsF H) r) k := List.mem_filter.mpr ⟨hrl, hR⟩
      exact ⟨h1, by rw [← m1 r h1]; exact h2⟩
  · rw [m3, es]
    have : (line.filter fun r => bitN (rtF (rightsF H) r) k).filter ((line.filter fun r => bitN (rtF (rightsF H) r) k).foldl (gStep fun r => bitN (rtF (rightsF H) r) k) fun _ => false) = line.filter fun r => bitN (chF (chosenF (rightsF H) line) r) k := by
      rw [List.filter_filter]
      refine List.filter_congr fun r _ => ?_
      rw [ec r, Bool.eq_iff_iff, Bool.and_eq_true]
      exact ⟨fun h => h.1, fun h => ⟨h, hhas r h⟩⟩
    rw [this]
    simp
end Mine
end
section
open PySem PySem.W PyProof.Rows
namespace Mine
theorem glue10 (a b c d e f g h i j : Str) : Txt.join (Str.ofString "") [a, b, c, d, e, f, g, h, i, j] = a ++ b ++ c ++ d ++ e ++ f ++ g ++ h ++ i ++ j := by
  refine Str.ext' ?_
  have e0 : (Str.ofString "").cps = #[] := by decide
  unfold Txt.join Builtin.Str.glued
  simp [Str.cps_append, e0]
theorem mod_succ (n j : Nat) : n % 2 ^ (j + 1) = n % 2 ^ j + 2 ^ j * (n.testBit j).toNat := by
  rw [Nat.mod_pow_succ, Nat.testBit_eq_decide_div_mod_eq]
  have : n / 2 ^ j % 2 = 0 ∨ n / 2 ^ j % 2 = 1 := by omega
  rcases this with q | q <;> rw [q] <;> rfl
theorem and_pow (m i : Nat) : m &&& 2 ^ i = if m.testBit i then 2 ^ i else 0 := by
  refine Nat.eq_of_testBit_eq fun k => ?_
  rw [Nat.testBit_and, Nat.testBit_two_pow]
  by_cases h : i = k
  · subst h
    cases q : m.testBit i
    · simp
    · simp [Nat.testBit_two_pow]
  · cases q : m.testBit i
    · simp [h]
    · simp [h, Nat.testBit_two_pow]
/-! the sum of a mode's powers -/
theorem sum_mod {z : Int} (hz : B12 z) {T : TabK} {r : Str} (h : ∀ k, k < 12 → (r ∈ (T k).1 ↔ bitN z k = true)) : ∀ j, j ≤ 12 → (sumL T r j).sum = ((z.toNat % 2 ^ j : Nat) : Int) := by
  intro j
  induction j with
  | zero => intro _; simp [sumL, Nat.mod_one]
  | succ j ih =>
    intro hj
    have ih := ih (by omega)
    unfold sumL at ih ⊢
    rw [List.range_succ, List.filter_append, List.map_append, List.sum_append, ih, mod_succ]
    by_cases hm : r ∈ (T j).1
    · have hb : z.toNat.testBit j = true := (h j (by omega)).mp hm
      rw [List.filter_cons_of_pos (by simpa using hm), hb]
      simp only [List.filter_nil, List.map_cons, List.map_nil, List.sum_cons, List.sum_nil]
      rw [show ((j : Int)).toNat = j from Int.toNat_natCast j]
      simp
    · have hb : z.toNat.testBit j = false := by
        cases q : z.toNat.testBit j with
        | false => rfl
        | true => exact absurd ((h j (by omega)).mpr q) hm
      rw [List.filter_cons_of_neg (by simpa using hm), hb]
      simp
theorem sum_all {z : Int} (hz : B12 z) {T : TabK} {r : Str} (h : ∀ k, k < 12 → (r ∈ (T k).1 ↔ bitN z k = true)) : (sumL T r 12).sum = z := by
  rw [sum_mod hz h 12 (Nat.le_refl _), Nat.mod_eq_of_lt (by obtain ⟨h1, h2⟩ := hz; show _ < 4096; omega)]
  have := hz.1
  omega
/-! filemode's signs -/
def dash : Str := Str.ofString "-"
theorem test_eq {m b : Nat} {k : Nat} (hk : k ≠ 0) : testC k (m : Int) (b : Int) = decide (m &&& b = b) := by
  unfold testC
  rw [if_neg hk, and_nn (Int.natCast_nonneg m) (Int.natCast_nonneg b), Int.toNat_natCast, Int.toNat_natCast, Bool.eq_iff_iff, beq_iff_eq, decide_eq_true_eq]
  exact ⟨fun e => Int.ofNat.inj e, fun e => by rw [e]⟩
theorem test_pow {m i : Nat} : decide (m &&& 2 ^ i = 2 ^ i) = m.testBit i := by
  rw [and_pow]
  have p : 0 < 2 ^ i := Nat.two_pow_pos i
  cases q : m.testBit i
  · simp; omega
  · simp
theorem test_two {m i j : Nat} : decide (m &&& (2 ^ i ||| 2 ^ j) = 2 ^ i ||| 2 ^ j) = (m.testBit i && m.testBit j) := by
  rw [Bool.eq_iff_iff, decide_eq_true_eq, Bool.and_eq_true]
  constructor
  · intro e
    have h1 : (m &&& (2 ^ i ||| 2 ^ j)).testBit i = (2 ^ i ||| 2 ^ j).testBit i := by rw [e]
    have h2 : (m &&& (2 ^ i ||| 2 ^ j)).testBit j = (2 ^ i ||| 2 ^ j).testBit j := by rw [e]
    simp only [Nat.testBit_and, Nat.testBit_or, Nat.testBit_two_pow_self, Bool.true_or, Bool.or_true, Bool.and_true] at h1 h2
    exact ⟨h1, h2⟩
  · rintro ⟨h1, h2⟩
    rw [Nat.and_or_distrib_left, and_pow, and_pow, h1, h2]; rfl
theorem one_bit {m : Nat} {k i : Nat} (hk : k ≠ 0) (b : Int) (hb : b = ((2 ^ i : Nat) : Int)) (ch : Str) : pickC k (m : Int) [(b, ch)] = if m.testBit i then ch else dash := by
  unfold pickC
  rw [hb, test_eq hk, test_pow]
  cases m.testBit i
  · show (if k = 0 then _ else dash) = _
    rw [if_neg hk]; rfl
  · rfl
theorem three_bit {m : Nat} {k i j : Nat} (hk : k ≠ 0) (a b c : Int) (ha : a = ((2 ^ i ||| 2 ^ j : Nat) : Int)) (hb : b = ((2 ^ j : Nat) : Int)) (hc : c = ((2 ^ i : Nat) : Int)) (x y z : Str) :
    pickC k (m : Int) [(a, x), (b, y), (c, z)] = if m.testBit i && m.testBit j then x else if m.testBit j then y else if m.testBit i then z else dash := by
  unfold pickC
  rw [ha, test_eq hk, test_two]
  congr 1
  unfold pickC
  rw [hb, test_eq hk, test_pow]
  congr 1
  exact one_bit hk c hc z
theorem kind_d {c : Int} (hc : B12 c) : Builtin.bitOr 16384 c = ((16384 ||| c.toNat : Nat) : Int) := or_nn (by decide) hc.1
theorem first_d {n : Nat} (hn : n < 4096) : pickC 0 ((16384 ||| n : Nat) : Int) ((tabL[0]?).getD []) = Str.ofString "d" := by
  have e : Builtin.bitAnd ((16384 ||| n : Nat) : Int) 61440 = 16384 := by
    rw [and_nn (Int.natCast_nonneg _) (by decide), Int.toNat_natCast]
    have : (16384 ||| n) &&& (61440 : Int).toNat = 16384 := by
      refine Nat.eq_of_testBit_eq fun i => ?_
      rw [Nat.testBit_and, Nat.testBit_or]
      show ((Nat.testBit 16384 i || n.testBit i) && Nat.testBit 61440 i) = Nat.testBit 16384 i
      by_cases hi : i < 16
      · by_cases h12 : 12 ≤ i
        · rw [testBit_big hn h12]
          have : i = 12 ∨ i = 13 ∨ i = 14 ∨ i = 15 := by omega
          rcases this with rfl | rfl | rfl | rfl <;> decide
        · have hlow : ∀ i < 12, Nat.testBit 61440 i = false ∧ Nat.testBit 16384 i = false := by decide
          rw [(hlow i (by omega)).1, (hlow i (by omega)).2]; simp
      · have h1 : Nat.testBit 61440 i = false := Nat.testBit_lt_two_pow (Nat.lt_of_lt_of_le (by decide : 61440 < 2 ^ 16) (Nat.pow_le_pow_right (by decide) (by omega)))
        have h2 : Nat.testBit 16384 i = false := Nat.testBit_lt_two_pow (Nat.lt_of_lt_of_le (by decide : 16384 < 2 ^ 16) (Nat.pow_le_pow_right (by decide) (by omega)))
        rw [h1, h2]; simp
    rw [this]; rfl
  show pickC 0 _ [(40960, Str.ofString "l"), (49152, Str.ofString "s"), (32768, Str.ofString "-"), (24576, Str.ofString "b"), (16384, Str.ofString "d"), (8192, Str.ofString "c"), (4096, Str.ofString "p")] = _
  simp only [pickC, testC, if_true, e]
  decide
theorem bits_low {n i : Nat} (hi : i < 12) : (16384 ||| n).testBit i = n.testBit i := by
  rw [Nat.testBit_or]
  have hlow : ∀ i < 12, Nat.testBit 16384 i = false := by decide
  rw [hlow i hi]; rfl
def sRWX (h m l e : Bool) (s S x : Str) : Str × Str × Str := (if h then Str.ofString "r" else dash, if m then Str.ofString "w" else dash, if l && e then s else if e then S else if l then x else dash)
theorem tb (n i : Nat) : n.testBit i = decide (n / 2 ^ i % 2 = 1) := Nat.testBit_eq_decide_div_mod_eq
/-- one place's signs -/
theorem place_signs {n : Nat} (p : Nat) (hp : p = 0 ∨ p = 1 ∨ p = 2) :
    part1F (n : Int) (p : Int) = (if n.testBit (3 * p + 2) then Str.ofString "r" else dash) ∧ part2F (n : Int) (p : Int) = (if n.testBit (3 * p + 1) then Str.ofString "w" else dash) ∧
    part3F (n : Int) (p : Int) = if n.testBit (3 * p) && n.testBit (9 + p) then (if p = 0 then Str.ofString "t" else Str.ofString "s") else if n.testBit (9 + p) then (if p = 0 then Str.ofString "T" else Str.ofString "S") else if n.testBit (3 * p) then Str.ofString "x" else dash := by
  have hf : figF (n : Int) (p : Int) = ((n / 8 ^ p % 8 : Nat) : Int) := by
    unfold figF
    rw [Int.toNat_natCast, Int.fdiv_eq_ediv_of_nonneg _ (Int.le_of_lt (Int.pow_pos (by decide))), Int.fmod_eq_emod_of_nonneg _ (by decide)]
    simp
  have hm : markF (n : Int) (p : Int) = ((n / (512 * 2 ^ p) % 2 : Nat) : Int) := by
    unfold markF
    rw [Int.toNat_natCast, Int.fdiv_eq_ediv_of_nonneg _ (Int.mul_nonneg (by decide) (Int.le_of_lt (Int.pow_pos (by decide)))), Int.fmod_eq_emod_of_nonneg _ (by decide)]
    simp
  unfold part1F part2F part3F
  rw [hf, hm]
  rw [tb, tb, tb, tb]
  have key : ∀ f : Nat, f < 8 → ∀ m : Nat, m < 2 → ∀ z : Bool,
      Txt.item (Str.ofString "-r") ((f : Int).fdiv 4) = (if decide (f / 4 % 2 = 1) then Str.ofString "r" else dash) ∧ Txt.item (Str.ofString "-w") (((f : Int).fdiv 2).fmod 2) = (if decide (f / 2 % 2 = 1) then Str.ofString "w" else dash) ∧
      Txt.item (if z then Str.ofString "-xTt" else Str.ofString "-xSs") ((f : Int).fmod 2 + 2 * (m : Int)) = if decide (f % 2 = 1) && decide (m = 1) then (if z then Str.ofString "t" else Str.ofString "s") else if decide (m = 1) then (if z then Str.ofString "T" else Str.ofString "S") else if decide (f % 2 = 1) then Str.ofString "x" else dash := by
    decide +kernel
  rcases hp with rfl | rfl | rfl
  · have k := key (n / 8 ^ 0 % 8) (Nat.mod_lt _ (by decide)) (n / (512 * 2 ^ 0) % 2) (Nat.mod_lt _ (by decide)) true
    have e1 : n / 8 ^ 0 % 8 / 4 % 2 = n / 2 ^ (3 * 0 + 2) % 2 := by simp; omega
    have e2 : n / 8 ^ 0 % 8 / 2 % 2 = n / 2 ^ (3 * 0 + 1) % 2 := by simp; omega
    have e3 : n / 8 ^ 0 % 8 % 2 = n / 2 ^ (3 * 0) % 2 := by first | omega | (simp; done) | (simp; omega)
    have e4 : n / (512 * 2 ^ 0) % 2 = n / 2 ^ (9 + 0) % 2 := by simp
    rw [e1, e2, e3, e4] at k
    rw [e4]
    exact k
  · have k := key (n / 8 ^ 1 % 8) (Nat.mod_lt _ (by decide)) (n / (512 * 2 ^ 1) % 2) (Nat.mod_lt _ (by decide)) false
    have e1 : n / 8 ^ 1 % 8 / 4 % 2 = n / 2 ^ (3 * 1 + 2) % 2 := by simp; omega
    have e2 : n / 8 ^ 1 % 8 / 2 % 2 = n / 2 ^ (3 * 1 + 1) % 2 := by simp; omega
    have e3 : n / 8 ^ 1 % 8 % 2 = n / 2 ^ (3 * 1) % 2 := by first | omega | (simp; done) | (simp; omega)
    have e4 : n / (512 * 2 ^ 1) % 2 = n / 2 ^ (9 + 1) % 2 := by simp
    rw [e1, e2, e3, e4] at k
    rw [e4]
    exact k
  · have k := key (n / 8 ^ 2 % 8) (Nat.mod_lt _ (by decide)) (n / (512 * 2 ^ 2) % 2) (Nat.mod_lt _ (by decide)) false
    have e1 : n / 8 ^ 2 % 8 / 4 % 2 = n / 2 ^ (3 * 2 + 2) % 2 := by simp; omega
    have e2 : n / 8 ^ 2 % 8 / 2 % 2 = n / 2 ^ (3 * 2 + 1) % 2 := by simp; omega
    have e3 : n / 8 ^ 2 % 8 % 2 = n / 2 ^ (3 * 2) % 2 := by first | omega | (simp; done) | (simp; omega)
    have e4 : n / (512 * 2 ^ 2) % 2 = n / 2 ^ (9 + 2) % 2 := by simp
    rw [e1, e2, e3, e4] at k
    rw [e4]
    exact k
theorem filemode_signs {c : Int} (hc : B12 c) : filemodeF (Builtin.bitOr 16384 c) = signsF c := by
  obtain ⟨n, rfl⟩ := Int.eq_ofNat_of_zero_le hc.1
  have hn : n < 4096 := by have := hc.2; omega
  rw [kind_d hc, Int.toNat_natCast]
  have p2 : part1F (n : Int) 2 = (if n.testBit 8 then Str.ofString "r" else dash) ∧ part2F (n : Int) 2 = (if n.testBit 7 then Str.ofString "w" else dash) ∧
      part3F (n : Int) 2 = if n.testBit 6 && n.testBit 11 then Str.ofString "s" else if n.testBit 11 then Str.ofString "S" else if n.testBit 6 then Str.ofString "x" else dash := place_signs (n := n) 2 (by simp)
  have p1 : part1F (n : Int) 1 = (if n.testBit 5 then Str.ofString "r" else dash) ∧ part2F (n : Int) 1 = (if n.testBit 4 then Str.ofString "w" else dash) ∧
      part3F (n : Int) 1 = if n.testBit 3 && n.testBit 10 then Str.ofString "s" else if n.testBit 10 then Str.ofString "S" else if n.testBit 3 then Str.ofString "x" else dash := place_signs (n := n) 1 (by simp)
  have p0 : part1F (n : Int) 0 = (if n.testBit 2 then Str.ofString "r" else dash) ∧ part2F (n : Int) 0 = (if n.testBit 1 then Str.ofString "w" else dash) ∧
      part3F (n : Int) 0 = if n.testBit 0 && n.testBit 9 then Str.ofString "t" else if n.testBit 9 then Str.ofString "T" else if n.testBit 0 then Str.ofString "x" else dash := place_signs (n := n) 0 (by simp)
  have hfm : fmTake ((16384 ||| n : Nat) : Int) 10 = [Str.ofString "d", part1F n 2, part2F n 2, part3F n 2, part1F n 1, part2F n 1, part3F n 1, part1F n 0, part2F n 0, part3F n 0] := by
    show [pickC 0 _ ((tabL[0]?).getD []), pickC 1 _ [((256 : Int), Str.ofString "r")], pickC 2 _ [((128 : Int), Str.ofString "w")], pickC 3 _ [((2112 : Int), Str.ofString "s"), (2048, Str.ofString "S"), (64, Str.ofString "x")],
      pickC 4 _ [((32 : Int), Str.ofString "r")], pickC 5 _ [((16 : Int), Str.ofString "w")], pickC 6 _ [((1032 : Int), Str.ofString "s"), (1024, Str.ofString "S"), (8, Str.ofString "x")],
      pickC 7 _ [((4 : Int), Str.ofString "r")], pickC 8 _ [((2 : Int), Str.ofString "w")], pickC 9 _ [((513 : Int), Str.ofString "t"), (512, Str.ofString "T"), (1, Str.ofString "x")]] = _
    rw [first_d hn, one_bit (i := 8) (by decide) 256 (by decide), one_bit (i := 7) (by decide) 128 (by decide), three_bit (i := 6) (j := 11) (by decide) 2112 2048 64 (by decide) (by decide) (by decide),
      one_bit (i := 5) (by decide) 32 (by decide), one_bit (i := 4) (by decide) 16 (by decide), three_bit (i := 3) (j := 10) (by decide) 1032 1024 8 (by decide) (by decide) (by decide),
      one_bit (i := 2) (by decide) 4 (by decide), one_bit (i := 1) (by decide) 2 (by decide), three_bit (i := 0) (j := 9) (by decide) 513 512 1 (by decide) (by decide) (by decide)]
    rw [bits_low (i := 8) (by decide), bits_low (i := 7) (by decide), bits_low (i := 6) (by decide), bits_low (i := 5) (by decide), bits_low (i := 4) (by decide), bits_low (i := 3) (by decide), bits_low (i := 2) (by decide), bits_low (i := 1) (by decide), bits_low (i := 0) (by decide),
      bits_low (i := 11) (by decide), bits_low (i := 10) (by decide), bits_low (i := 9) (by decide)]
    rw [p2.1, p2.2.1, p2.2.2, p1.1, p1.2.1, p1.2.2, p0.1, p0.2.1, p0.2.2]
  unfold filemodeF
  rw [hfm, glue10]
  rfl
end Mine
end
section
open PySem PySem.W PyProof.Rows
namespace Mine
theorem law_facts (ns : List Int) : ∃ line, (∀ p ∈ hostsF ns, HostOk p) ∧ (hostsF ns).length ≤ 6 ∧ c3N 200 (climbsF (hostsF ns)) = some line ∧ (∀ x ∈ line, x ∈ U) ∧ line.length ≤ 200 ∧ (orderF (climbsF (hostsF ns))).length ≤ 200 ∧
    (∀ r, 0 ≤ chF (chosenF (rightsF (hostsF ns)) line) r ∧ chF (chosenF (rightsF (hostsF ns)) line) r ≤ 4095) ∧
    ((line.map fun r => (r, filemodeF (Builtin.bitOr 16384 (chF (chosenF (rightsF (hostsF ns)) line) r)))) = (orderF (climbsF (hostsF ns))).map fun r => (r, signsF (sumL (tabsF (hostsF ns)) r 12).sum)) ∧
    (((List.range 12).map fun k => ((line.filter (bitF (chosenF (rightsF (hostsF ns)) line) k)).length : Int)) = (List.range 12).map fun k => (tabsF (hostsF ns) k).2) := by
  obtain ⟨hH, hl⟩ := hosts_ok ns
  generalize hostsF ns = H at hH hl
  obtain ⟨line, c1, c2, c3, c4, c5, c6, c7⟩ := line_ok hH hl
  have hb := chosen_bits (rt_b12 hH) line
  refine ⟨line, hH, hl, c1, c6, c7, by rw [c2]; exact c7, hb.1, ?_, ?_⟩
  · rw [c2]
    refine List.map_congr_left fun r hr => ?_
    have hz := hb.1 r
    rw [sum_all hz (fun k hk => (table_ok hH c2 c3 c4 c5 c6 hk).1 r hr), filemode_signs hz]
  · refine List.map_congr_left fun k hk => ?_
    have hk : k < 12 := List.mem_range.mp hk
    rw [(table_ok hH c2 c3 c4 c5 c6 hk).2]
    have : bitF (chosenF (rightsF H) line) k = fun r => bitN (chF (chosenF (rightsF H) line) r) k := by
      funext r
      exact bit_div (hb.1 r).1 k
    rw [this]
theorem base_top {p : Program} {loose : List Str} {mean : ExcName → Option Value} {mg mb : Str → Option Value} {w : World} {h : Heap} (T : Top p loose mean mg mb h) (KX : (hd.heap_39 w.params).In h) (h125 : h.get? 125 = some (tabObj #[])) :
    Base w (but h 125) ∧ (but h 125).Ns mainGlobals mg ∧ (but h 125).BuiltinsAt mg 125 := by
  have up : ∀ b, b ≠ 125 → ∀ o, h.get? b = some o → (but h 125).get? b = some o := fun b hb o e => by rw [but_get, if_neg hb]; exact e
  refine ⟨⟨fun a o e => ?_, ⟨mb, T.b.at' (up _ (by decide)), T.builtins⟩, ?_⟩, T.g.at' (up _ (by decide)), ?_⟩
  · refine up a (fun q => ?_) o (KX a o e)
    have z : (hd.heap_39 w.params).lookup 125 = none := rfl
    rw [q, z] at e; cases e
  · obtain ⟨mc, a, r⟩ := T.nolimit
    exact ⟨mc, a.at' (up _ (by decide)), r⟩
  · obtain ⟨bm, ob, b1, b2, b3, b4, b5, b6⟩ := T.bmain
    have hbP : bm ≠ 125 := fun q => by
      rw [q, h125] at b3; cases b3; cases b4
    have hbG : bm ≠ mainGlobals := fun q => by
      obtain ⟨o, es, ep, e, hd', _⟩ := T.g
      rw [q, e] at b3; cases b3; rw [hd'] at b6; cases b6
    exact ⟨bm, ob, b1, b2, hbG, hbP, up _ hbP _ b3, b4, b5, b6⟩
theorem caller_ok : AOk (5 + 6) callerA := ⟨rfl, by decide, by decide⟩
end Mine
open Mine
set_option maxRecDepth 100000 in
set_option maxHeartbeats 8000000 in
theorem PySem.Challenge.cw_oy0165_01_holds : PySem.Challenge.rw_oy0165_01.Holds := by
  refine hd ?_
  k_fill
  intro w s₀ s₁ mg mb G Y fa o pm cd doc dV kV ho hd' hcd hD hmg hg args vals as hpre hlay hrd hwl hlo
  have KX := km_in_of Y
  km_tabs Y
  have X := (Ground.X G).1
  have V := (Ground.X G).2
  refine Ground.open G ?_
  intro T B D TE TW
  try (refine guard_noD D (by decide +kernel) ?_; clear D)
  km_lay T hmg ho hd' cd
  wrow_args hpre hlay hrd hwl hlo
  rename IntsAre _ _ => hI
  rename Heap.IsList _ _ _ => hL
  have hlen := IntsAre.length hI
  have h125 := (hT9 (129, 125) (by simp)).2
  obtain ⟨hBB, hNs, hBA⟩ := base_top T KX h125
  have hfa : fa = 159 := by
    have e := mg_of (n := Str.ofString "law") (v := .ref 159) KX T.g rfl
    rw [e] at hmg
    injection hmg with q
    injection q with q
    exact q.symm
  subst hfa
  obtain ⟨line, hH, hHl, hline, hlU, hll, hol, hch, eqL, eqC⟩ := law_facts _
  refine enter_call ?_
  refine kn_post hT9 (fun _ _ => rfl) ?_
  refine law_walk (n := 5) (K := but s₁.heap 125) (mg := mg) caller_ok hBB (but_le _ _) (hL.at fun o e => ?_) (intsAre hI) (by omega) hNs hBA h125 (by rw [but_get, if_pos rfl]) _ rfl hH hHl hline hlU hll hol hch eqL eqC ?_
  · rw [but_get, if_neg]
    · exact e
    · intro q
      obtain ⟨ol, e', hc, _⟩ := hL
      rw [q, h125] at e'
      cases e'
      cases hc
  · intro h' tk up tab
    refine ⟨⟨.inl ⟨.bool true, .bool true, [], rfl, (fun _ => rfl), .bool true, ?_, fun _ => ⟨List.nodup_nil, fun _ h => nomatch h⟩⟩, fun b o e => ?_, rfl, hg⟩, tab, trivial⟩
    · exact postW_of rfl rfl (by first | decide +kernel | simp [same] | exact same_refl _)
    · refine up b o (fun q => ?_) (of_hideAll _ e)
      rw [q] at e
      rw [show (ghostOf s₁.heap [(129, 125)]).get? 125 = none from hideAll_none _ (by simp)] at e
      cases e
end
