/- The AVL tree of go/token: trees as data, how they lie in memory, the right spine. No program in sight but the type's number. -/
import Derived.Test.YtmijedghihebjaaGreatFmtBase
namespace Go.Proofs.YtmijedghihebjaaGreatFmt
open Go.RowKit

/-- A node's cells: parent, left, right, file, key (start, end), balance, height. -/
def NB (p l r f : Option Nat) (lo hi bal h : Int) : Array Value := #[ptr p, ptr l, ptr r, ptr f, .int .i64 lo, .int .i64 hi, .int .i32 bal, .int .i32 h]
def nodeIs (w : World) (b : Nat) (p l r f : Option Nat) (lo hi bal h : Int) : Prop := w.heap[b]? = some (.cells (NB p l r f lo hi bal h) 124 (0, 0))

inductive T where
  | nil
  | node (b : Nat) (l : T) (f : Nat) (lo hi : Int) (r : T)

namespace T
def root : T → Option Nat
  | nil => none
  | node b _ _ _ _ _ => some b
def ht : T → Int
  | nil => -1
  | node _ l _ _ _ r => max l.ht r.ht + 1
def nodes : T → List Nat
  | nil => []
  | node b l _ _ _ r => l.nodes ++ b :: r.nodes
def files : T → List (Nat × Int × Int)
  | nil => []
  | node _ l f lo hi r => l.files ++ (f, lo, hi) :: r.files
def AVL : T → Prop
  | nil => True
  | node _ l _ _ _ r => l.AVL ∧ r.AVL ∧ -1 ≤ r.ht - l.ht ∧ r.ht - l.ht ≤ 1
def At (w : World) : Option Nat → T → Prop
  | _, nil => True
  | p, node b l f lo hi r => nodeIs w b p l.root r.root (some f) lo hi (r.ht - l.ht) (max l.ht r.ht + 1) ∧ l.At w (some b) ∧ r.At w (some b)

theorem ht_ge (t : T) : -1 ≤ t.ht := by
  induction t with
  | nil => simp [ht]
  | node b l f lo hi r ihl ihr => simp only [ht]; omega

theorem root_mem {t : T} {b : Nat} (h : t.root = some b) : b ∈ t.nodes := by
  cases t with
  | nil => simp [root] at h
  | node c l f lo hi r => simp [root] at h; subst h; simp [nodes]

theorem At.lt {w : World} {t : T} : ∀ {p : Option Nat}, t.At w p → ∀ b ∈ t.nodes, ∃ c, w.heap[b]? = some (.cells c 124 (0, 0)) := by
  induction t with
  | nil => intro p _ b hb; simp [nodes] at hb
  | node b l f lo hi r ihl ihr =>
    intro p h x hx
    obtain ⟨h1, h2, h3⟩ := h
    simp only [nodes, List.mem_append, List.mem_cons] at hx
    rcases hx with hx | rfl | hx
    · exact ihl h2 x hx
    · exact ⟨_, h1⟩
    · exact ihr h3 x hx

theorem At.keep {w w' : World} {t : T} : ∀ {p : Option Nat}, t.At w p → (∀ b ∈ t.nodes, w'.heap[b]? = w.heap[b]?) → t.At w' p := by
  induction t with
  | nil => intro p _ _; exact True.intro
  | node b l f lo hi r ihl ihr =>
    intro p h hk
    obtain ⟨h1, h2, h3⟩ := h
    refine ⟨?_, ihl h2 (fun x hx => hk x (by simp [nodes, hx])), ihr h3 (fun x hx => hk x (by simp [nodes, hx]))⟩
    unfold nodeIs at h1 ⊢
    rw [hk b (by simp [nodes])]
    exact h1

theorem At.chg {M : Nat → Prop} {w w' : World} {t : T} {p : Option Nat} (h : t.At w p) (hc : Chg M w w') (hm : ∀ b ∈ t.nodes, ¬ M b) : t.At w' p :=
  h.keep fun b hb => hc.block b (by obtain ⟨c, hc⟩ := h.lt b hb; exact lt_of_heap hc) (hm b hb)

/-- The root's parent cell has changed, and nothing else of the tree. -/
theorem At.reparent {w w' : World} {p q : Option Nat} {b : Nat} {l : T} {f : Nat} {lo hi : Int} {r : T} (h : (node b l f lo hi r).At w p)
    (hb : nodeIs w' b q l.root r.root (some f) lo hi (r.ht - l.ht) (max l.ht r.ht + 1)) (hl : ∀ x ∈ l.nodes, w'.heap[x]? = w.heap[x]?) (hr : ∀ x ∈ r.nodes, w'.heap[x]? = w.heap[x]?) : (node b l f lo hi r).At w' q :=
  ⟨hb, h.2.1.keep hl, h.2.2.keep hr⟩

theorem pow_mono {a b : Nat} (h : a ≤ b) : 2 ^ a ≤ 2 ^ b := Nat.pow_le_pow_right (by omega) h

/-- An AVL tree of height h has at least 2^(h/2) - 1 nodes. -/
theorem AVL.big {t : T} (h : t.AVL) : 2 ^ ((t.ht + 1).toNat / 2) ≤ t.nodes.length + 1 := by
  induction t with
  | nil => simp [ht, nodes]
  | node b l f lo hi r ihl ihr =>
    obtain ⟨hl, hr, h1, h2⟩ := h
    have il := ihl hl
    have ir := ihr hr
    have gl := l.ht_ge
    have gr := r.ht_ge
    simp only [ht, nodes, List.length_append, List.length_cons]
    have key : ∀ (x : Int), -1 ≤ x → max l.ht r.ht ≤ x + 1 → x ≤ l.ht → x ≤ r.ht → 2 ^ ((max l.ht r.ht + 1 + 1).toNat / 2) ≤ l.nodes.length + (r.nodes.length + 1) + 1 := by
      intro x hx hm hxl hxr
      have e1 := pow_mono (show (x + 1).toNat / 2 ≤ (l.ht + 1).toNat / 2 by omega)
      have e2 := pow_mono (show (x + 1).toNat / 2 ≤ (r.ht + 1).toNat / 2 by omega)
      have e3 := pow_mono (show (max l.ht r.ht + 1 + 1).toNat / 2 ≤ (x + 1).toNat / 2 + 1 by omega)
      rw [Nat.pow_succ] at e3
      omega
    exact key (min l.ht r.ht) (by omega) (by omega) (by omega) (by omega)

theorem AVL.small {t : T} (h : t.AVL) (hn : t.nodes.length < 2 ^ 60) : t.ht ≤ 130 := by
  have := h.big
  by_cases hc : t.ht ≤ 130
  · exact hc
  · have e := pow_mono (show 61 ≤ (t.ht + 1).toNat / 2 by omega)
    have : (2 : Nat) ^ 61 = 2 * 2 ^ 60 := by decide
    omega

/-- Files and nodes are as many. -/
theorem files_length (t : T) : t.files.length = t.nodes.length := by
  induction t with
  | nil => rfl
  | node b l f lo hi r ihl ihr => simp [files, nodes, ihl, ihr]
end T

/-- A node on the right spine, with its left subtree. -/
structure Fr where
  b : Nat
  l : T
  f : Nat
  lo : Int
  hi : Int

def topOf (C : List Fr) : Option Nat := C.head?.map (·.b)

/-- The spine above a subtree with the root c, whose height is (or was) h; innermost first. -/
def Ctx (w : World) : Option Nat → Int → List Fr → Prop
  | _, _, [] => True
  | c, h, x :: C => nodeIs w x.b (topOf C) x.l.root c (some x.f) x.lo x.hi (h - x.l.ht) (max x.l.ht h + 1) ∧ x.l.At w (some x.b) ∧ x.l.AVL ∧ -1 ≤ h - x.l.ht ∧ h - x.l.ht ≤ 1 ∧ Ctx w (some x.b) (max x.l.ht h + 1) C

def Fr.nodes (x : Fr) : List Nat := x.b :: x.l.nodes
def frNodes (C : List Fr) : List Nat := C.flatMap Fr.nodes
def frFiles : List Fr → List (Nat × Int × Int)
  | [] => []
  | x :: C => frFiles C ++ (x.l.files ++ [(x.f, x.lo, x.hi)])

def plug : List Fr → T → T
  | [], s => s
  | x :: C, s => plug C (.node x.b x.l x.f x.lo x.hi s)

def spine : T → List Fr
  | .nil => []
  | .node b l f lo hi r => spine r ++ [⟨b, l, f, lo, hi⟩]

/-- The root of the whole tree, where the subtree in the hole has the root c. -/
def rootOf : List Fr → Option Nat → Option Nat
  | [], c => c
  | x :: C, _ => rootOf C (some x.b)

theorem rootOf_plug (C : List Fr) (s : T) : (plug C s).root = rootOf C s.root := by
  induction C generalizing s with
  | nil => rfl
  | cons x C ih => simp only [plug, rootOf]; rw [ih]; rfl

theorem plug_files (C : List Fr) (s : T) : (plug C s).files = frFiles C ++ s.files := by
  induction C generalizing s with
  | nil => rfl
  | cons x C ih => simp [plug, ih, T.files, frFiles]

theorem plug_nodes (C : List Fr) (s : T) : (plug C s).nodes.Perm (frNodes C ++ s.nodes) := by
  induction C generalizing s with
  | nil => exact List.Perm.refl _
  | cons x C ih =>
    refine (ih _).trans ?_
    simp only [T.nodes, frNodes, List.flatMap_cons, Fr.nodes]
    refine List.perm_iff_count.2 fun a => ?_
    simp [List.count_append, List.count_cons]
    omega

theorem plug_at {w : World} : ∀ (C : List Fr) (s : T), s.At w (topOf C) → s.AVL → Ctx w s.root s.ht C → (plug C s).At w none ∧ (plug C s).AVL := by
  intro C
  induction C with
  | nil => intro s h a _; exact ⟨h, a⟩
  | cons x C ih =>
    intro s h a hc
    obtain ⟨h1, h2, h3, h4, h5, h6⟩ := hc
    exact ih _ ⟨h1, h2, h⟩ ⟨h3, a, h4, h5⟩ h6

theorem spine_plug (t : T) : plug (spine t) .nil = t := by
  have key : ∀ (t : T) (C : List Fr), plug (spine t ++ C) .nil = plug C t := by
    intro t
    induction t with
    | nil => intro C; rfl
    | node b l f lo hi r ihl ihr => intro C; simp only [spine, List.append_assoc, List.singleton_append]; rw [ihr]; rfl
  have := key t []
  simpa [plug] using this

theorem spine_ctx {w : World} (t : T) (h : t.At w none) (a : t.AVL) : Ctx w none (-1) (spine t) := by
  have key : ∀ (t : T) (C : List Fr), t.At w (topOf C) → t.AVL → Ctx w t.root t.ht C → Ctx w none (-1) (spine t ++ C) := by
    intro t
    induction t with
    | nil => intro C _ _ hc; exact hc
    | node b l f lo hi r ihl ihr =>
      intro C h a hc
      simp only [spine, List.append_assoc, List.singleton_append]
      exact ihr _ h.2.2 a.2.1 ⟨h.1, h.2.1, a.1, a.2.2.1, a.2.2.2, hc⟩
  have := key t [] h a True.intro
  simpa using this

theorem spine_nodes (t : T) : t.nodes.Perm (frNodes (spine t)) := by
  have := plug_nodes (spine t) .nil
  rw [spine_plug] at this
  simpa [T.nodes] using this

theorem spine_files (t : T) : frFiles (spine t) = t.files := by
  have := plug_files (spine t) .nil
  rw [spine_plug] at this
  simpa [T.files] using this.symm

theorem spine_root (t : T) : rootOf (spine t) none = t.root := by
  have := rootOf_plug (spine t) .nil
  rw [spine_plug] at this
  exact this.symm

theorem Ctx.keep {w w' : World} : ∀ {C : List Fr} {c : Option Nat} {h : Int}, Ctx w c h C → (∀ b ∈ frNodes C, w'.heap[b]? = w.heap[b]?) → Ctx w' c h C := by
  intro C
  induction C with
  | nil => intro c h _ _; exact True.intro
  | cons x C ih =>
    intro c h hc hk
    obtain ⟨h1, h2, h3, h4, h5, h6⟩ := hc
    have hk' : ∀ b ∈ frNodes C, w'.heap[b]? = w.heap[b]? := fun b hb => hk b (by simp only [frNodes, List.flatMap_cons] at hb ⊢; exact List.mem_append_right _ hb)
    refine ⟨?_, h2.keep (fun b hb => hk b (by simp [frNodes, Fr.nodes, hb])), h3, h4, h5, ih h6 hk'⟩
    unfold nodeIs at h1 ⊢
    rw [hk x.b (by simp [frNodes, Fr.nodes])]
    exact h1

theorem Ctx.lt {w : World} : ∀ {C : List Fr} {c : Option Nat} {h : Int}, Ctx w c h C → ∀ b ∈ frNodes C, ∃ c, w.heap[b]? = some (.cells c 124 (0, 0)) := by
  intro C
  induction C with
  | nil => intro c h _ b hb; simp [frNodes] at hb
  | cons x C ih =>
    intro c h hc b hb
    obtain ⟨h1, h2, h3, h4, h5, h6⟩ := hc
    simp only [frNodes, List.flatMap_cons, Fr.nodes, List.mem_append, List.mem_cons] at hb
    rcases hb with (rfl | hb) | hb
    · exact ⟨_, h1⟩
    · exact h2.lt b hb
    · exact ih h6 b hb

/-- Only the innermost node's right child has changed. -/
theorem Ctx.swap {w w' : World} {x : Fr} {C : List Fr} {c d : Option Nat} {h : Int} (hc : Ctx w c h (x :: C))
    (hb : nodeIs w' x.b (topOf C) x.l.root d (some x.f) x.lo x.hi (h - x.l.ht) (max x.l.ht h + 1)) (hk : ∀ b ∈ x.l.nodes ++ frNodes C, w'.heap[b]? = w.heap[b]?) : Ctx w' d h (x :: C) := by
  obtain ⟨h1, h2, h3, h4, h5, h6⟩ := hc
  exact ⟨hb, h2.keep (fun b hm => hk b (by simp [hm])), h3, h4, h5, h6.keep (fun b hm => hk b (by simp [hm]))⟩

/-- The right subtree of a node on the way up has just grown by 1. -/
def Tall : T → Prop
  | .nil => False
  | .node _ l _ _ _ r => r.ht = l.ht + 1 ∨ (l = .nil ∧ r = .nil)

/-- WHERE A KEY IS SEARCHED FOR: the cell that leads there, the parent, the subtree that was found. -/
def T.loc (ks ke : Int) : T → Addr → Option Nat → Addr × Option Nat × T
  | .nil, a, p => (a, p, .nil)
  | .node b l f lo hi r, a, p => if ke < lo then l.loc ks ke ⟨b, 1, none⟩ (some b) else if hi < ks then r.loc ks ke ⟨b, 2, none⟩ (some b) else (a, p, .node b l f lo hi r)

/-- A key behind all others leads to the end of the spine. -/
theorem T.loc_last (ks ke : Int) (hk : ks ≤ ke) (t : T) (ht : ∀ x ∈ t.files, x.2.1 ≤ x.2.2 ∧ x.2.2 < ks) (a : Addr) :
    t.loc ks ke a none = ((match spine t with | [] => a | x :: _ => ⟨x.b, 2, none⟩), topOf (spine t), .nil) := by
  have key : ∀ (t : T) (a : Addr) (p : Option Nat) (C : List Fr), (∀ x ∈ t.files, x.2.1 ≤ x.2.2 ∧ x.2.2 < ks) → p = topOf C → a = (match C with | [] => a | x :: _ => ⟨x.b, 2, none⟩) →
      t.loc ks ke a p = ((match spine t ++ C with | [] => a | x :: _ => ⟨x.b, 2, none⟩), topOf (spine t ++ C), .nil) := by
    intro t
    induction t with
    | nil => intro a p C _ hp ha; simp only [T.loc, spine, List.nil_append]; rw [hp, ← ha]
    | node b l f lo hi r ihl ihr =>
      intro a p C h hp ha
      have h0 := h (f, lo, hi) (by simp [T.files])
      simp only at h0
      simp only [T.loc]
      rw [if_neg (by omega), if_pos (by omega), ihr ⟨b, 2, none⟩ (some b) (⟨b, l, f, lo, hi⟩ :: C) (fun x hx => h x (by simp [T.files, hx])) rfl rfl]
      simp only [spine, List.append_assoc, List.singleton_append]
      cases hL : spine r ++ (⟨b, l, f, lo, hi⟩ :: C) with
      | nil => simp at hL
      | cons => rfl
  have := key t a none [] ht rfl rfl
  simpa using this

end Go.Proofs.YtmijedghihebjaaGreatFmt
