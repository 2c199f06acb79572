import PyProof.Rows.All
import Wide.All
import OpenK.AllK
import Wide.FinOn
import PySem.Challenge.RW_at6042_01
open PySem PySem.W PyProof.Rows
set_option Elab.async false
set_option maxRecDepth 100000
set_option linter.all false
namespace Mine
set_option maxHeartbeats 8000000 in
open_top hd for PySem.Challenge.rw_at6042_01
end Mine
section
open PySem PySem.W PySem.Calls PyProof.Rows
set_option Elab.async false
set_option maxRecDepth 100000
set_option linter.all false
namespace Mine

abbrev PW : Program := PySem.Challenge.pw_at6042_01
abbrev Ledger := List (Addr × Obj)

structure Kx where
  w : World
  A : Around
  g : Array GenState
  os : OsState
abbrev Kx.M (κ : Kx) : Model := model PW κ.w
def Kx.deep (κ : Kx) (env : Env) : Kx := { κ with A := κ.A.deeper env }
def Kx.in1 (κ : Kx) : Kx := { κ with A := κ.A.in1 }

/-- room for n more calls -/
structure Room (κ : Kx) (n : Nat) : Prop where
  handled : κ.A.handled = none
  depth : κ.A.depth + 4 * n < recursionLimit
  units : κ.A.units + 16 * n + 100 < cLine
theorem Room.deep {κ : Kx} {n : Nat} (R : Room κ (n + 1)) (env : Env) : Room (κ.deep env) n :=
  ⟨R.handled, by have := R.depth; show κ.A.depth + 1 + _ < _; omega, by have := R.units; show κ.A.units + 3 + 16 * n + 100 < _; omega⟩
theorem Room.le {κ : Kx} {n m : Nat} (R : Room κ n) (h : m ≤ n) : Room κ m :=
  ⟨R.handled, by have := R.depth; omega, by have := R.units; omega⟩
theorem Room.in1 {κ : Kx} {n : Nat} (R : Room κ (n + 1)) : Room κ.in1 n :=
  ⟨R.handled, by have := R.depth; show κ.A.depth + _ < _; omega, by have := R.units; show κ.A.units + 1 + 16 * n + 100 < _; omega⟩

def T {α : Type} (κ : Kx) (t : Sem α) (Q : α → Heap → Prop) (h : Heap) : Prop :=
  ∀ d tk, wpAny κ.M κ.A t (fun a s' => s'.gens = κ.g ∧ s'.os = κ.os ∧ Q a s'.heap) (fun _ _ => False) ⟨h, κ.g, d, tk, κ.os⟩
def C (κ : Kx) (c : Code) (Q : Value → Heap → Prop) (h : Heap) : Prop :=
  ∀ d tk, codeAny κ.M κ.A c (fun r s' => match r with
    | .ok (.ret v) => s'.gens = κ.g ∧ s'.os = κ.os ∧ Q v s'.heap
    | _ => False) ⟨h, κ.g, d, tk, κ.os⟩

section
variable {α β : Type} {κ : Kx} {h : Heap}
theorem T.mono {t : Sem α} {Q Q' : α → Heap → Prop} (x : T κ t Q h) (k : ∀ a h', Q a h' → Q' a h') : T κ t Q' h :=
  fun d tk => wpAny_mono (x d tk) (fun a s ⟨a1, a2, a3⟩ => ⟨a1, a2, k a _ a3⟩) (fun _ _ e => e)
/-- to use a T-triple as the wpAny of a library rule -/
theorem T.use {t : Sem α} {Q : α → Heap → Prop} {Q' : α → Shared → Prop} {E : Value → Shared → Prop} {s : Shared} (x : T κ t Q s.heap) (hg : s.gens = κ.g) (ho : s.os = κ.os)
    (k : ∀ a s', s'.gens = κ.g → s'.os = κ.os → Q a s'.heap → Q' a s') : wpAny κ.M κ.A t Q' E s := by
  obtain ⟨h, g, d, tk, os⟩ := s
  dsimp only at hg ho
  subst hg ho
  exact wpAny_mono (x d tk) (fun a s ⟨a1, a2, a3⟩ => k a s a1 a2 a3) (fun _ _ e => e.elim)
theorem C.use {c : Code} {Q : Value → Heap → Prop} {R : Result → Shared → Prop} {s : Shared} (x : C κ c Q s.heap) (hg : s.gens = κ.g) (ho : s.os = κ.os)
    (k : ∀ v s', s'.gens = κ.g → s'.os = κ.os → Q v s'.heap → R (.ok (.ret v)) s') : codeAny κ.M κ.A c R s := by
  obtain ⟨h, g, d, tk, os⟩ := s
  dsimp only at hg ho
  subst hg ho
  refine codeAny_mono (x d tk) (fun r s z => ?_)
  rcases r with e | (_ | _ | _ | v)
  · exact z.elim
  · exact z.elim
  · exact z.elim
  · exact z.elim
  · exact k v s z.1 z.2.1 z.2.2
theorem C.mono {c : Code} {Q Q' : Value → Heap → Prop} (x : C κ c Q h) (k : ∀ v h', Q v h' → Q' v h') : C κ c Q' h :=
  fun d tk => (x.use (s := ⟨h, κ.g, d, tk, κ.os⟩) rfl rfl fun v s' a b c => ⟨a, b, k v _ c⟩)

theorem T.bind {m : Sem α} {f : α → Sem β} {Q : β → Heap → Prop} (x : T κ m (fun a h' => T κ (f a) Q h') h) : T κ (m >>= f) Q h :=
  fun d tk => wpAny_bind (x.use (s := ⟨h, κ.g, d, tk, κ.os⟩) rfl rfl fun a s' hg ho y => y.use hg ho fun _ _ p q r => ⟨p, q, r⟩)
theorem T.pure {a : α} {Q : α → Heap → Prop} (x : Q a h) : T κ (pure a) Q h := fun _ _ => wpAny_pure ⟨rfl, rfl, x⟩
theorem T.call {f : Value} {pos : List Value} {kw : List (Str × Value)} {Q : Value → Heap → Prop} (x : C κ (.call f ⟨pos, kw⟩) Q h) : T κ (call f pos kw) Q h :=
  fun d tk => wpAny_call (x.use (s := ⟨h, κ.g, d, tk, κ.os⟩) rfl rfl fun _ _ p q r => ⟨p, q, r⟩)
end

/-! ## ledgers and frames -/
def Led (h : Heap) (N : Ledger) : Prop := ∀ p ∈ N, h.get? p.1 = some p.2
def Keep (h h' : Heap) : Prop := ∀ b o, h.get? b = some o → h'.get? b = some o
def KeepBut (h : Heap) (N : Ledger) (h' : Heap) : Prop := ∀ b o, h.get? b = some o → b ∉ N.map (·.1) → h'.get? b = some o
def NewIn (h : Heap) (N N' : Ledger) : Prop := ∀ p ∈ N', p.1 ∈ N.map (·.1) ∨ h.get? p.1 = none
def Out (h : Heap) (N : Ledger) (Post : Value → Ledger → Prop) (v : Value) (h' : Heap) : Prop :=
  ∃ N', Led h' N' ∧ KeepBut h N h' ∧ NewIn h N N' ∧ Post v N'
def Off (X N : Ledger) : Prop := ∀ p ∈ X, ∀ q ∈ N, p.1 ≠ q.1

theorem Keep.refl (h : Heap) : Keep h h := fun _ _ e => e
theorem Keep.trans {h h' h'' : Heap} (x : Keep h h') (y : Keep h' h'') : Keep h h'' := fun b o e => y b o (x b o e)

structure TopIn (w : World) (H : Heap) : Prop where
  k : (hd.heap_39 w.params).In H
  t : ∃ p loose mg mb, TopRead p loose mg mb H
theorem TopIn.keep {w : World} {H h : Heap} (x : TopIn w H) (k : Keep H h) : TopIn w h :=
  ⟨x.k.keeps k, let ⟨p, l, mg, mb, t⟩ := x.t; ⟨p, l, mg, mb, t.keeps k⟩⟩
theorem TopIn.nolimit {w : World} {H : Heap} (x : TopIn w H) : H.NoLimit := let ⟨_, _, _, _, t⟩ := x.t; t.nolimit

def look : List (Str × Value) → Str → Option Value
  | [] => fun _ => none
  | (k, v) :: r => fun x => if x = k then some v else look r x
theorem look_lookup (l : List (Str × Value)) : (fun x => l.lookup x) = look l := by
  induction l with
  | nil => rfl
  | cons p r ih =>
    obtain ⟨k, v⟩ := p
    funext x
    have := congrFun ih x
    simp only [List.lookup_cons, look]
    by_cases e : x = k
    · simp [e]
    · simp only [beq_eq_false_iff_ne.mpr e, if_neg e]; exact this

structure St (w : World) (H : Heap) (L : Addr) (l : List (Str × Value)) (N X : Ledger) (h : Heap) : Prop where
  top : TopIn w H
  ns : h.Ns L (look l)
  keep : Keep H h
  offL : H.get? L = none
  n : ∀ p ∈ N, h.get? p.1 = some p.2 ∧ p.1 ≠ L ∧ H.get? p.1 = none
  x : ∀ p ∈ X, h.get? p.1 = some p.2 ∧ p.1 ≠ L ∧ H.get? p.1 = none
  off : Off X N

def upd (N : Ledger) (d : Addr) (o : Obj) : Ledger := N.map fun p => if p.1 = d then (d, o) else p
/-- one object changed -/
structure Ch (h : Heap) (d : Addr) (o : Obj) (h' : Heap) : Prop where
  but : ∀ b, b ≠ d → h'.get? b = h.get? b
  at_ : h'.get? d = some o
/-- one object made -/
structure Nw (h : Heap) (a : Addr) (o : Obj) (h' : Heap) : Prop where
  fresh : h.get? a = none
  at_ : h'.get? a = some o
  keep : Keep h h'

theorem mem_upd_of_ne {N : Ledger} {d : Addr} {o : Obj} {p : Addr × Obj} (hp : p ∈ N) (hd : p.1 ≠ d) : p ∈ upd N d o :=
  List.mem_map.mpr ⟨p, hp, if_neg hd⟩
theorem mem_upd_self {N : Ledger} {d : Addr} {o o₀ : Obj} (hp : (d, o₀) ∈ N) : (d, o) ∈ upd N d o :=
  List.mem_map.mpr ⟨(d, o₀), hp, if_pos rfl⟩
theorem upd_fst (N : Ledger) (d : Addr) (o : Obj) : (upd N d o).map (·.1) = N.map (·.1) := by
  unfold upd
  rw [List.map_map]
  refine List.map_congr_left fun p _ => ?_
  show (if p.1 = d then (d, o) else p).1 = p.1
  split
  · rename_i e; exact e.symm
  · rfl
theorem mem_upd {N : Ledger} {d : Addr} {o : Obj} {p : Addr × Obj} (hp : p ∈ upd N d o) : (p = (d, o) ∧ d ∈ N.map (·.1)) ∨ (p ∈ N ∧ p.1 ≠ d) := by
  obtain ⟨q, hq, rfl⟩ := List.mem_map.mp hp
  by_cases e : q.1 = d
  · rw [if_pos e]; exact .inl ⟨rfl, e ▸ List.mem_map_of_mem hq⟩
  · rw [if_neg e]; exact .inr ⟨hq, e⟩
theorem off_fst {X N N' : Ledger} (x : Off X N) (e : N'.map (·.1) = N.map (·.1)) : Off X N' := fun p hp q hq => by
  have : q.1 ∈ N.map (·.1) := e ▸ List.mem_map_of_mem hq
  obtain ⟨r, hr, e'⟩ := List.mem_map.mp this
  rw [← e']; exact x p hp r hr
theorem Off.symm {X N : Ledger} (x : Off X N) : Off N X := fun p hp q hq e => x q hq p hp e.symm

namespace St
variable {w : World} {H : Heap} {L : Addr} {l : List (Str × Value)} {N X : Ledger} {h h' : Heap}
theorem kin (S : St w H L l N X h) : (hd.heap_39 w.params).In h := (S.top.keep S.keep).k
theorem topH (S : St w H L l N X h) : TopIn w h := S.top.keep S.keep
theorem ledN (S : St w H L l N X h) : Led h N := fun p hp => (S.n p hp).1
theorem ledX (S : St w H L l N X h) : Led h X := fun p hp => (S.x p hp).1
theorem base (S : St w H L l N X h) {a : Addr} {o : Obj} (e : H.get? a = some o) : h.get? a = some o := S.keep a o e
theorem gn (S : St w H L l N X h) {a : Addr} {o : Obj} (e : (a, o) ∈ N) : h.get? a = some o := (S.n _ e).1
theorem gx (S : St w H L l N X h) {a : Addr} {o : Obj} (e : (a, o) ∈ X) : h.get? a = some o := (S.x _ e).1
theorem freshH (S : St w H L l N X h) {a : Addr} (e : h.get? a = none) : H.get? a = none := by
  cases q : H.get? a with
  | none => rfl
  | some o => rw [S.keep a o q] at e; cases e
theorem liveL (S : St w H L l N X h) : ∃ o, h.get? L = some o := let ⟨o, _, _, e, _⟩ := S.ns; ⟨o, e⟩

theorem keeps (S : St w H L l N X h) (k : Keep h h') : St w H L l N X h' :=
  ⟨S.top, S.ns.keeps k, S.keep.trans k, S.offL, fun p hp => ⟨k _ _ (S.n p hp).1, (S.n p hp).2⟩, fun p hp => ⟨k _ _ (S.x p hp).1, (S.x p hp).2⟩, S.off⟩
theorem new (S : St w H L l N X h) {a : Addr} {o : Obj} (c : Nw h a o h') : St w H L l N ((a, o) :: X) h' := by
  have S' := S.keeps c.keep
  refine ⟨S'.top, S'.ns, S'.keep, S'.offL, S'.n, fun p hp => ?_, fun p hp q hq => ?_⟩
  · rcases List.mem_cons.mp hp with rfl | hp
    · refine ⟨c.at_, fun e => ?_, S.freshH c.fresh⟩
      obtain ⟨o, ho⟩ := S.liveL
      have e' : a = L := e
      rw [← e'] at ho
      have : h.get? a = some o := ho
      rw [c.fresh] at this; cases this
    · exact S'.x p hp
  · rcases List.mem_cons.mp hp with rfl | hp
    · intro e
      have := (S.n q hq).1
      have e' : a = q.1 := e
      rw [← e', c.fresh] at this; cases this
    · exact S.off p hp q hq
theorem newN (S : St w H L l N X h) {a : Addr} {o : Obj} (c : Nw h a o h') : St w H L l ((a, o) :: N) X h' := by
  have S' := S.keeps c.keep
  refine ⟨S'.top, S'.ns, S'.keep, S'.offL, fun p hp => ?_, S'.x, fun p hp q hq => ?_⟩
  · rcases List.mem_cons.mp hp with rfl | hp
    · refine ⟨c.at_, fun e => ?_, S.freshH c.fresh⟩
      obtain ⟨o, ho⟩ := S.liveL
      have e' : a = L := e
      rw [← e'] at ho
      have : h.get? a = some o := ho
      rw [c.fresh] at this; cases this
    · exact S'.n p hp
  · rcases List.mem_cons.mp hq with rfl | hq
    · intro e
      have := (S.x p hp).1
      have e' : p.1 = a := e
      rw [e', c.fresh] at this; cases this
    · exact S.off p hp q hq
/-- an object of the focus changed -/
theorem updN (S : St w H L l N X h) {d : Addr} {o o₀ : Obj} (hd : (d, o₀) ∈ N) (c : Ch h d o h') : St w H L l (upd N d o) X h' := by
  have D := S.n _ hd
  refine ⟨S.top, ?_, fun b ob e => ?_, S.offL, fun p hp => ?_, fun p hp => ?_, off_fst S.off (upd_fst ..)⟩
  · obtain ⟨oL, es, ep, e, r⟩ := S.ns
    exact ⟨oL, es, ep, (c.but _ (Ne.symm D.2.1)).trans e, r⟩
  · refine (c.but b fun q => ?_).trans (S.keep b ob e)
    have : H.get? d = some ob := q ▸ e
    rw [D.2.2] at this; cases this
  · rcases mem_upd hp with ⟨rfl, _⟩ | ⟨hp, hne⟩
    · exact ⟨c.at_, D.2⟩
    · exact ⟨(c.but _ hne).trans (S.n p hp).1, (S.n p hp).2⟩
  · exact ⟨(c.but _ (S.off p hp _ hd)).trans (S.x p hp).1, (S.x p hp).2⟩
theorem updX (S : St w H L l N X h) {d : Addr} {o o₀ : Obj} (hd : (d, o₀) ∈ X) (c : Ch h d o h') : St w H L l N (upd X d o) h' := by
  have D := S.x _ hd
  refine ⟨S.top, ?_, fun b ob e => ?_, S.offL, fun p hp => ?_, fun p hp => ?_, (off_fst S.off.symm (upd_fst ..)).symm⟩
  · obtain ⟨oL, es, ep, e, r⟩ := S.ns
    exact ⟨oL, es, ep, (c.but _ (Ne.symm D.2.1)).trans e, r⟩
  · refine (c.but b fun q => ?_).trans (S.keep b ob e)
    have : H.get? d = some ob := q ▸ e
    rw [D.2.2] at this; cases this
  · exact ⟨(c.but _ (S.off.symm p hp _ hd)).trans (S.n p hp).1, (S.n p hp).2⟩
  · rcases mem_upd hp with ⟨rfl, _⟩ | ⟨hp, hne⟩
    · exact ⟨c.at_, D.2⟩
    · exact ⟨(c.but _ hne).trans (S.x p hp).1, (S.x p hp).2⟩
theorem dropX (S : St w H L l N X h) {X' : Ledger} (k : ∀ p ∈ X', p ∈ X) : St w H L l N X' h :=
  ⟨S.top, S.ns, S.keep, S.offL, S.n, fun p hp => S.x p (k p hp), fun p hp => S.off p (k p hp)⟩
/-- what lies beside the ledgers and the frame is taken into the base -/
def reb (L : Addr) (N X : Ledger) (h : Heap) : Heap := hideAll h (L :: (N.map (·.1) ++ X.map (·.1)))
theorem reb_sub : Keep (reb L N X h) h := fun _ _ e => of_hideAll _ e
theorem reb_get {b : Addr} {o : Obj} (e : h.get? b = some o) (h1 : b ≠ L) (h2 : b ∉ N.map (·.1)) (h3 : b ∉ X.map (·.1)) : (reb L N X h).get? b = some o :=
  hideAll_get _ e (by intro q; rcases List.mem_cons.mp q with q | q; exact h1 q; rcases List.mem_append.mp q with q | q; exact h2 q; exact h3 q)
theorem sub_reb (S : St w H L l N X h) : Keep H (reb L N X h) := fun b o e => by
  refine reb_get (S.keep b o e) (fun q => ?_) (fun q => ?_) (fun q => ?_)
  · rw [q, S.offL] at e; cases e
  · obtain ⟨p, hp, rfl⟩ := List.mem_map.mp q; rw [(S.n p hp).2.2] at e; cases e
  · obtain ⟨p, hp, rfl⟩ := List.mem_map.mp q; rw [(S.x p hp).2.2] at e; cases e
theorem rebase (S : St w H L l N X h) : St w (reb L N X h) L l N X h :=
  ⟨S.top.keep S.sub_reb, S.ns, reb_sub, hideAll_none _ (.head _),
    fun p hp => ⟨(S.n p hp).1, (S.n p hp).2.1, hideAll_none _ (.tail _ (List.mem_append_left _ (List.mem_map_of_mem hp)))⟩,
    fun p hp => ⟨(S.x p hp).1, (S.x p hp).2.1, hideAll_none _ (.tail _ (List.mem_append_right _ (List.mem_map_of_mem hp)))⟩, S.off⟩
/-- back to a smaller base -/
theorem back {H' : Heap} (S : St w H' L l N X h) (k : Keep H H') (top : TopIn w H) : St w H L l N X h := by
  have no : ∀ a, H'.get? a = none → H.get? a = none := fun a e => by
    cases q : H.get? a with
    | none => rfl
    | some o => rw [k a o q] at e; cases e
  exact ⟨top, S.ns, fun b o e => S.keep b o (k b o e), no _ S.offL, fun p hp => ⟨(S.n p hp).1, (S.n p hp).2.1, no _ (S.n p hp).2.2⟩,
    fun p hp => ⟨(S.x p hp).1, (S.x p hp).2.1, no _ (S.x p hp).2.2⟩, S.off⟩
/-- behind a call that changed the focus -/
theorem out {N' : Ledger} (S : St w H L l N X h) (l' : Led h' N') (k : KeepBut h N h') (n : NewIn h N N') : St w H L l N' X h' := by
  have kb : ∀ b o, h.get? b = some o → (∀ p ∈ N, p.1 ≠ b) → h'.get? b = some o := fun b o e q => k b o e fun z => by
    obtain ⟨p, hp, e⟩ := List.mem_map.mp z; exact q p hp e
  obtain ⟨oL, es, ep, eL, r⟩ := S.ns
  refine ⟨S.top, ⟨oL, es, ep, kb L oL eL fun p hp => (S.n p hp).2.1, r⟩, fun b o e => kb b o (S.keep b o e) fun p hp q => ?_, S.offL, fun p hp => ⟨l' p hp, ?_, ?_⟩,
    fun p hp => ⟨kb _ _ (S.x p hp).1 fun q hq e => S.off p hp q hq e.symm, (S.x p hp).2⟩, fun p hp q hq e => ?_⟩
  · rw [← q, (S.n p hp).2.2] at e; cases e
  · rcases n p hp with q | q
    · obtain ⟨p', hp', e⟩ := List.mem_map.mp q
      rw [← e]; exact (S.n p' hp').2.1
    · intro e; rw [e, eL] at q; cases q
  · rcases n p hp with q | q
    · obtain ⟨p', hp', e⟩ := List.mem_map.mp q
      rw [← e]; exact (S.n p' hp').2.2
    · exact S.freshH q
  · rcases n q hq with z | z
    · obtain ⟨q', hq', e'⟩ := List.mem_map.mp z
      exact S.off p hp q' hq' (e.trans e'.symm)
    · rw [← e, (S.x p hp).1] at z; cases z
/-- behind a call that changed a part of the rest -/
theorem swap (S : St w H L l N X h) : St w H L l X N h := ⟨S.top, S.ns, S.keep, S.offL, S.x, S.n, S.off.symm⟩
/-- behind a call that only read; its new objects come to the rest -/
theorem outRo {N' : Ledger} (S : St w H L l N X h) (l' : Led h' N') (k : KeepBut h [] h') (n : NewIn h [] N') : St w H L l N (N' ++ X) h' := by
  have S' := S.keeps (h' := h') fun b o e => k b o e (by simp)
  have fr : ∀ p ∈ N', h.get? p.1 = none := fun p hp => (n p hp).resolve_left (by simp)
  refine ⟨S'.top, S'.ns, S'.keep, S'.offL, S'.n, fun p hp => ?_, fun p hp q hq e => ?_⟩
  · rcases List.mem_append.mp hp with hp | hp
    · refine ⟨l' p hp, fun e => ?_, S.freshH (fr p hp)⟩
      obtain ⟨o, ho⟩ := S.liveL
      rw [← e, fr p hp] at ho; cases ho
    · exact S'.x p hp
  · rcases List.mem_append.mp hp with hp | hp
    · have := (S.n q hq).1; rw [← e, fr p hp] at this; cases this
    · exact S.off p hp q hq e
end St

def retOf : Flow → Value
  | .ret v => v
  | _ => .none

section
variable {κ : Kx} {h : Heap} {n : Nat} {N : Ledger} {Post : Value → Ledger → Prop}
/-- the ledger's objects hidden -/
abbrev hid (h : Heap) (N : Ledger) : Heap := hideAll h (N.map (·.1))
theorem hid_sub {h : Heap} {N : Ledger} : Keep (hid h N) h := fun _ _ e => of_hideAll _ e
theorem hid_get {h : Heap} {N : Ledger} {b : Addr} {o : Obj} (e : h.get? b = some o) (q : b ∉ N.map (·.1)) : (hid h N).get? b = some o := hideAll_get _ e q
theorem hid_none {h : Heap} {N : Ledger} {p : Addr × Obj} (hp : p ∈ N) : (hid h N).get? p.1 = none := hideAll_none _ (List.mem_map_of_mem hp)
theorem get_size_none (h : Heap) : h.get? h.objs.size = none := by
  cases q : h.get? h.objs.size with
  | none => rfl
  | some o => exact absurd (Heap.lt_size q) (Nat.lt_irrefl _)
theorem hid_mono_none {h : Heap} {N : Ledger} {b : Addr} (e : h.get? b = none) : (hid h N).get? b = none := by
  cases q : (hid h N).get? b with
  | none => rfl
  | some o => rw [hid_sub _ _ q] at e; cases e
theorem St.topN {w : World} {H : Heap} {L : Addr} {l : List (Str × Value)} {N X : Ledger} {h : Heap} (S : St w H L l N X h) : TopIn w (hid h N) :=
  S.top.keep fun b o e => hid_get (S.keep b o e) fun q => by
    obtain ⟨p, hp, rfl⟩ := List.mem_map.mp q
    rw [(S.n p hp).2.2] at e; cases e
theorem out_of {w : World} {g h h' : Heap} {L' : Addr} {l' : List (Str × Value)} {N N' X' : Ledger} {Post : Value → Ledger → Prop} {v : Value}
    (hg : g = hid h N) (S : St w g L' l' N' X' h') (p : Post v N') : Out h N Post v h' := by
  subst hg
  refine ⟨N', S.ledN, fun b o e q => S.keep b o (hid_get e q), fun p hp => ?_, p⟩
  by_cases q : p.1 ∈ N.map (·.1)
  · exact .inl q
  · refine .inr ?_
    cases z : h.get? p.1 with
    | none => rfl
    | some o => have := hid_get (N := N) z q; rw [(S.n p hp).2.2] at this; cases this

/-- into a def without captured names -/
theorem C_def {name qual : Str} {params : Arguments} {body : List Stmt} {scope : Scope} {dV kV doc pm cdv ct oc : Value} {an od : Option Addr} {osl : Array (Option Value)} {f : Addr} {args : Args} (binds l0 : List (Str × Value))
    (R : Room κ (n + 1)) (top : TopIn κ.w (hid h N)) (led : Led h N)
    (ho : (hd.heap_39 κ.w.params).lookup f = some ⟨oc, od, .func (fnOf name qual params body scope dV kV doc pm an cdv ct), osl⟩) (hcd : codeIn (hd.heap_39 κ.w.params) cdv qual = true)
    (hbind : ∀ s : Shared, s.heap = h → BindsTo s (fnOf name qual params body scope dV kV doc pm an cdv ct) args binds) (hloc : ∀ y ∈ binds, scope.names.lookup y.1 = some .local)
    (hl : binds.reverse = l0)
    (hb : ∀ (κ' : Kx) (L' : Addr) (h₁ : Heap), κ'.w = κ.w → St κ'.w (hid h N) L' l0 N [] h₁ → Room κ' n →
      T κ' (execs body (envX qual scope L' f cdv [])) (fun fl h' => ∃ l' N' X', St κ'.w (hid h N) L' l' N' X' h' ∧ Post (retOf fl) N') h₁)
    (hco : scope.isCoroutine = false := by rfl) (hgen : scope.isGenerator = false := by rfl) (hk : scope.kind = .function := by rfl)
    (hcell : ∀ x ∈ scope.names, x.2 ≠ .cell := by decide) : C κ (.call (.ref f) args) (Out h N Post) h := by
  subst hl
  intro d tk
  have topK := (top.keep hid_sub).k
  refine codeAny_call_def (s := ⟨h, κ.g, d, tk, κ.os⟩) (fd := fnOf name qual params body scope dV kV doc pm an cdv ct) (body := body) (binds := binds) (by have := R.depth; omega) (topK _ _ ho) rfl (top.keep hid_sub).nolimit (codeRec_of topK hcd) rfl
    (hbind _ rfl) hcell hloc (fun h₁ hns hk₁ => ?_) hco hgen hk
  have hns' : h₁.Ns h.objs.size (look binds.reverse) := by rw [← look_lookup]; exact hns
  have S : St κ.w (hid h N) h.objs.size binds.reverse N [] h₁ :=
    ⟨top, hns', fun b o e => hk₁ b o (hid_sub b o e), hid_mono_none (get_size_none h),
      fun p hp => ⟨hk₁ _ _ (led p hp), fun e => (by have := led p hp; rw [e, get_size_none] at this; cases this), hid_none hp⟩, (fun p hp => (nomatch hp)), (fun p hp => (nomatch hp))⟩
  refine (hb (κ.deep (envX qual scope h.objs.size f cdv [])) _ h₁ rfl S (R.deep _)).use (s := ⟨h₁, κ.g, d, _, κ.os⟩) rfl rfl fun fl s' hg' ho' z => ?_
  obtain ⟨l', N', X', S', p⟩ := z
  exact ⟨hg', ho', by cases fl <;> exact out_of rfl S' p⟩
end
end Mine
end
section
open PySem PySem.W PySem.Calls PyProof.Rows
set_option Elab.async false
set_option maxRecDepth 100000
set_option linter.all false
namespace Mine

section
variable {κ : Kx} {env : Env} {h : Heap}

/-- lift a library rule whose last premise is a T-triple -/
theorem T.of {α : Type} {t : Sem α} {Q : α → Heap → Prop} (x : ∀ d tk, wpAny κ.M κ.A t (fun a s' => s'.gens = κ.g ∧ s'.os = κ.os ∧ Q a s'.heap) (fun _ _ => False) ⟨h, κ.g, d, tk, κ.os⟩) : T κ t Q h := x

abbrev Sq (κ : Kx) (rest : List Stmt) (env : Env) (Q : Flow → Heap → Prop) : Flow → Heap → Prop := fun f h => match f with
  | .next => T κ (execs rest env) Q h
  | f => Q f h
theorem T_seq {st : Stmt} {rest : List Stmt} {Q : Flow → Heap → Prop} (x : T κ (exec st env) (Sq κ rest env Q) h) : T κ (execs (st :: rest) env) Q h :=
  fun d tk => wpAny_execs_cons (x.use (s := ⟨h, κ.g, d, tk, κ.os⟩) rfl rfl fun f s' hg ho z => by
    cases f with
    | next => exact T.use (s := s') z hg ho fun _ _ p q r => ⟨p, q, r⟩
    | _ => exact ⟨hg, ho, z⟩)
theorem T_nil {Q : Flow → Heap → Prop} (x : Q .next h) : T κ (execs [] env) Q h := fun _ _ => wpAny_execs_nil ⟨rfl, rfl, x⟩

/-! two and three trees in a row -/
theorem T.use2 {α β : Type} {t : Sem α} {f : α → Sem β} {Q : β → Heap → Prop} {Q' : β → Shared → Prop} {E : Value → Shared → Prop} {s : Shared}
    (x : T κ t (fun a h₁ => T κ (f a) Q h₁) s.heap) (hg : s.gens = κ.g) (ho : s.os = κ.os) (k : ∀ b s', s'.gens = κ.g → s'.os = κ.os → Q b s'.heap → Q' b s') :
    wpAny κ.M κ.A t (fun a s₁ => wpAny κ.M κ.A (f a) Q' E s₁) E s := x.use hg ho fun a s₁ g1 o1 y => y.use g1 o1 k

theorem T_assign {x : Str} {p' : Pos} {value : Expr} {pos : Pos} {Q : Flow → Heap → Prop}
    (e : T κ (eval value env) (fun v h₁ => T κ (storeName env x v) (fun _ => Q .next) h₁) h)
    (hs : swapsWith value (some (.Name x p')) pos.line env = pure false := by rfl) : T κ (exec (.Assign [.Name x p'] value pos) env) Q h :=
  fun d tk => wpAny_Assign_Name (e.use2 (s := ⟨h, κ.g, d, tk, κ.os⟩) rfl rfl fun _ _ p q r => ⟨p, q, r⟩) hs
theorem T_if {test : Expr} {body orelse : List Stmt} {pos : Pos} {Q : Flow → Heap → Prop}
    (e : T κ (isTrue test env (eval test env)) (fun b h₁ => (b = true → T κ (execs body env) Q h₁) ∧ (b = false → T κ (execs orelse env) Q h₁)) h) : T κ (exec (.If test body orelse pos) env) Q h :=
  fun d tk => wpAny_If (e.use (s := ⟨h, κ.g, d, tk, κ.os⟩) rfl rfl fun b s₁ g1 o1 y => by
    cases b with
    | true => exact T.use (s := s₁) (y.1 rfl) g1 o1 fun _ _ p q r => ⟨p, q, r⟩
    | false => exact T.use (s := s₁) (y.2 rfl) g1 o1 fun _ _ p q r => ⟨p, q, r⟩)
theorem T_return {e : Expr} {pos : Pos} {Q : Flow → Heap → Prop} (x : T κ (eval e env) (fun v => Q (.ret v)) h) : T κ (exec (.Return (some e) pos) env) Q h :=
  fun d tk => wpAny_Return_some (x.use (s := ⟨h, κ.g, d, tk, κ.os⟩) rfl rfl fun _ _ p q r => ⟨p, q, r⟩)
theorem T_return0 {pos : Pos} {Q : Flow → Heap → Prop} (x : Q (.ret .none) h) : T κ (exec (.Return none pos) env) Q h := fun _ _ => wpAny_Return_none ⟨rfl, rfl, x⟩
theorem T_pass {pos : Pos} {Q : Flow → Heap → Prop} (x : Q .next h) : T κ (exec (.Pass pos) env) Q h := fun _ _ => wpAny_Pass ⟨rfl, rfl, x⟩
theorem T_break {pos : Pos} {Q : Flow → Heap → Prop} (x : Q .brk h) : T κ (exec (.Break pos) env) Q h := fun _ _ => wpAny_Break ⟨rfl, rfl, x⟩
theorem T_continue {pos : Pos} {Q : Flow → Heap → Prop} (x : Q .cont h) : T κ (exec (.Continue pos) env) Q h := fun _ _ => wpAny_Continue ⟨rfl, rfl, x⟩
/-- a statement that is an expression; its value is no object -/
theorem T_expr {e : Expr} {pos : Pos} {Q : Flow → Heap → Prop} (x : T κ (eval e env) (fun v h₁ => (∀ a, v ≠ .ref a) ∧ Q .next h₁) h)
    (hi : interactive env = false := by rfl) (hs : swapsWith e none pos.line env = pure false := by rfl) : T κ (exec (.Expr e pos) env) Q h :=
  fun d tk => wpAny_Expr (x.use (s := ⟨h, κ.g, d, tk, κ.os⟩) rfl rfl fun v s' g1 o1 y => by
    cases v with
    | ref a => exact (y.1 a rfl).elim
    | _ => exact ⟨g1, o1, y.2⟩) hi hs
theorem T_setattr_stmt {o : Expr} {attr : Str} {p' : Pos} {value : Expr} {pos : Pos} {Q : Flow → Heap → Prop}
    (e : T κ (eval value env) (fun v h₁ => T κ (eval o env) (fun ov h₂ => T κ (setAttr ov attr v) (fun _ => Q .next) h₂) h₁) h)
    (hs : swapsWith value (some (.Attribute o attr p')) pos.line env = pure false := by rfl) : T κ (exec (.Assign [.Attribute o attr p'] value pos) env) Q h :=
  fun d tk => plainObj_wpAny_Assign_Attribute (e.use (s := ⟨h, κ.g, d, tk, κ.os⟩) rfl rfl fun _ s' g1 o1 y => y.use2 g1 o1 fun _ _ p q r => ⟨p, q, r⟩) hs
theorem T_setitem_stmt {o i : Expr} {p' : Pos} {value : Expr} {pos : Pos} {Q : Flow → Heap → Prop}
    (e : T κ (eval value env) (fun v h₁ => T κ (eval o env) (fun ov h₂ => T κ (eval i env) (fun iv h₃ => T κ (setItem ov iv v) (fun _ => Q .next) h₃) h₂) h₁) h)
    (hs : swapsWith value (some (.Subscript o i p')) pos.line env = pure false := by rfl) : T κ (exec (.Assign [.Subscript o i p'] value pos) env) Q h :=
  fun d tk => wpAny_Assign_Subscript (e.use (s := ⟨h, κ.g, d, tk, κ.os⟩) rfl rfl fun _ s' g1 o1 y => y.use g1 o1 fun _ s' g2 o2 y => y.use2 g2 o2 fun _ _ p q r => ⟨p, q, r⟩) hs
theorem T_aug_name {x : Str} {p' : Pos} {op : Operator} {value : Expr} {pos : Pos} {Q : Flow → Heap → Prop}
    (e : T κ (loadName env x) (fun old h₁ => T κ (eval value env) (fun v h₂ => T κ (inplaceOp op old v) (fun r h₃ => T κ (storeName env x r) (fun _ => Q .next) h₃) h₂) h₁) h) :
    T κ (exec (.AugAssign (.Name x p') op value pos) env) Q h :=
  fun d tk => wpAny_AugAssign_Name (e.use (s := ⟨h, κ.g, d, tk, κ.os⟩) rfl rfl fun _ s' g1 o1 y => y.use g1 o1 fun _ s' g2 o2 y => y.use2 g2 o2 fun _ _ p q r => ⟨p, q, r⟩)
theorem T_aug_item {o i value : Expr} {tpos pos : Pos} {op : Operator} {Q : Flow → Heap → Prop}
    (e : T κ (eval o env) (fun ov h₁ => T κ (eval i env) (fun iv h₂ => T κ (getItem ov iv) (fun old h₃ => T κ (eval value env) (fun v h₄ => T κ (inplaceOp op old v) (fun new h₅ => T κ (setItem ov iv new) (fun _ => Q .next) h₅) h₄) h₃) h₂) h₁) h)
    (hi : ∀ ov iv new, augStore i ov iv new = (do holding [new, ov, iv] (setItem ov iv new); release [new, ov, iv] []; pure .next) := by intros; rfl) :
    T κ (exec (.AugAssign (.Subscript o i tpos) op value pos) env) Q h :=
  fun d tk => wpAny_AugAssign_SubscriptAny (e.use (s := ⟨h, κ.g, d, tk, κ.os⟩) rfl rfl fun _ s' g1 o1 y => y.use g1 o1 fun _ s' g2 o2 y => y.use g2 o2 fun _ s' g3 o3 y => y.use g3 o3 fun _ s' g4 o4 y => y.use2 g4 o4 fun _ _ p q r => ⟨p, q, r⟩) hi

/-! expressions -/
theorem T_int {i : Int} {k : Nat} {pos : Pos} {Q : Value → Heap → Prop} (x : ∀ t, Q (.int i t) h) : T κ (eval (.Constant (.int i) k pos) env) Q h := fun _ _ => wpAny_Constant_int ⟨rfl, rfl, x _⟩
theorem T_none {k : Nat} {pos : Pos} {Q : Value → Heap → Prop} (x : Q .none h) : T κ (eval (.Constant .none k pos) env) Q h := fun _ _ => wpAny_Constant_none ⟨rfl, rfl, x⟩
theorem T_bool {b : Bool} {k : Nat} {pos : Pos} {Q : Value → Heap → Prop} (x : Q (.bool b) h) : T κ (eval (.Constant (.bool b) k pos) env) Q h := fun _ _ => wpAny_Constant_bool ⟨rfl, rfl, x⟩
theorem T_str {y : Str} {k : Nat} {pos : Pos} {Q : Value → Heap → Prop} (x : ∀ t, Q (.str y t) h) : T κ (eval (.Constant (.str y) k pos) env) Q h := fun _ _ => wpAny_Constant_str ⟨rfl, rfl, x _⟩
theorem T_binop {l r : Expr} {op : Operator} {pos : Pos} {Q : Value → Heap → Prop}
    (e : T κ (eval l env) (fun a h₁ => T κ (eval r env) (fun b h₂ => T κ (binaryOp op a b) Q h₂) h₁) h) : T κ (eval (.BinOp l op r pos) env) Q h :=
  fun d tk => wpAny_BinOp (e.use (s := ⟨h, κ.g, d, tk, κ.os⟩) rfl rfl fun _ s' g1 o1 y => y.use2 g1 o1 fun _ _ p q r => ⟨p, q, r⟩)
theorem T_unop {x : Expr} {op : UnaryOp} {pos : Pos} {Q : Value → Heap → Prop}
    (e : T κ (eval x env) (fun a h₁ => T κ (unaryOp op a) Q h₁) h) : T κ (eval (.UnaryOp op x pos) env) Q h :=
  fun d tk => wpAny_UnaryOp (e.use2 (s := ⟨h, κ.g, d, tk, κ.os⟩) rfl rfl fun _ _ p q r => ⟨p, q, r⟩)
theorem T_cmp {l r : Expr} {op : CmpOp} {pos : Pos} {Q : Value → Heap → Prop}
    (e : T κ (eval l env) (fun a h₁ => T κ (eval r env) (fun b h₂ => T κ (compareOp op a b) Q h₂) h₁) h) (hm : behindInMarks op r = false := by with_unfolding_all rfl) : T κ (eval (.Compare l [op] [r] pos) env) Q h :=
  fun d tk => wpAny_Compare1 (e.use (s := ⟨h, κ.g, d, tk, κ.os⟩) rfl rfl fun _ s' g1 o1 y => y.use2 g1 o1 fun _ _ p q r => ⟨p, q, r⟩) hm
theorem T_isTrue_cmp {l r : Expr} {op : CmpOp} {pos : Pos} {whole : Sem Value} {Q : Bool → Heap → Prop}
    (e : T κ (eval l env) (fun a h₁ => T κ (eval r env) (fun b h₂ => T κ (compareOp op a b) (fun c h₃ => T κ (truthy c) Q h₃) h₂) h₁) h) (hm : behindInMarks op r = false := by with_unfolding_all rfl) :
    T κ (isTrue (.Compare l [op] [r] pos) env whole) Q h :=
  fun d tk => wpAny_isTrue_Compare1 (e.use (s := ⟨h, κ.g, d, tk, κ.os⟩) rfl rfl fun _ s' g1 o1 y => y.use g1 o1 fun _ s' g2 o2 y => y.use2 g2 o2 fun _ _ p q r => ⟨p, q, r⟩) hm
theorem T_isTrue_val {e : Expr} {whole : Sem Value} {Q : Bool → Heap → Prop} (x : T κ whole (fun v h₁ => T κ (truthy v) Q h₁) h)
    (he : isTrue e env whole = (do let v ← whole; standAt e.pos; holding [v] (truthy v)) := by rfl) : T κ (isTrue e env whole) Q h :=
  fun d tk => wpAny_isTrue_value (x.use2 (s := ⟨h, κ.g, d, tk, κ.os⟩) rfl rfl fun _ _ p q r => ⟨p, q, r⟩) he
theorem T_isTrue_not {x : Expr} {pos : Pos} {whole : Sem Value} {Q : Bool → Heap → Prop} (e : T κ (isTrue x env (eval x env)) (fun b h₁ => Q (!b) h₁) h) : T κ (isTrue (.UnaryOp .Not x pos) env whole) Q h :=
  fun d tk => wpAny_isTrue_Not (e.use (s := ⟨h, κ.g, d, tk, κ.os⟩) rfl rfl fun _ _ p q r => ⟨p, q, r⟩)
theorem T_isTrue_or2 {x y : Expr} {pos : Pos} {whole : Sem Value} {Q : Bool → Heap → Prop}
    (e : T κ (isTrue x env (eval x env)) (fun b h₁ => (b = true → Q true h₁) ∧ (b = false → T κ (isTrue y env (eval y env)) Q h₁)) h) : T κ (isTrue (.BoolOp .Or [x, y] pos) env whole) Q h :=
  fun d tk => wpAny_isTrue_BoolOp (wpAny_allTrue_Or_cons (e.use (s := ⟨h, κ.g, d, tk, κ.os⟩) rfl rfl fun b s₁ g1 o1 z => by
    cases b with
    | true => exact ⟨g1, o1, z.1 rfl⟩
    | false => exact wpAny_allTrue_Or_cons (T.use (s := s₁) (z.2 rfl) g1 o1 fun b s₂ g2 o2 z => by
        cases b with
        | true => exact ⟨g2, o2, z⟩
        | false => exact wpAny_allTrue_Or_nil ⟨g2, o2, z⟩)))
theorem T_isTrue_and2 {x y : Expr} {pos : Pos} {whole : Sem Value} {Q : Bool → Heap → Prop}
    (e : T κ (isTrue x env (eval x env)) (fun b h₁ => (b = false → Q false h₁) ∧ (b = true → T κ (isTrue y env (eval y env)) Q h₁)) h) : T κ (isTrue (.BoolOp .And [x, y] pos) env whole) Q h :=
  fun d tk => wpAny_isTrue_BoolOp (wpAny_allTrue_And_cons (e.use (s := ⟨h, κ.g, d, tk, κ.os⟩) rfl rfl fun b s₁ g1 o1 z => by
    cases b with
    | false => exact ⟨g1, o1, z.1 rfl⟩
    | true => exact wpAny_allTrue_And_cons (T.use (s := s₁) (z.2 rfl) g1 o1 fun b s₂ g2 o2 z => by
        cases b with
        | false => exact ⟨g2, o2, z⟩
        | true => exact wpAny_allTrue_And_nil ⟨g2, o2, z⟩)))
theorem T_isTrue_and3 {x y z : Expr} {pos : Pos} {whole : Sem Value} {Q : Bool → Heap → Prop}
    (e : T κ (isTrue x env (eval x env)) (fun b h₁ => (b = false → Q false h₁) ∧ (b = true → T κ (isTrue y env (eval y env)) (fun b h₂ => (b = false → Q false h₂) ∧ (b = true → T κ (isTrue z env (eval z env)) Q h₂)) h₁)) h) : T κ (isTrue (.BoolOp .And [x, y, z] pos) env whole) Q h :=
  fun d tk => wpAny_isTrue_BoolOp (wpAny_allTrue_And_cons (e.use (s := ⟨h, κ.g, d, tk, κ.os⟩) rfl rfl fun b s₁ g1 o1 z => by
    cases b with
    | false => exact ⟨g1, o1, z.1 rfl⟩
    | true => exact wpAny_allTrue_And_cons (T.use (s := s₁) (z.2 rfl) g1 o1 fun b s₂ g2 o2 z => by
        cases b with
        | false => exact ⟨g2, o2, z.1 rfl⟩
        | true => exact wpAny_allTrue_And_cons (T.use (s := s₂) (z.2 rfl) g2 o2 fun b s₃ g3 o3 z => by
            cases b with
            | false => exact ⟨g3, o3, z⟩
            | true => exact wpAny_allTrue_And_nil ⟨g3, o3, z⟩))))
theorem T_or2 {x y : Expr} {pos : Pos} {Q : Value → Heap → Prop}
    (e : T κ (eval x env) (fun v h₁ => T κ (truthy v) (fun b h₂ => (b = true → Q v h₂) ∧ (b = false → T κ (eval y env) Q h₂)) h₁) h) : T κ (eval (.BoolOp .Or [x, y] pos) env) Q h :=
  fun d tk => wpAny_Or2 (e.use (s := ⟨h, κ.g, d, tk, κ.os⟩) rfl rfl fun v s₁ g1 o1 y => y.use g1 o1 fun b s₂ g2 o2 z => by
    cases b with
    | true => exact ⟨g2, o2, z.1 rfl⟩
    | false => exact T.use (s := s₂) (z.2 rfl) g2 o2 fun _ _ p q r => ⟨p, q, r⟩)
theorem T_ifexp {t a b : Expr} {pos : Pos} {Q : Value → Heap → Prop}
    (e : T κ (isTrue t env (eval t env)) (fun c h₁ => (c = true → T κ (eval a env) Q h₁) ∧ (c = false → T κ (eval b env) Q h₁)) h) : T κ (eval (.IfExp t a b pos) env) Q h :=
  fun d tk => wpAny_IfExp (e.use (s := ⟨h, κ.g, d, tk, κ.os⟩) rfl rfl fun b s₁ g1 o1 z => by
    cases b with
    | true => exact T.use (s := s₁) (z.1 rfl) g1 o1 fun _ _ p q r => ⟨p, q, r⟩
    | false => exact T.use (s := s₁) (z.2 rfl) g1 o1 fun _ _ p q r => ⟨p, q, r⟩)
theorem T_truthy_bool {b : Bool} {Q : Bool → Heap → Prop} (x : Q b h) : T κ (truthy (.bool b)) Q h := fun _ _ => wpAny_truthy_bool ⟨rfl, rfl, x⟩
theorem T_truthy_none {Q : Bool → Heap → Prop} (x : Q false h) : T κ (truthy .none) Q h := fun _ _ => by
  have : truthy .none = pure false := rfl
  rw [this]; exact wpAny_pure ⟨rfl, rfl, x⟩

/-! ints -/
variable {a b : Int} {t u : Tok}
theorem T_add {Q : Value → Heap → Prop} (x : ∀ t, Q (.int (a + b) t) h) : T κ (binaryOp .Add (.int a t) (.int b u)) Q h := fun _ _ => PyProof.Rows.add_int ⟨rfl, rfl, x _⟩
theorem T_mul {Q : Value → Heap → Prop} (hm : IntMulOk a b) (x : ∀ t, Q (.int (a * b) t) h) : T κ (binaryOp .Mult (.int a t) (.int b u)) Q h := fun _ _ => PyProof.Rows.mul_int ⟨rfl, rfl, x _⟩ hm
theorem T_mod {Q : Value → Heap → Prop} (hb : b ≠ 0) (x : ∀ t, Q (.int (a.fmod b) t) h) : T κ (binaryOp .Mod (.int a t) (.int b u)) Q h := fun _ _ => PyProof.Rows.mod_int hb ⟨rfl, rfl, x _⟩
theorem T_div {Q : Value → Heap → Prop} (hb : b ≠ 0) (hp : Builtin.divisionGoesByPylong a b = false) (x : ∀ t, Q (.int (a.fdiv b) t) h) : T κ (binaryOp .FloorDiv (.int a t) (.int b u)) Q h := fun _ _ => PyProof.Rows.floordiv_int hb ⟨rfl, rfl, x _⟩ (.inl hp)
theorem T_sub {Q : Value → Heap → Prop} (x : ∀ t, Q (.int (a - b) t) h) : T κ (binaryOp .Sub (.int a t) (.int b u)) Q h := fun _ _ => PyProof.Rows.sub_int ⟨rfl, rfl, x _⟩
theorem T_neg {Q : Value → Heap → Prop} (x : ∀ t, Q (.int (-a) t) h) : T κ (unaryOp .USub (.int a t)) Q h := fun _ _ => PyProof.Rows.neg_int ⟨rfl, rfl, x _⟩
theorem T_eq {Q : Value → Heap → Prop} (x : Q (.bool (a == b)) h) : T κ (compareOp .Eq (.int a t) (.int b u)) Q h := fun _ _ => PyProof.Rows.eq_int ⟨rfl, rfl, x⟩
theorem T_ne {Q : Value → Heap → Prop} (x : Q (.bool (a != b)) h) : T κ (compareOp .NotEq (.int a t) (.int b u)) Q h := fun _ _ => PyProof.Rows.ne_int ⟨rfl, rfl, x⟩
theorem T_lt {Q : Value → Heap → Prop} (x : Q (.bool (decide (a < b))) h) : T κ (compareOp .Lt (.int a t) (.int b u)) Q h := fun _ _ => PyProof.Rows.lt_int ⟨rfl, rfl, x⟩
theorem T_gt {Q : Value → Heap → Prop} (x : Q (.bool (decide (b < a))) h) : T κ (compareOp .Gt (.int a t) (.int b u)) Q h := fun _ _ => PyProof.Rows.gt_int ⟨rfl, rfl, x⟩
theorem T_abs {Q : Value → Heap → Prop} (x : ∀ t, Q (.int (if a < 0 then -a else a) t) h) : T κ (PySem.call (.builtin "abs") [.int a t]) Q h := fun _ _ => PyProof.Rows.call_abs_int fun _ _ => ⟨rfl, rfl, x _⟩
theorem T_is_none {v : Value} {Q : Value → Heap → Prop} (x : Q (.bool (v == .none)) h) : T κ (compareOp .Is v .none) Q h := fun _ _ => is_none ⟨rfl, rfl, x⟩
theorem T_isnot_none {v : Value} {Q : Value → Heap → Prop} (x : Q (.bool (!(v == .none))) h) : T κ (compareOp .IsNot v .none) Q h := fun _ _ => isNot_none ⟨rfl, rfl, x⟩
end

/-! names -/
section
variable {κ : Kx} {env : Env} {H h : Heap} {L : Addr} {l : List (Str × Value)} {N X : Ledger} {x : Str} {pos : Pos} {v : Value}
theorem T_locn {Q : Value → Heap → Prop} (S : St κ.w H L l N X h) (hv : look l x = some v) (q : Q v h)
    (hL : env.locals = L := by rfl) (hk : env.scope.kind = .function := by rfl) (hx : env.kindOf x = some .local := by rfl) : T κ (loadName env x) Q h := fun _ _ => by
  subst hL; exact wpAny_loadName_local hk hx S.ns hv ⟨rfl, rfl, q⟩
theorem T_loc {Q : Value → Heap → Prop} (S : St κ.w H L l N X h) (hv : look l x = some v) (q : Q v h)
    (hL : env.locals = L := by rfl) (hk : env.scope.kind = .function := by rfl) (hx : env.kindOf x = some .local := by rfl) (hd : (x == ("__debug__" : Str)) = false := by decide) :
    T κ (eval (.Name x pos) env) Q h := fun d tk => wpAny_Name (T_locn S hv q hL hk hx d tk) hd
theorem T_glob {Q : Value → Heap → Prop} (S : St κ.w H L l N X h) (e : nsIn (hd.heap_39 κ.w.params) mainGlobals x = some (some v)) (q : Q v h)
    (hG : env.globals = mainGlobals := by rfl) (hk : env.scope.kind = .function := by rfl) (hx : env.kindOf x = some .globalImplicit := by rfl) (hd : (x == ("__debug__" : Str)) = false := by decide) :
    T κ (eval (.Name x pos) env) Q h := fun _ _ => by
  obtain ⟨p, lo, mg, mb, t⟩ := S.topH.t
  exact Name_function_global hk hx (loadGlobal_global (env := env) (by rw [hG]; exact t.g) (mg_of S.kin t.g e) ⟨rfl, rfl, q⟩) hd
theorem T_bi {Q : Value → Heap → Prop} (S : St κ.w H L l N X h) (e : nsIn (hd.heap_39 κ.w.params) mainGlobals x = some none) (hv : bootBuiltins x = some v) (hn : x ≠ "__name__") (q : Q v h)
    (hG : env.globals = mainGlobals := by rfl) (hB : env.builtins = builtinsNs := by rfl) (hk : env.scope.kind = .function := by rfl) (hx : env.kindOf x = some .globalImplicit := by rfl) (hd : (x == ("__debug__" : Str)) = false := by decide) :
    T κ (eval (.Name x pos) env) Q h := fun _ _ => by
  obtain ⟨p, lo, mg, mb, t⟩ := S.topH.t
  exact Name_function_global hk hx (loadGlobal_builtin (env := env) (by rw [hG]; exact t.g) (mg_none_of S.kin t.g e) (by rw [hB]; exact t.b) ((t.builtins x hn).trans hv) ⟨rfl, rfl, q⟩) hd
theorem T_cell {Q : Value → Heap → Prop} {c : Addr} {o : Obj} (hc : env.cells.lookup x = some c) (ho : h.get? c = some o) (hdt : o.data = .cell (some v)) (q : Q v h)
    (hk : env.scope.kind = .function := by rfl) (hx : env.kindOf x = some .cell := by rfl) (hd : (x == ("__debug__" : Str)) = false := by decide) :
    T κ (eval (.Name x pos) env) Q h := fun _ _ => wpAny_Name (wpAny_loadName_cell hk hx hc ⟨o, ho, hdt⟩ ⟨rfl, rfl, q⟩) hd
theorem T_store' {Q : Unit → Heap → Prop} (S : St κ.w H L l N X h) (q : ∀ h', St κ.w H L ((x, v) :: l) N X h' → (∀ b, b ≠ L → h'.get? b = h.get? b) → Q () h')
    (hL : env.locals = L := by rfl) (hk : env.scope.kind = .function := by rfl) (hx : env.kindOf x = some .local := by rfl) : T κ (storeName env x v) Q h := fun _ _ => by
  subst hL
  refine wpAny_storeName_local hx S.ns (fun h' hn hs => ⟨rfl, rfl, q h' ?_ hs.2⟩) (by rw [hk]; rfl)
  have off : ∀ {b : Addr} {o : Obj}, H.get? b = some o → b ≠ env.locals := fun e q => by rw [q, S.offL] at e; cases e
  exact ⟨S.top, hn, fun b o e => (hs.2 b (off e)).trans (S.keep b o e), S.offL, fun p hp => ⟨(hs.2 _ (S.n p hp).2.1).trans (S.n p hp).1, (S.n p hp).2⟩, fun p hp => ⟨(hs.2 _ (S.x p hp).2.1).trans (S.x p hp).1, (S.x p hp).2⟩, S.off⟩
theorem T_store {Q : Unit → Heap → Prop} (S : St κ.w H L l N X h) (q : ∀ h', St κ.w H L ((x, v) :: l) N X h' → Q () h')
    (hL : env.locals = L := by rfl) (hk : env.scope.kind = .function := by rfl) (hx : env.kindOf x = some .local := by rfl) : T κ (storeName env x v) Q h := T_store' S (fun h' S' _ => q h' S') hL hk hx
end
end Mine
end
section
open PySem PySem.W PySem.Calls PyProof.Rows
set_option Elab.async false
set_option maxRecDepth 100000
set_option linter.all false
namespace Mine

def Args (κ : Kx) (env : Env) : List Expr → (List Value → Heap → Prop) → Heap → Prop
  | [], Q, h => Q [] h
  | e :: r, Q, h => T κ (eval e env) (fun v h₁ => Args κ env r (fun vs => Q (v :: vs)) h₁) h

section
variable {κ : Kx} {env : Env} {h : Heap} {pos : Pos}
theorem Args_cons {e : Expr} {r : List Expr} {Q : List Value → Heap → Prop} (x : T κ (eval e env) (fun v h₁ => Args κ env r (fun vs => Q (v :: vs)) h₁) h) : Args κ env (e :: r) Q h := x
theorem Args_nil {Q : List Value → Heap → Prop} (x : Q [] h) : Args κ env [] Q h := x
theorem starEach_cons {e : Expr} (rest : List Expr) (hs : isStarred e = false) : starEach (e :: rest) env = (false, eval e env) :: starEach rest env := by
  cases e <;> first | rfl | cases hs
theorem Args.use : ∀ {es : List Expr} {Q : List Value → Heap → Prop} {Q' : List Value → Shared → Prop} {E : Value → Shared → Prop} {s : Shared}, (es.all fun e => !isStarred e) = true →
    Args κ env es Q s.heap → s.gens = κ.g → s.os = κ.os → (∀ a s', s'.gens = κ.g → s'.os = κ.os → Q a s'.heap → Q' a s') →
    wpAny κ.M κ.A (spliced (backTo pos (starEach es env))) Q' E s
  | [], _, _, _, s, _, x, hg, ho, k => wpAny_items_nil (k _ _ hg ho x)
  | e :: r, Q, Q', E, s, hs, x, hg, ho, k => by
    rw [List.all_cons, Bool.and_eq_true] at hs
    refine wpAny_items_cons (T.use x hg ho fun v s₁ g1 o1 y => ?_) (starEach_cons _ (by simpa using hs.1))
    exact Args.use hs.2 y g1 o1 fun a s' p q z => k _ _ p q z
theorem any_false : ∀ {es : List Expr}, (es.all fun e => !isStarred e) = true → (backTo pos (starEach es env)).any (·.1) = false
  | [], _ => rfl
  | e :: r, hs => by
    rw [List.all_cons, Bool.and_eq_true] at hs
    rw [starEach_cons _ (by simpa using hs.1)]
    exact any_false (es := r) hs.2
theorem T_Call {func : Expr} {args : List Expr} {Q : Value → Heap → Prop}
    (e : T κ (eval func env) (fun f h₁ => T κ (callWith pos f [] (backTo pos (starEach args env)) []) Q h₁) h)
    (he : eval (.Call func args [] pos) env = (do callWith pos (← eval func env) [] (backTo pos (starEach args env)) (backToKw pos (keywordEach [] env))) := by rfl) :
    T κ (eval (.Call func args [] pos) env) Q h := fun d tk => Call_ (e.use2 (s := ⟨h, κ.g, d, tk, κ.os⟩) rfl rfl fun _ _ p q r => ⟨p, q, r⟩) he
theorem T_Method {o : Expr} {name : Str} {apos : Pos} {args : List Expr} {pl : Sem Bool} {Q : Value → Heap → Prop}
    (e : T κ (eval o env) (fun ov h₁ => T κ (getMethod ov name pl) (fun fx h₂ => T κ (callWith pos fx.1 fx.2 (backTo pos (starEach args env)) []) Q h₂) h₁) h)
    (he : eval (.Call (.Attribute o name apos) args [] pos) env = (do
      let ov ← eval o env
      standAt apos.atName
      let (f, first) ← holding [ov] (getMethod ov name pl)
      callWith pos f first (backTo pos (starEach args env)) []) := by rfl) : T κ (eval (.Call (.Attribute o name apos) args [] pos) env) Q h :=
  fun d tk => MethodCall_ (e.use (s := ⟨h, κ.g, d, tk, κ.os⟩) rfl rfl fun _ s' g1 o1 y => y.use2 g1 o1 fun _ _ p q r => ⟨p, q, r⟩) he
theorem CW_bi {id : String} {first : List Value} {args : List Expr} {Q : Value → Heap → Prop} (x : Args κ env args (fun vs h₂ => T κ (PySem.call (.builtin id) (first ++ vs)) Q h₂) h)
    (hs : (args.all fun e => !isStarred e) = true := by rfl) : T κ (callWith pos (.builtin id) first (backTo pos (starEach args env)) []) Q h := fun d tk => by
  refine callWith_builtin (any_false hs) ?_
  cases args with
  | nil => exact evalArgs_nil3 (T.use (s := ⟨h, κ.g, d, tk, κ.os⟩) x rfl rfl fun _ _ p q r => ⟨p, q, r⟩)
  | cons e r =>
    have hs' := hs
    rw [List.all_cons, Bool.and_eq_true] at hs'
    have y := Args.use (pos := pos) (s := ⟨h, κ.g, d, tk, κ.os⟩) (E := fun _ _ => False) hs x rfl rfl fun vs s' g1 o1 z => (T.use (s := s') (E := fun _ _ => False) z g1 o1 fun a _ p q r => (⟨p, q, r⟩ : _ ∧ _ ∧ Q a _))
    rw [starEach_cons _ (by simpa using hs'.1)] at y ⊢
    exact evalArgs_plain y
theorem CW_ty {T' : String} {first : List Value} {args : List Expr} {Q : Value → Heap → Prop} (x : Args κ env args (fun vs h₂ => T κ (PySem.call (.type T') (first ++ vs)) Q h₂) h)
    (hs : (args.all fun e => !isStarred e) = true := by rfl) : T κ (callWith pos (.type T') first (backTo pos (starEach args env)) []) Q h := fun d tk => by
  refine PyProof.Rows.callWith_type (any_false hs) ?_
  cases args with
  | nil => exact evalArgs_nil3 (T.use (s := ⟨h, κ.g, d, tk, κ.os⟩) x rfl rfl fun _ _ p q r => ⟨p, q, r⟩)
  | cons e r =>
    have hs' := hs
    rw [List.all_cons, Bool.and_eq_true] at hs'
    have y := Args.use (pos := pos) (s := ⟨h, κ.g, d, tk, κ.os⟩) (E := fun _ _ => False) hs x rfl rfl fun vs s' g1 o1 z => (T.use (s := s') (E := fun _ _ => False) z g1 o1 fun a _ p q r => (⟨p, q, r⟩ : _ ∧ _ ∧ Q a _))
    rw [starEach_cons _ (by simpa using hs'.1)] at y ⊢
    exact evalArgs_plain y
theorem CW_K {f : Value} {first : List Value} {args : List Expr} {Q : Value → Heap → Prop} (hk : keepIn (hd.heap_39 κ.w.params) f = true)
    (x : Args κ env args (fun vs h₂ => (hd.heap_39 κ.w.params).In h₂ ∧ T κ (PySem.call f (first ++ vs)) Q h₂) h)
    (hs : (args.all fun e => !isStarred e) = true := by rfl) : T κ (callWith pos f first (backTo pos (starEach args env)) []) Q h := fun d tk => by
  refine callWith_of (P := (hd.heap_39 κ.w.params).In) (keywords := []) (by rw [any_false hs]; rfl) (keeps_K hk) ?_
  cases args with
  | nil => exact evalArgs_nil3 ⟨x.1, T.use (s := ⟨h, κ.g, d, tk, κ.os⟩) x.2 rfl rfl fun _ _ p q r => ⟨p, q, r⟩⟩
  | cons e r =>
    have hs' := hs
    rw [List.all_cons, Bool.and_eq_true] at hs'
    have y := Args.use (pos := pos) (s := ⟨h, κ.g, d, tk, κ.os⟩) (E := fun _ _ => False) hs x rfl rfl fun vs s' g1 o1 z => (And.intro z.1 (T.use (s := s') (E := fun _ _ => False) z.2 g1 o1 fun a _ p q r => (⟨p, q, r⟩ : _ ∧ _ ∧ Q a _)))
    rw [starEach_cons _ (by simpa using hs'.1)] at y ⊢
    exact evalArgs_plain y
theorem T_attr {o : Expr} {attr : Str} {Q : Value → Heap → Prop} (e : T κ (eval o env) (fun v h₁ => T κ (getAttr v attr true) Q h₁) h)
    (he : eval (.Attribute o attr pos) env = (do
      let v ← eval o env
      standAt pos.atName
      let r ← holding [v] (getAttr v attr true)
      letTemporaryGo o v r
      pure r) := by with_unfolding_all rfl) : T κ (eval (.Attribute o attr pos) env) Q h :=
  fun d tk => Attribute_any_ (e.use2 (s := ⟨h, κ.g, d, tk, κ.os⟩) rfl rfl fun _ _ p q r => ⟨p, q, r⟩) he
theorem T_item {o i : Expr} {Q : Value → Heap → Prop} (e : T κ (eval o env) (fun v h₁ => T κ (eval i env) (fun iv h₂ => T κ (subscriptTail o i v iv) Q h₂) h₁) h) : T κ (eval (.Subscript o i pos) env) Q h :=
  fun d tk => Subscript_ (e.use (s := ⟨h, κ.g, d, tk, κ.os⟩) rfl rfl fun _ s' g1 o1 y => y.use2 g1 o1 fun _ _ p q r => ⟨p, q, r⟩)
theorem T_list {elts : List Expr} {Q : Value → Heap → Prop} (x : Args κ env elts (fun vs h₁ => vs.length ≤ sizeLine ∧ ∀ a h', Nw h₁ a { cls := .type "list", data := .seq vs.toArray } h' → Q (.ref a) h') h)
    (hs : (elts.all fun e => !isStarred e) = true := by rfl) : T κ (eval (.List elts pos) env) Q h := fun d tk =>
  wpAny_List (Args.use (s := ⟨h, κ.g, d, tk, κ.os⟩) hs x rfl rfl fun vs s' g1 o1 z => ⟨z.1, g1, o1, z.2 _ _ ⟨get_size_none _, Heap.get?_push_size _ rfl, fun _ _ e => Heap.get?_push_of_some _ e⟩⟩)
theorem T_tuple {elts : List Expr} {k : Nat} {Q : Value → Heap → Prop} (x : Args κ env elts (fun vs h₁ => vs.length ≤ sizeLine ∧ ∀ a h', Nw h₁ a { cls := .type "tuple", data := .seq vs.toArray } h' → Q (.ref a) h') h)
    (hs : (elts.all fun e => !isStarred e) = true := by rfl) : T κ (eval (.Tuple elts k pos) env) Q h := fun d tk =>
  wpAny_Tuple (Args.use (s := ⟨h, κ.g, d, tk, κ.os⟩) hs x rfl rfl fun vs s' g1 o1 z => ⟨z.1, g1, o1, z.2 _ _ ⟨get_size_none _, Heap.get?_push_size _ rfl, fun _ _ e => Heap.get?_push_of_some _ e⟩⟩)

end
end Mine
end
section
open PySem PySem.W PySem.Calls PyProof.Rows
set_option Elab.async false
set_option maxRecDepth 100000
set_option linter.all false
namespace Mine

/-! ## lists -/
def lso (items : List Value) (n : Nat) : Obj := { cls := .type "list", data := .seq items.toArray n }
def LsO (items : List Value) (o : Obj) : Prop := ∃ n, o = lso items n
theorem LsO.is {items : List Value} {o : Obj} (x : LsO items o) {h : Heap} {a : Addr} (e : h.get? a = some o) : h.IsList a items.toArray := by
  obtain ⟨n, rfl⟩ := x; exact ⟨_, e, rfl, n, rfl⟩
theorem LsO.new (items : List Value) : LsO items { cls := .type "list", data := .seq items.toArray } := ⟨0, rfl⟩
theorem LsO.inj {a b : List Value} {o : Obj} (x : LsO a o) (y : LsO b o) : a = b := by
  obtain ⟨n, rfl⟩ := x
  obtain ⟨m, e⟩ := y
  simp only [lso, Obj.mk.injEq, Data.seq.injEq] at e
  simpa using congrArg Array.toList e.2.2.1.1
theorem lso_update {h : Heap} {l : Addr} {items its' : List Value} {n : Nat} (e : h.get? l = some (lso items n)) (f : Array Value → Array Value) (hf : f items.toArray = its'.toArray) :
    ∃ o', LsO its' o' ∧ Ch h l o' (h.update l (Obj.mapSeq f)) := by
  have z := PySem.IsL.update e f
  rw [hf] at z
  exact ⟨_, ⟨_, rfl⟩, ⟨fun b hb => Heap.get?_update_other _ _ (Ne.symm hb), z⟩⟩

section
variable {κ : Kx} {env : Env} {h : Heap} {l : Addr} {o : Obj} {items : List Value}
theorem wp_update {Q : Unit → Shared → Prop} {E : Value → Shared → Prop} {s : Shared} {M : Model} {A : Around} {f : Array Value → Array Value} {its' : List Value} (x : LsO items o) (e : s.heap.get? l = some o) (hf : f items.toArray = its'.toArray) (hz : items.length ≤ sizeLine) (hz' : its'.length ≤ sizeLine + 1)
    (q : ∀ h' o', LsO its' o' → Ch s.heap l o' h' → Q () { s with heap := h' }) : wpAny M A (updateSeq l f) Q E s := by
  obtain ⟨n, rfl⟩ := x
  obtain ⟨o', L', c⟩ := lso_update e f hf
  exact wpAny_updateSeq (xs := items.toArray) e rfl (q _ _ L' c) (by simpa using hz) (by rw [hf]; simpa using hz')
theorem T_append {x : Value} {Q : Value → Heap → Prop} (L : LsO items o) (e : h.get? l = some o) (hz : items.length ≤ 1000000)
    (q : ∀ h' o', LsO (items ++ [x]) o' → Ch h l o' h' → Q .none h') : T κ (PySem.call (.builtin "list.append") [.ref l, x]) Q h := fun d tk => by
  refine wpAny_call_entry slot_list_append (L.is e).typeIs entry_list_append ?_ (args_list_append _ _)
  show wpAny _ _ (updateSeq l (·.push x) >>= fun _ => ret .none) _ _ _
  exact wpAny_bind (wp_update (s := ⟨h, κ.g, d, tk, κ.os⟩) (its' := items ++ [x]) L e (by simp) (Nat.le_trans hz (by decide)) (by simp; exact Nat.le_trans hz (by decide)) fun h' o' L' c => wpAny_pure ⟨.none, rfl, rfl, rfl, q h' o' L' c⟩)
theorem T_lmeth {name : Str} {id : String} {pl : Sem Bool} {Q : Value × List Value → Heap → Prop} (slot : Slot "list" name id) (hty : typeOf (.builtin id) = pure (.type "method_descriptor"))
    (L : LsO items o) (e : h.get? l = some o) (q : Q (.builtin id, [.ref l]) h) : T κ (getMethod (.ref l) name pl) Q h := fun d tk =>
  getMethod_builtin ⟨_, e, by obtain ⟨n, rfl⟩ := L; rfl⟩ PySem.F.plainAttrs_list slot hty (fun a q => by cases q; exact ⟨_, e, by obtain ⟨n, rfl⟩ := L; rfl⟩) ⟨rfl, rfl, q⟩
theorem T_m_append {pl : Sem Bool} {Q : Value × List Value → Heap → Prop} (L : LsO items o) (e : h.get? l = some o) (q : Q (.builtin "list.append", [.ref l]) h) : T κ (getMethod (.ref l) "append" pl) Q h :=
  T_lmeth PySem.F.slot_list_append PySem.F.type_list_append L e q
theorem T_m_pop {pl : Sem Bool} {Q : Value × List Value → Heap → Prop} (L : LsO items o) (e : h.get? l = some o) (q : Q (.builtin "list.pop", [.ref l]) h) : T κ (getMethod (.ref l) "pop" pl) Q h :=
  T_lmeth PySem.F.slot_list_pop PySem.F.type_list_pop L e q
theorem T_pop {p : List Value} {y : Value} {Q : Value → Heap → Prop} (L : LsO (p ++ [y]) o) (e : h.get? l = some o) (hz : p.length ≤ 1000000)
    (q : ∀ h' o', LsO p o' → Ch h l o' h' → Q y h') : T κ (PySem.call (.builtin "list.pop") [.ref l]) Q h := fun d tk => by
  obtain ⟨n, rfl⟩ := L
  have hk : (p ++ [y]).toArray.size - 1 = p.length := by simp
  have hy : (p ++ [y]).toArray[(p ++ [y]).toArray.size - 1]? = some y := by rw [hk]; simp
  have hz' : (p ++ [y]).toArray.size ≤ sizeLine := by simp; exact Nat.le_trans (Nat.succ_le_succ hz) (by decide)
  obtain ⟨o', L', c⟩ := lso_update (its' := p) e (fun xs => xs.eraseIdxIfInBounds ((p ++ [y]).toArray.size - 1)) (by rw [hk, kl_erase, List.append_nil])
  exact call_meets PySem.F.slot_list_pop ⟨_, e, rfl⟩ PySem.F.entry_list_pop (PySem.F.args_list_pop_1 _) (PySem.MeetsSeq.list_pop_last l _ n y hy hz') ⟨e, rfl, rfl, q _ _ L' c⟩
theorem T_pop0 {r : List Value} {y : Value} {u : Tok} {Q : Value → Heap → Prop} (L : LsO (y :: r) o) (e : h.get? l = some o) (hz : r.length ≤ 1000000)
    (q : ∀ h' o', LsO r o' → Ch h l o' h' → Q y h') : T κ (PySem.call (.builtin "list.pop") [.ref l, .int 0 u]) Q h := fun d tk => by
  obtain ⟨n, rfl⟩ := L
  have hz' : (y :: r).toArray.size ≤ sizeLine := by simp; exact Nat.le_trans (Nat.succ_le_succ hz) (by decide)
  have hk : seqIndex? 0 (y :: r).toArray.size = some 0 := by unfold seqIndex?; simp
  obtain ⟨o', L', c⟩ := lso_update (its' := r) e (fun xs => xs.eraseIdxIfInBounds 0) (by have := kl_erase [] r y; simpa using this)
  exact call_meets PySem.F.slot_list_pop ⟨_, e, rfl⟩ PySem.F.entry_list_pop (PySem.F.args_list_pop_2 _ _) (PySem.MeetsSeq.list_pop_at l _ n 0 u 0 y (by decide) hk (by simp) hz') ⟨e, rfl, rfl, q _ _ L' c⟩
theorem T_getItem_list {k : Int} {t : Tok} {x : Value} {Q : Value → Heap → Prop} (L : LsO items o) (e : h.get? l = some o) (h0 : 0 ≤ k) (hfit : k < 2 ^ 63) (hx : items[k.toNat]? = some x) (q : Q x h) : T κ (getItem (.ref l) (.int k t)) Q h :=
  fun d tk => wpAny_getItem_list (s := ⟨h, κ.g, d, tk, κ.os⟩) (L.is e) h0 hfit (by simpa using hx) ⟨rfl, rfl, q⟩
theorem T_item_list {ve ie : PySem.Expr} {k : Int} {t : Tok} {x : Value} {Q : Value → Heap → Prop} (L : LsO items o) (e : h.get? l = some o) (h0 : 0 ≤ k) (hfit : k < 2 ^ 63) (hx : items[k.toNat]? = some x) (q : Q x h)
    (hs : subscripted ie false (.ref l) (.int k t) = operate [.ref l, .int k t] (getItem (.ref l) (.int k t)) := by with_unfolding_all rfl) : T κ (subscriptTail ve ie (.ref l) (.int k t)) Q h :=
  fun d tk => tail_any (s := ⟨h, κ.g, d, tk, κ.os⟩) (L.is e).typeIs slot_list_getitem.lookup (T_getItem_list L e h0 hfit hx q d tk) hs
theorem T_item_last {ve ie : PySem.Expr} {t : Tok} {p : List Value} {y : Value} {Q : Value → Heap → Prop} (L : LsO (p ++ [y]) o) (e : h.get? l = some o) (q : Q y h)
    (hs : subscripted ie false (.ref l) (.int (-1) t) = operate [.ref l, .int (-1) t] (getItem (.ref l) (.int (-1) t)) := by with_unfolding_all rfl) : T κ (subscriptTail ve ie (.ref l) (.int (-1) t)) Q h :=
  fun d tk => tail_any (s := ⟨h, κ.g, d, tk, κ.os⟩) (L.is e).typeIs slot_list_getitem.lookup
    (wpAny_getItem_list_neg (L.is e) (by decide) (by simp; omega) (by decide) (by
      have : ((-1 : Int) + ((p ++ [y]).toArray.size : Nat)).toNat = p.length := by simp; omega
      rw [this]; simp) ⟨rfl, rfl, q⟩) hs
theorem T_setItem_list {k : Int} {t : Tok} {v : Value} {Q : Unit → Heap → Prop} (L : LsO items o) (e : h.get? l = some o) (h0 : 0 ≤ k) (hfit : k < 2 ^ 63) (hn : k < items.length)
    (q : ∀ h' o', LsO (items.set k.toNat v) o' → Ch h l o' h' → Q () h') : T κ (setItem (.ref l) (.int k t) v) Q h := fun d tk => by
  obtain ⟨n, rfl⟩ := L
  obtain ⟨o', L', c⟩ := lso_update (its' := items.set k.toNat v) e (fun xs => xs.setIfInBounds k.toNat v) (by apply Array.toList_inj.mp; simp)
  exact ki_setAt (s := ⟨h, κ.g, d, tk, κ.os⟩) e h0 hfit (by simpa using hn) ⟨rfl, rfl, q _ _ L' c⟩
theorem T_len_list {Q : Value → Heap → Prop} (L : LsO items o) (e : h.get? l = some o) (hz : items.length ≤ 1000000) (q : ∀ t, Q (.int items.length t) h) : T κ (PySem.call (.builtin "len") [.ref l]) Q h := fun d tk =>
  Calls.call_len_list (s := ⟨h, κ.g, d, tk, κ.os⟩) (L.is e) (by simp; omega) ⟨rfl, rfl, by simpa using q _⟩
end

/-! ## dicts keyed by ints -/
def IntD (f : Int → Option Value) (n : Nat) (o : Obj) : Prop := o.cls = .type "dict" ∧ ∃ es ep, o.data = .dict es ep ∧ IntKeys es ∧ (∀ k, findBy Value.isInt es k = f k) ∧ es.size ≤ n
theorem IntD.is {f : Int → Option Value} {n : Nat} {o : Obj} (x : IntD f n o) {h : Heap} {a : Addr} (e : h.get? a = some o) : h.IntMap a f ∧ h.DictLe a n := by
  obtain ⟨c, es, ep, d, k, g, z⟩ := x
  refine ⟨⟨o, es, ep, e, c, d, k, g⟩, fun o' es' ep' e' d' => ?_⟩
  rw [e] at e'; cases e'; rw [d] at d'; cases d'; exact z
theorem IntD.of {f : Int → Option Value} {n : Nat} {h : Heap} {a : Addr} (x : h.IntMap a f) (y : h.DictLe a n) : ∃ o, h.get? a = some o ∧ IntD f n o := by
  obtain ⟨o, es, ep, e, c, d, k, g⟩ := x
  exact ⟨o, e, c, es, ep, d, k, g, y o es ep e d⟩
section
variable {κ : Kx} {h : Heap} {d : Addr} {o : Obj} {f : Int → Option Value} {n : Nat}
theorem T_getItem_int {k : Int} {t : Tok} {v : Value} {Q : Value → Heap → Prop} (D : IntD f n o) (e : h.get? d = some o) (hv : f k = some v) (q : Q v h) : T κ (getItem (.ref d) (.int k t)) Q h :=
  fun dr tk => wpAny_getItem_intMap (s := ⟨h, κ.g, dr, tk, κ.os⟩) (D.is e).1 hv ⟨rfl, rfl, q⟩
theorem T_item_int {ve ie : PySem.Expr} {k : Int} {t : Tok} {v : Value} {Q : Value → Heap → Prop} (D : IntD f n o) (e : h.get? d = some o) (hv : f k = some v) (q : Q v h)
    (hs : subscripted ie false (.ref d) (.int k t) = operate [.ref d, .int k t] (getItem (.ref d) (.int k t)) := by with_unfolding_all rfl) : T κ (subscriptTail ve ie (.ref d) (.int k t)) Q h :=
  fun dr tk => tail_any (s := ⟨h, κ.g, dr, tk, κ.os⟩) (D.is e).1.typeIs slot_dict_getitem.lookup (T_getItem_int D e hv q dr tk) hs
theorem T_setItem_int {k : Int} {t : Tok} {v : Value} {Q : Unit → Heap → Prop} (D : IntD f n o) (e : h.get? d = some o) (hn : n ≤ 1000000)
    (q : ∀ h' o', IntD (fun x => if x = k then some v else f x) (n + 1) o' → Ch h d o' h' → Q () h') : T κ (setItem (.ref d) (.int k t) v) Q h := fun dr tk =>
  wpAny_setItem_intMap_le (s := ⟨h, κ.g, dr, tk, κ.os⟩) (D.is e).1 (D.is e).2 (Nat.le_trans hn (by decide)) fun h' m z s => by
    obtain ⟨o', e', D'⟩ := IntD.of m z
    exact ⟨rfl, rfl, q h' o' D' ⟨s.2, e'⟩⟩
end

/-! ## instances -/
def DictA (f : Str → Option Value) (n : Nat) (o : Obj) : Prop := ∃ es ep, o = { cls := .type "dict", data := .dict es ep } ∧ StrKeys es ∧ (∀ name, nsFind es name = f name) ∧ es.size ≤ n
theorem DictA.is {f : Str → Option Value} {n : Nat} {o : Obj} (x : DictA f n o) {h : Heap} {a : Addr} (e : h.get? a = some o) : h.Ns a f := let ⟨es, ep, a, b, c, _⟩ := x; ⟨o, es, ep, e, by rw [a], b, c⟩
theorem DictA.new : DictA (fun _ => none) 0 { cls := .type "dict", data := .dict #[] } := ⟨#[], 0, rfl, (fun e h => by simp at h), fun _ => rfl, Nat.le_refl _⟩
theorem DictA.le {f : Str → Option Value} {n m : Nat} {o : Obj} (x : DictA f n o) (k : n ≤ m) : DictA f m o := let ⟨es, ep, a, b, c, d⟩ := x; ⟨es, ep, a, b, c, Nat.le_trans d k⟩
theorem wp_nsSetL {f : Str → Option Value} {n : Nat} {o : Obj} {M : Model} {A : Around} {s : Shared} {E : Value → Shared → Prop} {Q : Unit → Shared → Prop} {a : Addr} {name : Str} {v : Value} (D : DictA f n o) (e : s.heap.get? a = some o)
    (q : ∀ h' o', DictA (fun y => if y = name then some v else f y) (if (f name).isSome then n else n + 1) o' → Ch s.heap a o' h' → Q () { s with heap := h', toks := s.toks + 1 }) : wpAny M A (nsSet a name v) Q E s := by
  obtain ⟨es, ep, rfl, hk, hf, hz⟩ := D
  have hany : es.any (·.refKey) = false := by
    rw [Array.any_eq_false']
    intro en he
    obtain ⟨n, t, q⟩ := hk en he
    simp [DictEntry.refKey, q]
  unfold nsSet
  refine wpAny_bind (wpAny_bind (wpAny_askSetting (wpAny_pure (wpAny_bind (wpAny_mkText (wpAny_bind (wpAny_loadPart e ?_)))))))
  dsimp only
  rw [aRefKeyMayBeTheName_eq]
  simp only [aRefKeyMayBeTheNameByArray, hany, Bool.and_false, Bool.false_eq_true, if_false]
  refine wpAny_updatePart e ?_
  cases hi : es.findIdx? (·.key.isStr name) with
  | some i =>
    refine q _ _ ⟨_, ep, rfl, hk.modify i v, fun x => ?_, ?_⟩ ⟨fun b hb => Heap.get?_update_other _ _ (Ne.symm hb), (Heap.get?_update_self _ e (by simp only [Obj.putName_eq, Obj.putNameByArray, hi]; rfl)).trans (congrArg some (by simp only [Obj.putName_eq, Obj.putNameByArray, hi] <;> rfl))⟩
    · show _ = if x = name then some v else f x
      rw [← hf]; exact findBy_modify (fun n v => v.isStr n) Value.isStr_inj es name x v i hi
    · have : es.size ≤ (if (f name).isSome then n else n + 1) := by split <;> omega
      simpa using this
  | none =>
    have hno : (f name).isSome = false := by
      rw [← hf name]
      unfold nsFind findBy
      rw [Array.find?_eq_none.mpr fun x hx => by
        have := Array.findIdx?_eq_none_iff.mp hi x hx
        simpa using this]
      rfl
    rw [hno, if_neg (by simp)] at q
    refine q _ _ ⟨_, ep + 1, rfl, hk.push _ _ _ _, fun x => ?_, ?_⟩ ⟨fun b hb => Heap.get?_update_other _ _ (Ne.symm hb), (Heap.get?_update_self _ e (by simp only [Obj.putName_eq, Obj.putNameByArray, hi]; rfl)).trans (congrArg some (by simp only [Obj.putName_eq, Obj.putNameByArray, hi] <;> rfl))⟩
    · show _ = if x = name then some v else f x
      rw [← hf]
      have key : ∀ t : Tok, ∀ y : Str, (Value.str name t).isStr y = decide (y = name) := fun t y => by
        show (name == y) = decide (y = name)
        by_cases h : y = name
        · subst h; exact (beq_self_eq_true _).trans (decide_eq_true rfl).symm
        · exact (beq_eq_false_iff_ne.mpr fun e => h e.symm).trans (decide_eq_false h).symm
      exact findBy_push (fun n v => v.isStr n) es name x _ (.str name s.toks) v (key _) hi
    · simpa using hz
theorem DictA.lookIn {f : Str → Option Value} {n : Nat} {o : Obj} (x : DictA f n o) (name : Str) : lookIn name o = some (f name) := by
  obtain ⟨es, ep, rfl, hk, hf, _⟩ := x
  obtain ⟨l⟩ := es
  unfold PySem.W.lookIn
  rw [← hf name]
  unfold nsFind findBy
  dsimp only
  rw [List.find?_toArray]
  split
  · rename_i en he; rw [he]; rfl
  · rename_i he
    rw [he]
    have : l.any (·.refKey) = false := by
      rw [List.any_eq_false]
      intro en hen
      obtain ⟨n, t, e⟩ := hk en (by simpa using hen)
      simp [DictEntry.refKey, e]
    simp [this]
theorem DictA.congr {f g : Str → Option Value} {n : Nat} {o : Obj} (x : DictA f n o) (e : ∀ y, f y = g y) : DictA g n o := let ⟨es, ep, a, b, c, d⟩ := x; ⟨es, ep, a, b, fun n => (c n).trans (e n), d⟩

structure AttrOk (K : Frag) (C : Addr) (name : Str) : Prop where
  hg : plainGet K C name = true
  hh : hasDictIn K C = true
  ha : ∃ attr, findIn K (.ref C) name = some attr ∧ noGet K attr = true
  hs : findIn K (.ref C) "__setattr__" = some (some (.builtin "object.__setattr__"))
  hp : plainOver K C = true
  ht : takerIn K C name = some none
section
variable {κ : Kx} {h : Heap} {x C d : Addr} {o : Obj} {f : Str → Option Value} {name : Str} {n : Nat}
theorem instAt (ex : h.get? x = some (instObj C d)) (e : h.get? d = some o) : InstAt h x (instObj C d) C (some o) := ⟨ex, rfl, rfl, e⟩
theorem T_getAttr {expr : Bool} {v : Value} {Q : Value → Heap → Prop} (X : (hd.heap_39 κ.w.params).In h) (ok : AttrOk (hd.heap_39 κ.w.params) C name) (ex : h.get? x = some (instObj C d)) (D : DictA f n o) (e : h.get? d = some o)
    (hv : f name = some v) (hh : handedIn v = true) (q : Q v h) : T κ (getAttr (.ref x) name expr) Q h := fun dr tk => by
  obtain ⟨attr, ha, hn⟩ := ok.ha
  exact get_value (s := ⟨h, κ.g, dr, tk, κ.os⟩) X (instAt ex e) (plainGet_of ok.hg).1 (findObj_own ok.hh ha hn (by rw [D.lookIn, hv])) hh ⟨rfl, rfl, q⟩
theorem T_setAttr {v : Value} {Q : Unit → Heap → Prop} (X : (hd.heap_39 κ.w.params).In h) (ok : AttrOk (hd.heap_39 κ.w.params) C name) (ex : h.get? x = some (instObj C d)) (D : DictA f n o) (e : h.get? d = some o) (hn : n ≤ 1000)
    (q : ∀ h' o', DictA (fun y => if y = name then some v else f y) (if (f name).isSome then n else n + 1) o' → Ch h d o' h' → Q () h') : T κ (setAttr (.ref x) name v) Q h := fun dr tk => by
  refine set_plain (s := ⟨h, κ.g, dr, tk, κ.os⟩) X (instAt ex e) ok.hs ?_
  refine osa_open (s := ⟨h, κ.g, dr, tk + 1, κ.os⟩) X (instAt ex e) ok.hp ok.ht fun b => ?_
  obtain ⟨cd, hc, hd'⟩ := any_some ok.hh
  dsimp only
  refine wpAny_bind (wpAny_pure (wpAny_bind (wpAny_bind (wpAny_loadPart ex (wpAny_bind ((looks_clsIn X hc).here ?_))))))
  rw [hd']
  refine wpAny_pure (a := some d) (wpAny_bind (wpAny_pure (wpAny_bind ?_)))
  refine wp_nsSetL (s := ⟨h, κ.g, dr, tk + 1, κ.os⟩) D e fun h' o' D' c => ?_
  have e' := c.at_
  obtain ⟨es, ep, rfl, _, _, hz⟩ := id D'
  refine wpAny_bind (wpAny_lookBehind e' (pastItsLine_dict (by rw [sizeLine_eq]; split at hz <;> omega)) ?_)
  exact wpAny_pure ⟨rfl, rfl, q h' _ D' c⟩
structure MethOk (K : Frag) (C : Addr) (name : Str) (f : Addr) : Prop where
  hg : plainGet K C name = true
  hf : findIn K (.ref C) name = some (some (.ref f))
  ht : isFn K (.ref f) = true
theorem T_getMethod {pl : Sem Bool} {F : Addr} {Q : Value × List Value → Heap → Prop} (X : (hd.heap_39 κ.w.params).In h) (ok : MethOk (hd.heap_39 κ.w.params) C name F) (ex : h.get? x = some (instObj C d)) (D : DictA f n o) (e : h.get? d = some o)
    (hv : f name = none) (q : Q (.ref F, [.ref x]) h) : T κ (getMethod (.ref x) name pl) Q h := fun dr tk =>
  method_fn (s := ⟨h, κ.g, dr, tk, κ.os⟩) X (instAt ex e) (plainGet_of ok.hg).1 (plainGet_of ok.hg).2 ok.hf (beq_iff_eq.mp ok.ht) (by show (lookIn name o).map _ = _; rw [D.lookIn, hv]; rfl) ⟨rfl, rfl, q⟩
structure PropOk (K : Frag) (C : Addr) (name : Str) (fget : Addr) : Prop where
  hg : plainGet K C name = true
  hh : hasDictIn K C = true
  ha : ∃ p rest, findIn K (.ref C) name = some (some (.ref p)) ∧ specialIn K (.ref p) "__get__" = some (some (.builtin "property.__get__")) ∧ takesIn K (.ref p) = some true ∧ recIn K p "property" = some (.ref fget :: rest)
theorem T_getProp {expr : Bool} {F : Addr} {Q : Value → Heap → Prop} (X : (hd.heap_39 κ.w.params).In h) (ok : PropOk (hd.heap_39 κ.w.params) C name F) (ex : h.get? x = some (instObj C d)) (e : h.get? d = some o)
    (q : Mine.C κ.in1 (.call (.ref F) ⟨[.ref x], []⟩) (fun v h' => handedIn v = true ∧ Q v h') h) : T κ (getAttr (.ref x) name expr) Q h := fun dr tk => by
  obtain ⟨p, rest, a1, a2, a3, a4⟩ := ok.ha
  refine get_bind (s := ⟨h, κ.g, dr, tk, κ.os⟩) X (instAt ex e) (plainGet_of ok.hg).1 (findObj_data (by obtain ⟨cd, hc, _⟩ := any_some ok.hh; rw [hc]; rfl) a1 a2 a3) (plainGet_of ok.hg).2
    (wpAny_call (prop_get (s := ⟨h, κ.g, dr, tk + 1, κ.os⟩) X a4 ?_))
  refine q.use (s := ⟨h, κ.g, dr, tk + 1, κ.os⟩) rfl rfl fun v s' g1 o1 z => ?_
  show wpAny _ _ (handedOut v) _ _ _
  rw [handedOut_of z.1]
  exact wpAny_pure ⟨g1, o1, z.2⟩
end
end Mine
end
section
open PySem PySem.W PySem.Calls PyProof.Rows
set_option Elab.async false
set_option maxRecDepth 100000
set_option linter.all false
namespace Mine

section
variable {κ : Kx} {env : Env} {h : Heap}
/-- while -/
theorem T_while {test : Expr} {body : List Stmt} {pos : Pos} {Q : Flow → Heap → Prop} (I : Nat → Heap → Prop) (n : Nat) (h0 : I n h)
    (turn : ∀ n h, I n h → T κ (isTrue test env (eval test env)) (fun b h₁ =>
      (b = true → T κ (execs body env) (fun f h₂ => match f with
        | .next | .cont => ∃ m, m < n ∧ I m h₂
        | .brk => Q .next h₂
        | .ret v => Q (.ret v) h₂) h₁) ∧ (b = false → Q .next h₁)) h) :
    T κ (exec (.While test body [] pos) env) Q h := fun d tk => by
  refine wpAny_While ?_
  refine codeAny_whileLoop (fun n s => s.gens = κ.g ∧ s.os = κ.os ∧ I n s.heap) (fun n s hI => ?_) n ⟨rfl, rfl, h0⟩
  obtain ⟨hg, ho, hI⟩ := hI
  refine T.use (s := s) (turn n s.heap hI) hg ho fun b s₁ g1 o1 z => ?_
  cases b with
  | true =>
    rw [if_pos rfl]
    refine T.use (s := s₁) (z.1 rfl) g1 o1 fun f s₂ g2 o2 z => ?_
    cases f with
    | next => obtain ⟨m, hm, y⟩ := z; exact ⟨m, hm, g2, o2, y⟩
    | cont => obtain ⟨m, hm, y⟩ := z; exact ⟨m, hm, g2, o2, y⟩
    | brk => exact ⟨g2, o2, z⟩
    | ret v => exact ⟨g2, o2, z⟩
  | false =>
    rw [if_neg (by simp)]
    exact wpAny_execs_nil ⟨g1, o1, z.2 rfl⟩

/-- while, with two measures, the first the heavier -/
theorem T_while2 {test : Expr} {body : List Stmt} {pos : Pos} {Q : Flow → Heap → Prop} (I : Nat → Nat → Heap → Prop) (a b : Nat) (h0 : I a b h)
    (turn : ∀ a b h, I a b h → T κ (isTrue test env (eval test env)) (fun c h₁ =>
      (c = true → T κ (execs body env) (fun f h₂ => match f with
        | .next | .cont => ∃ a' b', (a' < a ∨ (a' = a ∧ b' < b)) ∧ I a' b' h₂
        | .brk => Q .next h₂
        | .ret v => Q (.ret v) h₂) h₁) ∧ (c = false → Q .next h₁)) h) :
    T κ (exec (.While test body [] pos) env) Q h := fun d tk => by
  refine wpAny_While ?_
  have main : ∀ (a b : Nat) (s : Shared), s.gens = κ.g → s.os = κ.os → I a b s.heap → codeAny κ.M κ.A (.whileLoop test body [] env) (fun r s' => match r with | .ok f => s'.gens = κ.g ∧ s'.os = κ.os ∧ Q f s'.heap | .error e => False) s := fun a => by
    induction a using Nat.strongRecOn with
    | ind a iha =>
      intro b s hg ho hI
      refine codeAny_loop' (M := κ.M) rfl (fun n s => s.gens = κ.g ∧ s.os = κ.os ∧ I a n s.heap) (fun n s hI => ?_) b ⟨hg, ho, hI⟩
      obtain ⟨hg, ho, hI⟩ := hI
      show wpAny _ κ.A ((whileTurn test body [] env).onRaise (fun x => do noteFrame x env; theTreesLotGoes x)) _ _ s
      refine wpAny_noted ?_
      simp only [whileTurn]
      refine wpAny_bind (T.use (s := s) (turn a n s.heap hI) hg ho fun c s₁ g1 o1 z => ?_)
      cases c with
      | false =>
        simp only [Bool.false_eq_true, if_false]
        exact wpAny_bind (wpAny_execs_nil (wpAny_pure ⟨g1, o1, z.2 rfl⟩))
      | true =>
        simp only [if_true]
        refine wpAny_bind (T.use (s := s₁) (z.1 rfl) g1 o1 fun f s₂ g2 o2 z => ?_)
        have step : (∃ a' b', (a' < a ∨ (a' = a ∧ b' < n)) ∧ I a' b' s₂.heap) → ((Code.whileLoop test body [] env = Code.whileLoop test body [] env ∧ ∃ m, m < n ∧ s₂.gens = κ.g ∧ s₂.os = κ.os ∧ I a m s₂.heap) ∨
            (Code.quiet (.whileLoop test body [] env) = true ∧ codeAny κ.M κ.A (.whileLoop test body [] env) (fun r s' => match r with | .ok f => s'.gens = κ.g ∧ s'.os = κ.os ∧ Q f s'.heap | .error e => False) s₂)) := fun ⟨a', b', hlt, hI'⟩ => by
          rcases hlt with hlt | ⟨rfl, hlt⟩
          · exact .inr ⟨rfl, iha a' hlt b' s₂ g2 o2 hI'⟩
          · exact .inl ⟨rfl, b', hlt, g2, o2, hI'⟩
        cases f with
        | next => exact wpAny_pure (step z)
        | cont => exact wpAny_pure (step z)
        | brk => exact wpAny_pure ⟨g2, o2, z⟩
        | ret v => exact wpAny_pure ⟨g2, o2, z⟩
  refine codeAny_mono (main a b ⟨h, κ.g, d, tk, κ.os⟩ rfl rfl h0) fun r s z => ?_
  cases r with
  | ok f => exact z
  | error e => exact z.elim
/-- an iterator at I over n values, reading besides only the objects of dep -/
structure Iter (κ : Kx) (I : Addr) (dep : Ledger) (n : Nat) (P : Nat → Value → Prop) (Z : Nat → Heap → Prop) : Prop where
  walks : Walks PW κ.w κ.A I (I :: dep.map (·.1)) [I] n P Z
  live : ∀ i h, Z i h → ∃ o, h.get? I = some o

theorem keepBut_of {I : Addr} {h h' : Heap} {w : World} {H : Heap} {L : Addr} {l : List (Str × Value)} {N X : Ledger} (S : St w H L l N X h) (hk : ∀ b o, b ∉ [I] → h.get? b = some o → h'.get? b = some o)
    (hH : H.get? I = none) (hL : I ≠ L) (hN : ∀ p ∈ N, p.1 ≠ I) (hX : ∀ p ∈ X, p.1 ≠ I) : St w H L l N X h' := by
  have k : ∀ b o, b ≠ I → h.get? b = some o → h'.get? b = some o := fun b o q e => hk b o (by simpa using q) e
  obtain ⟨oL, es, ep, eL, r⟩ := S.ns
  refine ⟨S.top, ⟨oL, es, ep, k _ _ (Ne.symm hL) eL, r⟩, fun b o e => k b o (fun q => ?_) (S.keep b o e), S.offL, fun p hp => ⟨k _ _ (hN p hp) (S.n p hp).1, (S.n p hp).2⟩, fun p hp => ⟨k _ _ (hX p hp) (S.x p hp).1, (S.x p hp).2⟩, S.off⟩
  rw [q, hH] at e; cases e

def ForAt (κ : Kx) (env : Env) (L : Addr) (x : Str) (body : List Stmt) (Q : Flow → Heap → Prop) (it : Value) (h : Heap) : Prop :=
  ∃ (H : Heap) (I : Addr) (dep : Ledger) (n : Nat) (P : Nat → Value → Prop) (Z : Nat → Heap → Prop) (l : List (Str × Value)) (N X : Ledger) (Inv : Nat → List (Str × Value) → Ledger → Ledger → Prop),
    it = .ref I ∧ Iter κ I dep n P Z ∧ Z 0 h ∧ St κ.w H L l N X h ∧ H.get? I = none ∧ I ≠ L ∧ (∀ p ∈ N, p.1 ≠ I) ∧ (∀ p ∈ X, p.1 ≠ I) ∧ Inv 0 l N X ∧
    (∀ i l N X, Inv i l N X → ∀ p ∈ dep, p ∈ N ∨ p ∈ X ∨ H.get? p.1 = some p.2) ∧
    (∀ i v l N X H' h, Keep H H' → i < n → P i v → Inv i l N X → St κ.w H' L ((x, v) :: l) N X h → T κ (execs body env) (fun f h' => match f with
        | .next | .cont => ∃ l' N' X', St κ.w H' L l' N' X' h' ∧ Inv (i + 1) l' N' X'
        | .brk => Q .next h'
        | .ret v => Q (.ret v) h') h) ∧
    (∀ l N X h, Inv n l N X → St κ.w H L l N X h → Q .next h)

theorem T_for {x : Str} {px pos : Pos} {iter : Expr} {body : List Stmt} {Q : Flow → Heap → Prop} {L a : Addr} {cn : Str} {cs : Scope} {ccd : Value} {cl : List (Str × Addr)}
    (e : T κ (eval iter (envX cn cs L a ccd cl)) (fun xv h₁ => T κ (pyIter xv) (fun it h₂ => ForAt κ (envX cn cs L a ccd cl) L x body Q it h₂) h₁) h)
    (hs : ∀ y, foldedSetIterable iter (envX cn cs L a ccd cl) y = pure y := by intro _; rfl) (hk : cs.kind = .function := by rfl) (hx : (envX cn cs L a ccd cl).kindOf x = some .local := by rfl) :
    T κ (exec (.For (.Name x px) iter body [] pos) (envX cn cs L a ccd cl)) Q h := fun d tk => by
  refine wpAny_For (e.use (s := ⟨h, κ.g, d, tk, κ.os⟩) rfl rfl fun xv s₁ g1 o1 y => y.use g1 o1 fun it s₂ g2 o2 z => ?_) hs
  obtain ⟨H, I, dep, n, P, Z, l, N, X, Inv, rfl, W, hz, S, hH, hL, hN, hX, h0, hdep, turn, done⟩ := z
  refine codeAny_forLoop_any (fun k s' => s'.gens = κ.g ∧ s'.os = κ.os ∧ ∃ i l N X, Z i s'.heap ∧ St κ.w H L l N X s'.heap ∧ (∀ p ∈ N, p.1 ≠ I) ∧ (∀ p ∈ X, p.1 ≠ I) ∧ Inv i l N X ∧ i ≤ n ∧ k = n + 1 - i) ?_ (n + 1)
    ⟨g2, o2, 0, l, N, X, hz, S, hN, hX, h0, Nat.zero_le _, rfl⟩
  rintro k s' ⟨g3, o3, i, l, N, X, hz, S, hN, hX, hI, hi, rfl⟩
  by_cases hlt : i < n
  · refine W.walks.item i _ _ _ hlt hz fun v h₁ tk₁ hP hz₁ hk₁ => ?_
    have S₁ := keepBut_of S hk₁ hH hL hN hX
    refine wpAny_of_eq (a := ()) rfl ?_
    refine wpAny_assign_Name ((T_store' (κ := κ) (x := x) (v := v) (env := envX cn cs L a ccd cl) (Q := fun _ hh => St κ.w H L ((x, v) :: l) N X hh ∧ ∀ b, b ≠ L → hh.get? b = h₁.get? b) S₁ (fun h' S' b => ⟨S', b⟩) rfl hk hx).use (s := { s' with heap := h₁, toks := tk₁ }) g3 o3 fun _ s₅ g5 o5 S₅ => ?_)
    obtain ⟨S₅, hb₅⟩ := S₅
    have depOk : ∀ {i l N X H' h}, Keep H H' → Inv i l N X → St κ.w H' L l N X h → ∀ p ∈ dep, h.get? p.1 = some p.2 ∧ p.1 ≠ L := fun {i l N X H' h} hk hi S p hp => by
      rcases hdep i l N X hi p hp with q | q | q
      · exact ⟨(S.n p q).1, (S.n p q).2.1⟩
      · exact ⟨(S.x p q).1, (S.x p q).2.1⟩
      · exact ⟨S.keep _ _ (hk _ _ q), fun e => by have := S.offL; rw [← e, hk _ _ q] at this; cases this⟩
    have hd₁ := depOk (Keep.refl H) hI S₁
    have hz₅ : Z (i + 1) s₅.heap := W.walks.frame _ _ _ hz₁ fun b hb o e => by
      refine (hb₅ b ?_).trans e
      rcases List.mem_cons.mp hb with rfl | hb
      · exact hL
      · obtain ⟨p, hp, rfl⟩ := List.mem_map.mp hb
        exact (hd₁ p hp).2
    obtain ⟨oI, heI⟩ := W.live _ _ hz₅
    have no : ∀ {N : Ledger}, (∀ p ∈ N, p.1 ≠ I) → I ∉ N.map (·.1) := fun h q => by obtain ⟨p, hp, e⟩ := List.mem_map.mp q; exact h p hp e
    have hreb : (St.reb L N X s₅.heap).get? I = some oI := St.reb_get heI hL (no hN) (no hX)
    have sub : Keep H (St.reb L N X s₅.heap) := S₅.sub_reb
    have fin : ∀ {l' N' X' h'}, St κ.w (St.reb L N X s₅.heap) L l' N' X' h' → Inv (i + 1) l' N' X' → Z (i + 1) h' ∧ St κ.w H L l' N' X' h' ∧ (∀ p ∈ N', p.1 ≠ I) ∧ (∀ p ∈ X', p.1 ≠ I) := fun {l' N' X' h'} S' hI' => by
      refine ⟨W.walks.frame _ _ _ hz₅ fun b hb o e => ?_, S'.back sub S.top, fun p hp e => ?_, fun p hp e => ?_⟩
      · rcases List.mem_cons.mp hb with rfl | hb
        · rw [heI] at e; cases e; exact S'.keep _ _ hreb
        · obtain ⟨p, hp, rfl⟩ := List.mem_map.mp hb
          have a1 := (depOk (Keep.refl H) hI (l := (l)) (by exact S₁) p hp).1
          have a2 := (depOk sub hI' S' p hp).1
          have a3 : s₅.heap.get? p.1 = some p.2 := (hb₅ _ (hd₁ p hp).2).trans a1
          rw [a3] at e; cases e; exact a2
      · have := (S'.n p hp).2.2; rw [e, hreb] at this; cases this
      · have := (S'.x p hp).2.2; rw [e, hreb] at this; cases this
    refine (turn i v l N X _ s₅.heap sub hlt hP hI S₅.rebase).use (s := s₅) g5 o5 fun f s₆ g6 o6 z => ?_
    cases f with
    | next =>
      obtain ⟨l', N', X', S', hI'⟩ := z
      obtain ⟨z1, z2, z3, z4⟩ := fin S' hI'
      exact ⟨n + 1 - (i + 1), by omega, g6, o6, i + 1, l', N', X', z1, z2, z3, z4, hI', hlt, rfl⟩
    | cont =>
      obtain ⟨l', N', X', S', hI'⟩ := z
      obtain ⟨z1, z2, z3, z4⟩ := fin S' hI'
      exact ⟨n + 1 - (i + 1), by omega, g6, o6, i + 1, l', N', X', z1, z2, z3, z4, hI', hlt, rfl⟩
    | brk => exact ⟨g6, o6, z⟩
    | ret v => exact ⟨g6, o6, z⟩
  · have hin : i = n := by omega
    subst hin
    refine W.walks.done _ _ _ hz fun h₁ tk₁ hk₁ => wpAny_execs_nil ?_
    exact ⟨g3, o3, done l N X h₁ hI (keepBut_of S hk₁ hH hL hN hX)⟩

/-- a new iterator -/
def ItNew (κ : Kx) (h : Heap) (I : Addr) (dep : Ledger) (n : Nat) (P : Nat → Value → Prop) (h' : Heap) : Prop :=
  h.get? I = none ∧ Keep h h' ∧ ∃ nd Z, (∀ p ∈ nd, h.get? p.1 = none ∧ h'.get? p.1 = some p.2 ∧ p.1 ≠ I) ∧ Iter κ I (dep ++ nd) n P Z ∧ Z 0 h'
theorem fresh_of {w : World} {H : Heap} {L I : Addr} {l : List (Str × Value)} {N X : Ledger} {h : Heap} (S : St w H L l N X h) (e : h.get? I = none) : H.get? I = none ∧ I ≠ L ∧ (∀ p ∈ N, p.1 ≠ I) ∧ (∀ p ∈ X, p.1 ≠ I) := by
  refine ⟨S.freshH e, fun q => ?_, fun p hp q => ?_, fun p hp q => ?_⟩
  · obtain ⟨o, ho⟩ := S.liveL; rw [← q, e] at ho; cases ho
  · have := (S.n p hp).1; rw [q, e] at this; cases this
  · have := (S.x p hp).1; rw [q, e] at this; cases this
/-- the base with all but the iterator and what the frame and the ledgers bear -/
theorem base_but {w : World} {H h h' : Heap} {L I : Addr} {l : List (Str × Value)} {N X : Ledger} (S : St w H L l N X h) (e : h.get? I = none) (k : Keep h h') :
    ∃ H2, Keep H H2 ∧ St w H2 L l N X h' ∧ H2.get? I = none ∧ ∀ b o, h.get? b = none → b ≠ I → h'.get? b = some o → H2.get? b = some o := by
  obtain ⟨a1, a2, a3, a4⟩ := fresh_of S e
  have S' := S.keeps k
  let as := I :: L :: (N.map (·.1) ++ X.map (·.1))
  have sub : Keep H (hideAll h' as) := fun b o q => by
    refine hideAll_get _ (S'.keep b o q) fun m => ?_
    rcases List.mem_cons.mp m with rfl | m
    · rw [a1] at q; cases q
    · rcases List.mem_cons.mp m with rfl | m
      · rw [S.offL] at q; cases q
      · rcases List.mem_append.mp m with m | m
        · obtain ⟨p, hp, rfl⟩ := List.mem_map.mp m; rw [(S.n p hp).2.2] at q; cases q
        · obtain ⟨p, hp, rfl⟩ := List.mem_map.mp m; rw [(S.x p hp).2.2] at q; cases q
  refine ⟨hideAll h' as, sub, ⟨S.top.keep sub, S'.ns, fun b o q => of_hideAll _ q, hideAll_none _ (.tail _ (.head _)), fun p hp => ⟨(S'.n p hp).1, (S'.n p hp).2.1, hideAll_none _ ?_⟩, fun p hp => ⟨(S'.x p hp).1, (S'.x p hp).2.1, hideAll_none _ ?_⟩, S.off⟩, hideAll_none _ (.head _), fun b o f ne q => ?_⟩
  · exact .tail _ (.tail _ (List.mem_append_left _ (List.mem_map_of_mem hp)))
  · exact .tail _ (.tail _ (List.mem_append_right _ (List.mem_map_of_mem hp)))
  · refine hideAll_get _ q fun m => ?_
    obtain ⟨_, b2, b3, b4⟩ := fresh_of S f
    rcases List.mem_cons.mp m with m | m
    · exact ne m
    · rcases List.mem_cons.mp m with m | m
      · exact b2 m
      · rcases List.mem_append.mp m with m | m
        · obtain ⟨p, hp, e⟩ := List.mem_map.mp m; exact b3 p hp e
        · obtain ⟨p, hp, e⟩ := List.mem_map.mp m; exact b4 p hp e
theorem ForAt.mk {x : Str} {body : List Stmt} {Q : Flow → Heap → Prop} {H h h' : Heap} {L I : Addr} {l : List (Str × Value)} {N X dep : Ledger} {n : Nat} {P : Nat → Value → Prop} (S : St κ.w H L l N X h) (it : ItNew κ h I dep n P h')
    (Inv : Nat → List (Str × Value) → Ledger → Ledger → Prop) (h0 : Inv 0 l N X) (hdep : ∀ i l N X, Inv i l N X → ∀ p ∈ dep, p ∈ N ∨ p ∈ X ∨ H.get? p.1 = some p.2)
    (turn : ∀ i v l N X H' h, Keep H H' → i < n → P i v → Inv i l N X → St κ.w H' L ((x, v) :: l) N X h → T κ (execs body env) (fun f h' => match f with
        | .next | .cont => ∃ l' N' X', St κ.w H' L l' N' X' h' ∧ Inv (i + 1) l' N' X'
        | .brk => Q .next h'
        | .ret v => Q (.ret v) h') h)
    (done : ∀ l N X h, Inv n l N X → St κ.w H L l N X h → Q .next h) : ForAt κ env L x body Q (.ref I) h' := by
  obtain ⟨e, k, nd, Z, hnd, W, z⟩ := it
  obtain ⟨a, b, c, d⟩ := fresh_of S e
  obtain ⟨H2, sub, S2, hI, hb⟩ := base_but S e k
  refine ⟨H2, I, dep ++ nd, n, P, Z, l, N, X, Inv, rfl, W, z, S2, hI, b, c, d, h0, fun i l N X hi p hp => ?_, fun i v l N X H' h hk => turn i v l N X H' h (sub.trans hk), fun l N X h hi S => done l N X h hi (S.back sub (Mine.St.top ‹St κ.w H L _ _ _ _›))⟩
  rcases List.mem_append.mp hp with hp | hp
  · rcases hdep i l N X hi p hp with q | q | q
    · exact .inl q
    · exact .inr (.inl q)
    · exact .inr (.inr (sub _ _ q))
  · exact .inr (.inr (hb _ _ (hnd p hp).1 (hnd p hp).2.2 (hnd p hp).2.1))
theorem keep_push (h : Heap) (o : Obj) : Keep h (h.push o) := fun _ _ e => Heap.get?_push_of_some _ e
theorem T_iter_list {l : Addr} {o : Obj} {items : List Value} {Q : Value → Heap → Prop} {m : Nat} (R : Room κ m) (L : LsO items o) (e : h.get? l = some o)
    (q : ∀ I h', ItNew κ h I [(l, o)] items.length (fun i v => items[i]? = some v) h' → Q (.ref I) h') : T κ (pyIter (.ref l)) Q h := fun d tk => by
  refine wpAny_pyIter_list (s := ⟨h, κ.g, d, tk, κ.os⟩) (L.is e) ⟨rfl, rfl, q _ _ ⟨get_size_none h, keep_push _ _, ?_⟩⟩
  have hne : l ≠ h.objs.size := Nat.ne_of_lt (Heap.lt_size e)
  have W := Walks.list (prog := PW) (w := κ.w) (A := κ.A) R.handled h.objs.size l hne items.toArray
  refine ⟨[], fun i h' => h'.IsListIter h.objs.size l i ∧ h'.IsList l items.toArray, (fun p hp => (nomatch hp)), ⟨by simpa using W, ?_⟩, ?_⟩
  · rintro i h' ⟨⟨o, ho, _⟩, _⟩; exact ⟨o, ho⟩
  · exact ⟨⟨_, Heap.get?_push_size _ rfl, rfl, rfl⟩, (L.is e).at fun o e => Heap.get?_push_of_some _ e⟩
def rangeO (a b : Int) (t u v : Tok) : Obj := { cls := .type "range", data := .fields #[.int a t, .int b u, .int 1 v] }
theorem T_range1 {b : Int} {u : Tok} {Q : Value → Heap → Prop} (q : ∀ r h' t v, Nw h r (rangeO 0 b t u v) h' → Q (.ref r) h') : T κ (PySem.call (.type "range") [.int b u]) Q h := fun d tk =>
  call_range_1 (s := ⟨h, κ.g, d, tk, κ.os⟩) ⟨rfl, rfl, q _ _ _ _ ⟨get_size_none h, Heap.get?_push_size _ rfl, keep_push _ _⟩⟩
theorem T_range2 {a b : Int} {t u : Tok} {Q : Value → Heap → Prop} (q : ∀ r h' v, Nw h r (rangeO a b t u v) h' → Q (.ref r) h') : T κ (PySem.call (.type "range") [.int a t, .int b u]) Q h := fun d tk =>
  call_range_2 (s := ⟨h, κ.g, d, tk, κ.os⟩) ⟨rfl, rfl, q _ _ _ ⟨get_size_none h, Heap.get?_push_size _ rfl, keep_push _ _⟩⟩
theorem T_iter_range {r : Addr} {a b : Int} {t u v : Tok} {Q : Value → Heap → Prop} {m : Nat} (R : Room κ m) (e : h.get? r = some (rangeO a b t u v)) (ha : -1000 ≤ a ∧ a ≤ 1000) (hb : -1000 ≤ b ∧ b ≤ 1000)
    (q : ∀ I h', ItNew κ h I [] (b - a).toNat (fun i v => ∃ t, v = .int (a + i) t) h' → Q (.ref I) h') : T κ (pyIter (.ref r)) Q h := fun d tk => by
  have hsz : Builtin.Range.rangeSize a b 1 = ((b - a).toNat : Int) := by
    exact rangeSize_nat a b
  refine wpAny_pyIter_range (s := ⟨h, κ.g, d, tk, κ.os⟩) (a := a) (b := b) (c := 1) e ?_ ⟨rfl, rfl, q _ _ ⟨get_size_none h, keep_push _ _, ?_⟩⟩
  · have f : ∀ x : Int, -3000 ≤ x → x ≤ 3000 → Builtin.Range.rangeFitsLong x = true := fun x h1 h2 => by
      unfold Builtin.Range.rangeFitsLong
      simp only [Bool.and_eq_true, decide_eq_true_eq]
      constructor <;> omega
    unfold Builtin.Range.small
    rw [hsz]
    simp only [Bool.and_eq_true, Bool.or_eq_true]
    refine ⟨⟨⟨⟨f _ (by omega) (by omega), f _ (by omega) (by omega)⟩, f _ (by omega) (by omega)⟩, f _ (by omega) (by omega)⟩, .inr ?_⟩
    rw [if_pos (by decide)]
    exact f _ (by omega) (by omega)
  · have W := Walks.range (prog := PW) (w := κ.w) (A := κ.A) R.handled h.objs.size a 1 (b - a).toNat
    refine ⟨[], fun i h' => IsRangeIter h' h.objs.size (a + (i : Nat) * 1) (((b - a).toNat : Int) - (i : Nat)) 1, (fun p hp => (nomatch hp)), ⟨by simpa using W, fun i h' ho => ⟨_, ho⟩⟩, ?_⟩
    · show IsRangeIter _ _ _ _ _
      rw [hsz]; simpa using Heap.get?_push_size _ rfl
end
end Mine
end
section
open PySem PySem.W PySem.Calls PyProof.Rows
set_option Elab.async false
set_option maxRecDepth 100000
set_option linter.all false
namespace Mine

/-! ## the places of a set's table rise -/
def Rising (xs : Array Nat) : Prop := ∀ i j (hi : i < j) (hj : j < xs.size), xs.getD i 0 < xs.getD j 0
theorem rising_iff (xs : Array Nat) : Rising xs ↔ xs.toList.Pairwise (· < ·) := by
  rw [List.pairwise_iff_getElem]
  constructor
  · intro h i j hi hj hij
    have := h i j hij (by simpa using hj)
    simpa [Array.getD, show i < xs.size by simp at hi; exact hi, show j < xs.size by simp at hj; exact hj] using this
  · intro h i j hij hj
    have := h i j (by simp; omega) (by simpa using hj) hij
    simpa [Array.getD, show i < xs.size by omega, hj] using this
theorem below_go (xs : Array Nat) (j : Nat) (R : Rising xs) : ∀ (fuel lo hi : Nat), hi - lo ≤ fuel → lo ≤ hi → hi ≤ xs.size → (∀ i, i < lo → xs.getD i 0 < j) → (∀ i, hi ≤ i → i < xs.size → j ≤ xs.getD i 0) →
    (∀ i, i < SetTable.below.go xs j fuel lo hi → xs.getD i 0 < j) ∧ (∀ i, SetTable.below.go xs j fuel lo hi ≤ i → i < xs.size → j ≤ xs.getD i 0) ∧ SetTable.below.go xs j fuel lo hi ≤ xs.size
  | 0, lo, hi, h1, h2, h3, a, b => by
    have : lo = hi := by omega
    subst this
    exact ⟨a, b, h3⟩
  | fuel + 1, lo, hi, h1, h2, h3, a, b => by
    unfold SetTable.below.go
    by_cases h : lo < hi
    · rw [if_pos h]
      dsimp only
      have eqd : xs.getD ((lo + hi) / 2) j = xs.getD ((lo + hi) / 2) 0 := by
        have : (lo + hi) / 2 < xs.size := by omega
        simp [Array.getD, this]
      rw [eqd]
      by_cases q : xs.getD ((lo + hi) / 2) 0 < j
      · rw [if_pos q]
        refine below_go xs j R fuel _ _ (by omega) (by omega) h3 (fun i hi' => ?_) b
        by_cases e : i = (lo + hi) / 2
        · rw [e]; exact q
        · exact Nat.lt_trans (R i _ (by omega) (by omega)) q
      · rw [if_neg q]
        refine below_go xs j R fuel _ _ (by omega) (by omega) (by omega) a (fun i hi' hs => ?_)
        by_cases e : i = (lo + hi) / 2
        · rw [e]; omega
        · have := R _ i (by omega : (lo + hi) / 2 < i) hs
          omega
    · rw [if_neg h]
      have : lo = hi := by omega
      subst this
      exact ⟨a, b, h3⟩
theorem below_spec {xs : Array Nat} (R : Rising xs) (j : Nat) : (∀ i, i < SetTable.below xs j → xs.getD i 0 < j) ∧ (∀ i, SetTable.below xs j ≤ i → i < xs.size → j ≤ xs.getD i 0) ∧ SetTable.below xs j ≤ xs.size :=
  below_go xs j R _ _ _ (by omega) (by omega) (Nat.le_refl _) (fun i h => absurd h (Nat.not_lt_zero _)) (fun i h h' => absurd h (Nat.not_le.mpr h'))
theorem below_le_go (xs : Array Nat) (j : Nat) : ∀ (fuel lo hi : Nat), lo ≤ hi → SetTable.below.go xs j fuel lo hi ≤ hi
  | 0, lo, hi, h => h
  | fuel + 1, lo, hi, h => by
    unfold SetTable.below.go
    split
    · dsimp only
      split
      · exact below_le_go xs j fuel _ _ (by omega)
      · exact Nat.le_trans (below_le_go xs j fuel _ _ (by omega)) (by omega)
    · exact h
theorem below_le (xs : Array Nat) (j : Nat) : SetTable.below xs j ≤ xs.size := below_le_go xs j _ _ _ (Nat.zero_le _)
theorem below_next {xs : Array Nat} (R : Rising xs) {i : Nat} (hi : i < xs.size) : SetTable.below xs (xs.getD i 0 + 1) = i + 1 := by
  obtain ⟨a, b, c⟩ := below_spec R (xs.getD i 0 + 1)
  have h1 : ¬ SetTable.below xs (xs.getD i 0 + 1) ≤ i := fun h => by have := b i h hi; omega
  have h2 : ¬ i + 1 < SetTable.below xs (xs.getD i 0 + 1) := fun h => by
    have := a (i + 1) h
    have := R i (i + 1) (by omega) (by omega)
    omega
  omega
theorem below_zero {xs : Array Nat} (R : Rising xs) : SetTable.below xs 0 = 0 := by
  obtain ⟨a, b, c⟩ := below_spec R 0
  by_cases h : SetTable.below xs 0 = 0
  · exact h
  · exact absurd (a 0 (by omega)) (Nat.not_lt_zero _)
theorem not_mem_of_below {xs : Array Nat} (R : Rising xs) {j : Nat} (h : xs[SetTable.below xs j]? ≠ some j) : j ∉ xs.toList := fun hm => by
  obtain ⟨i, hi, e⟩ := List.getElem_of_mem hm
  have hi' : i < xs.size := by simpa using hi
  have e' : xs.getD i 0 = j := by simpa [Array.getD, hi'] using e
  obtain ⟨a, b, c⟩ := below_spec R j
  have h1 : SetTable.below xs j ≤ i := by
    by_cases q : SetTable.below xs j ≤ i
    · exact q
    · have := a i (by omega); omega
  have h2 : SetTable.below xs j = i := by
    by_cases q : SetTable.below xs j = i
    · exact q
    · have := R (SetTable.below xs j) i (by omega) hi'
      have := b _ (Nat.le_refl _) (by omega : SetTable.below xs j < xs.size)
      omega
  apply h
  rw [h2]
  have : xs[i]? = some xs[i] := Array.getElem?_eq_getElem hi'
  rw [this]
  simpa [Array.getD, hi'] using e'
theorem rising_insert {xs : Array Nat} (R : Rising xs) {j : Nat} (h : j ∉ xs.toList) : Rising (SetTable.insertAt xs (SetTable.below xs j) j) := by
  obtain ⟨a, b, c⟩ := below_spec R j
  rw [rising_iff, SetTable.toList_insertAt]
  have P := (rising_iff xs).mp R
  have e := List.take_append_drop (SetTable.below xs j) xs.toList
  rw [← e, List.pairwise_append] at P
  have lt : ∀ y ∈ xs.toList.take (SetTable.below xs j), y < j := fun y hy => by
    obtain ⟨i, hi, rfl⟩ := List.getElem_of_mem hy
    rw [List.length_take] at hi
    have := a i (by omega)
    have hi' : i < xs.size := by have := Nat.min_le_right (SetTable.below xs j) xs.toList.length; simp at *; omega
    simpa [Array.getD, hi'] using this
  have gt : ∀ y ∈ xs.toList.drop (SetTable.below xs j), j < y := fun y hy => by
    have hne : y ≠ j := fun q => h (q ▸ List.mem_of_mem_drop hy)
    obtain ⟨i, hi, rfl⟩ := List.getElem_of_mem hy
    rw [List.length_drop] at hi
    have hi' : SetTable.below xs j + i < xs.size := by simp at hi; omega
    have := b _ (Nat.le_add_right (SetTable.below xs j) i) hi'
    have e2 : (xs.toList.drop (SetTable.below xs j))[i] = xs.getD (SetTable.below xs j + i) 0 := by simp [Array.getD, hi']
    rw [e2] at hne ⊢
    omega
  rw [List.pairwise_append]
  refine ⟨P.1, List.pairwise_cons.mpr ⟨gt, P.2.1⟩, fun x hx y hy => ?_⟩
  rcases List.mem_cons.mp hy with rfl | hy
  · exact lt x hx
  · exact P.2.2 x hx y hy
theorem rising_erase {xs : Array Nat} (R : Rising xs) (i : Nat) : Rising (SetTable.eraseAt xs i) := by
  rw [rising_iff] at R ⊢
  have e : (SetTable.eraseAt xs i).toList = xs.toList.take i ++ xs.toList.drop (i + 1) := by
    simp [SetTable.eraseAt, List.extract_eq_take_drop, List.take_of_length_le]
  rw [e]
  have : List.Sublist (xs.toList.take i ++ xs.toList.drop (i + 1)) xs.toList := by
    conv => rhs; rw [← List.take_append_drop i xs.toList]
    refine List.Sublist.append (List.Sublist.refl _) ?_
    rw [← List.drop_drop]
    exact List.drop_sublist ..
  exact R.sublist this
theorem rising_range (n : Nat) : Rising (Array.range n) := by
  rw [rising_iff]
  simpa using List.pairwise_lt_range
/-- the slots that a search ends at hold no live element -/
theorem probe_free (t : SetTable) (hashAt : Nat → Int) (h : Int) : ∀ (fuel : Nat) (p : SetTable.Probe) (j : Nat) (d : Option Nat), (∀ x, p.dummy = some x → t.slot x = .dummy) →
    SetTable.probe.go t hashAt h fuel p = some (.empty j d) → t.slot j = .empty ∧ ∀ x, d = some x → t.slot x = .dummy
  | 0, p, j, d, _, e => by cases e
  | fuel + 1, p, j, d, hp, e => by
    unfold SetTable.probe.go at e
    have adv : ∀ p : SetTable.Probe, (t.advance p).dummy = p.dummy := fun p => by
      unfold SetTable.advance
      split <;> rfl
    split at e
    · rename_i q
      cases e
      exact ⟨q, hp⟩
    · rename_i q
      refine probe_free t hashAt h fuel _ j d (fun x hx => ?_) e
      rw [adv] at hx
      cases hx; exact q
    · rename_i i q
      split at e
      · cases e
      · exact probe_free t hashAt h fuel _ j d (fun x hx => hp x (by rw [adv] at hx; exact hx)) e
theorem slot_free {t : SetTable} (R : Rising t.place) {j : Nat} (h : t.slot j = .empty ∨ t.slot j = .dummy) : j ∉ t.place.toList := by
  refine not_mem_of_below R fun e => ?_
  have : t.slot j = .live (SetTable.below t.place j) := by
    unfold SetTable.slot
    dsimp only
    rw [if_pos (by rw [e]; simp)]
  rcases h with h | h <;> rw [this] at h <;> cases h
theorem put_rising {t : SetTable} (R : Rising t.place) {h : Int} {j : Nat} {b : Bool} (e : t.freeSlot h = some (j, b)) : Rising (t.put j).1.place := by
  unfold SetTable.freeSlot at e
  split at e
  · rename_i j' d q
    simp only [Option.some.injEq, Prod.mk.injEq] at e
    obtain ⟨e1, _⟩ := e
    obtain ⟨a, c⟩ := probe_free t _ _ _ _ _ _ (by intro x hx; simp [SetTable.probeStart] at hx) q
    refine rising_insert R ?_
    cases d with
    | none => simp at e1; subst e1; exact slot_free R (.inl a)
    | some d => simp at e1; subst e1; exact slot_free R (.inr (c _ rfl))
  · cases e
theorem standIn_rising (t : SetTable) (n : Nat) : Rising (t.standIn n).place := rising_range n
theorem layNew_rising {t : SetTable} (R : Rising t.place) (es : Array (Int × Value)) (h : Int) (x : Value) : Rising (layNew t es h x).2.1.place := by
  unfold layNew
  split
  · rename_i j b e
    dsimp only
    unfold SetTable.orStandIn
    split
    · exact put_rising R e
    · exact standIn_rising _ _
  · exact standIn_rising _ _
theorem orStandIn_led (t : SetTable) (n : Nat) : (t.orStandIn n).led = t.led := by
  unfold SetTable.orStandIn
  split <;> rfl
theorem layNew_led (t : SetTable) (es : Array (Int × Value)) (h : Int) (x : Value) : (layNew t es h x).2.1.led = t.led := by
  unfold layNew
  split
  · exact (orStandIn_led _ _).trans rfl
  · rfl
theorem relaid_facts {t t' : SetTable} {hs : Array Int} {n : Nat} {ord : Array Nat} (e : t.relaid hs n = some (t', ord)) : Rising t'.place ∧ t'.led = t.led := by
  unfold SetTable.relaid SetTable.laid at e
  simp only [Option.bind_eq_bind, Option.bind_eq_some_iff, Option.pure_def, Option.some.injEq, Prod.mk.injEq] at e
  obtain ⟨ow, _, e1, _⟩ := e
  subst e1
  refine ⟨?_, rfl⟩
  rw [rising_iff]
  dsimp only
  rw [List.map_filterMap]
  have : ∀ (f : Nat → Option Nat) (l : List Nat), List.Sublist (l.filterMap fun j => ((f j).map fun k => (j, k)).map (·.1)) l := fun f l => by
    induction l with
    | nil => exact List.Sublist.refl _
    | cons a r ih =>
      rw [List.filterMap_cons]
      cases f a with
      | none => exact ih.cons _
      | some k => exact ih.cons_cons _
  exact (List.pairwise_lt_range).sublist (this _ _)
theorem relayAll_facts {t : SetTable} (es : Array (Int × Value)) (n : Nat) : Rising (relayAll t es n).2.1.place ∧ (relayAll t es n).2.1.led = t.led := by
  unfold relayAll
  split
  · rename_i t' ord e
    dsimp only
    split
    · exact relaid_facts e
    · exact ⟨standIn_rising _ _, rfl⟩
  · exact ⟨standIn_rising _ _, rfl⟩
theorem drop_facts {t : SetTable} {n : Nat} (R : Rising t.place) (f : t.fits n = true) {i : Nat} (hi : i < n) : Rising (t.drop i).place ∧ (t.drop i).led = t.led ∧ (t.drop i).fits (n - 1) = true := by
  have hs : t.place.size = n := by simp [SetTable.fits] at f; exact f.1
  have hf : t.fill ≤ t.mask := by simp [SetTable.fits] at f; exact f.2
  unfold SetTable.drop
  have e : t.place[i]? = some t.place[i] := Array.getElem?_eq_getElem (by omega)
  rw [e]
  dsimp only
  refine ⟨rising_erase R i, rfl, ?_⟩
  have l1 : (SetTable.eraseAt t.place i).size = n - 1 := by
    simp [SetTable.eraseAt]; omega
  have l2 : (SetTable.insertAt t.dummies (SetTable.below t.dummies t.place[i]) t.place[i]).size = t.dummies.size + 1 := by
    have := below_le t.dummies t.place[i]
    simp [SetTable.insertAt]; omega
  unfold SetTable.fits SetTable.fill
  simp only [Bool.and_eq_true, beq_iff_eq, decide_eq_true_eq]
  unfold SetTable.fill at hf
  rw [l1, l2]
  exact ⟨rfl, by omega⟩
end Mine
end
section
open PySem PySem.W PySem.Calls PyProof.Rows
set_option Elab.async false
set_option maxRecDepth 100000
set_option linter.all false
namespace Mine

def byText (w : World) : Bool := w.params.followText "set-order"
def ent (p : Int × Tok) : Int × Value := (hashInt p.1, .int p.1 p.2)
def sobj (ks : List (Int × Tok)) (ep : Nat) (t : SetTable) : Obj := { cls := .type "set", data := .set (ks.map ent).toArray ep t }
structure SetT (w : World) (l : List Int) (ks : List (Int × Tok)) (t : SetTable) : Prop where
  perm : (ks.map (·.1)).Perm l
  nodup : l.Nodup
  small : l.length ≤ 1000
  fits : t.fits ks.length = true
  rise : Rising t.place
  led : byText w = true ∨ t.led = true
def SetO (w : World) (l : List Int) (o : Obj) : Prop := ∃ ks ep t, o = sobj ks ep t ∧ SetT w l ks t
theorem SetT.len {w : World} {l : List Int} {ks : List (Int × Tok)} {t : SetTable} (x : SetT w l ks t) : ks.length = l.length := by
  have := x.perm.length_eq; simpa using this
theorem SetO.perm {w : World} {l l' : List Int} {o : Obj} (x : SetO w l o) (p : l.Perm l') : SetO w l' o := by
  obtain ⟨ks, ep, t, e, s⟩ := x
  exact ⟨ks, ep, t, e, s.perm.trans p, p.nodup_iff.mp s.nodup, by rw [← p.length_eq]; exact s.small, s.fits, s.rise, s.led⟩
theorem SetO.nodup {w : World} {l : List Int} {o : Obj} (x : SetO w l o) : l.Nodup := let ⟨_, _, _, _, s⟩ := x; s.nodup

theorem elems_ents (prog : Program) (w : World) (ks : List (Int × Tok)) : ElemsOf (intKind prog w) (ks.map ent) := fun e he => by
  obtain ⟨p, hp, rfl⟩ := List.mem_map.mp he
  exact ⟨⟨p.1, by show Value.isInt p.1 (.int p.1 p.2) = true; simp [Value.isInt], rfl⟩, rfl⟩
theorem is_ent {prog : Program} {w : World} {k : Int} {p : Int × Tok} : (intKind prog w).is k (ent p).2 = decide (k = p.1) := by
  show (p.1 == k) = decide (k = p.1)
  by_cases q : p.1 = k
  · rw [q]; simp
  · rw [beq_eq_false_iff_ne.mpr q, decide_eq_false (fun e => q e.symm)]
theorem SetO.is {w : World} {l : List Int} {o : Obj} (x : SetO w l o) (prog : Program) {h : Heap} {a : Addr} (e : h.get? a = some o) : h.SetOf (intKind prog w) a (fun k => decide (k ∈ l)) l.length := by
  obtain ⟨ks, ep, t, rfl, s⟩ := x
  have hl := s.len
  refine ⟨_, (ks.map ent).toArray, ep, t, e, ⟨rfl, rfl, rfl⟩, rfl, elems_ents _ _ _, fun k => ?_, ?_, by simpa using s.fits, by simpa using hl⟩
  · rw [decide_eq_true_eq, ← s.perm.mem_iff]
    constructor
    · intro h
      obtain ⟨p, hp, rfl⟩ := List.mem_map.mp h
      exact ⟨ent p, by simpa using ⟨_, _, hp, rfl⟩, by rw [is_ent]; simp⟩
    · rintro ⟨en, hen, q⟩
      obtain ⟨p, hp, rfl⟩ := List.mem_map.mp (show en ∈ ks.map ent by simpa using hen)
      rw [is_ent] at q
      exact List.mem_map.mpr ⟨p, hp, (of_decide_eq_true q).symm⟩
  · have := s.small
    simp only [List.size_toArray, List.length_map]
    unfold scanBound
    omega

def inv (e : Int × Value) : Int × Tok := match e.2 with
  | .int k t => (k, t)
  | _ => (0, 0)
theorem inv_ent (p : Int × Tok) : inv (ent p) = p := rfl
theorem ents_of_perm {es : List (Int × Value)} {ks : List (Int × Tok)} (p : es.Perm (ks.map ent)) : es = (es.map inv).map ent ∧ (es.map inv).Perm ks := by
  constructor
  · rw [List.map_map]
    have : ∀ x ∈ es, (ent ∘ inv) x = id x := fun x hx => by
      obtain ⟨q, _, rfl⟩ := List.mem_map.mp (p.mem_iff.mp hx)
      rfl
    rw [List.map_congr_left this, List.map_id]
  · have := p.map inv
    rw [List.map_map] at this
    simpa [Function.comp_def, inv_ent] using this

section
variable {κ : Kx} {h : Heap} {a : Addr} {o : Obj} {l : List Int} {k : Int} {u : Tok}
theorem T_in_set {Q : Value → Heap → Prop} (D : SetO κ.w l o) (e : h.get? a = some o) (q : Q (.bool (decide (k ∈ l))) h) : T κ (compareOp .In (.int k u) (.ref a)) Q h := fun d tk =>
  wpAny_inSet_of (s := ⟨h, κ.g, d, tk, κ.os⟩) (knd := intKind PW κ.w) (k := k) (by show Value.isInt k (.int k u) = true; simp [Value.isInt]) rfl (D.is PW e) ⟨rfl, rfl, q⟩
theorem T_m_add {pl : Sem Bool} {Q : Value × List Value → Heap → Prop} (D : SetO κ.w l o) (e : h.get? a = some o) (q : Q (.builtin "set.add", [.ref a]) h) : T κ (getMethod (.ref a) "add" pl) Q h := fun d tk =>
  getMethod_set_add (s := ⟨h, κ.g, d, tk, κ.os⟩) (D.is PW e) ⟨rfl, rfl, q⟩
theorem T_m_remove {pl : Sem Bool} {Q : Value × List Value → Heap → Prop} (D : SetO κ.w l o) (e : h.get? a = some o) (q : Q (.builtin "set.remove", [.ref a]) h) : T κ (getMethod (.ref a) "remove" pl) Q h := fun d tk =>
  getMethod_builtin (s := ⟨h, κ.g, d, tk, κ.os⟩) (D.is PW e).typeIs F.plainAttrs_set F.slot_set_remove F.type_set_remove (D.is PW e).noDict ⟨rfl, rfl, q⟩
theorem wp_storeSet {ks : List (Int × Tok)} {ep : Nat} {t : SetTable} {ks' : List (Int × Tok)} {t' : SetTable} {es' : Array (Int × Value)} {s : Shared} {A : Around} {E : Value → Shared → Prop} {Q : Unit → Shared → Prop}
    (e : s.heap.get? a = some (sobj ks ep t)) (he : es' = (ks'.map ent).toArray) (hz : ks'.length ≤ 2000)
    (q : ∀ h', Ch s.heap a (sobj ks' (ep + 1) t') h' → Q () { s with heap := h' }) : wpAny κ.M A (storeSet a es' t') Q E s := by
  subst he
  refine wpAny_storeSet_of e rfl (q _ ⟨fun b hb => Heap.get?_update_other _ _ (Ne.symm hb), ?_⟩) (by simp; exact Nat.le_trans hz (by decide))
  have := Heap.get?_update_self (Obj.putSet (ks'.map ent).toArray t') e rfl
  rwa [putSet_of _ t' rfl] at this

theorem find_ents {prog : Program} {w : World} (ks : List (Int × Tok)) (k : Int) : (ks.map ent).findIdx? (fun e => (intKind prog w).is k e.2) = ks.findIdx? (fun p => decide (k = p.1)) := by
  induction ks with
  | nil => rfl
  | cons p r ih =>
    rw [List.map_cons, List.findIdx?_cons, List.findIdx?_cons, is_ent, ih]

theorem wp_add {Q : Bool → Shared → Prop} {E : Value → Shared → Prop} {s : Shared} {A : Around} (D : SetO κ.w l o) (e : s.heap.get? a = some o) (hz : l.length ≤ 900)
    (q : ∀ b h' o', SetO κ.w (if k ∈ l then l else l ++ [k]) o' → Ch s.heap a o' h' → Q b { s with heap := h' }) : wpAny κ.M A (setAddHashed a (.int k u) (hashInt k)) Q E s := by
  obtain ⟨ks, ep, t, rfl, S⟩ := id D
  have hlen := S.len
  have hf : t.fits (ks.map ent).toArray.size = true := by simpa using S.fits
  have hel := elems_ents PW κ.w ks
  have hb : (ks.map ent).toArray.size < scanBound := by simp; unfold scanBound; omega
  have hkey : (intKind PW κ.w).is k (.int k u) = true := by show (k == k) = true; simp
  unfold setAddHashed setAddHashedIn
  refine wpAny_holding (wpAny_bind (wpAny_setState_of e rfl hf ?_))
  dsimp only
  rw [byScan_of (knd := intKind PW κ.w) rfl hb (by simpa using hel)]
  simp only [if_true]
  unfold setAddByScan
  refine wpAny_bind (wpAny_bind (wpAny_rule (wpAny_bind (wpAny_setScan_of (knd := intKind PW κ.w) hkey e rfl hf (by simpa using hel) ?_))))
  have hfind : List.findIdx? (fun e => (intKind PW κ.w).is k e.2) (ks.map ent).toArray.toList = ks.findIdx? (fun p => decide (k = p.1)) := by
    rw [List.toList_toArray]; exact find_ents ks k
  rw [hfind]
  have hmem : (ks.findIdx? (fun p => decide (k = p.1))).isSome = decide (k ∈ l) := by
    rw [List.findIdx?_isSome, Bool.eq_iff_iff, decide_eq_true_eq, ← S.perm.mem_iff, List.any_eq_true]
    constructor
    · rintro ⟨p, hp, h⟩; exact List.mem_map.mpr ⟨p, hp, (of_decide_eq_true h).symm⟩
    · intro h; obtain ⟨p, hp, h⟩ := List.mem_map.mp h; exact ⟨p, hp, by rw [h]; simp⟩
  cases hr : ks.findIdx? (fun p => decide (k = p.1)) with
  | some j =>
    have hk : k ∈ l := by rw [hr] at hmem; exact of_decide_eq_true hmem.symm
    dsimp only
    refine wpAny_pure (wpAny_pure ?_)
    have := q false s.heap _ (by rw [if_pos hk]; exact D) ⟨fun _ _ => rfl, e⟩
    exact this
  | none =>
    have hk : k ∉ l := by rw [hr] at hmem; exact of_decide_eq_false hmem.symm
    dsimp only
    have hq := fun b h' o' => q b h' o'
    simp only [if_neg hk] at hq
    have hperm := layNew_perm t (ks.map ent).toArray (hashInt k) (.int k u)
    have hfits := layNew_fits t (ks.map ent).toArray (hashInt k) (.int k u)
    have hrise := layNew_rising S.rise (ks.map ent).toArray (hashInt k) (.int k u)
    have hled := layNew_led t (ks.map ent).toArray (hashInt k) (.int k u)
    generalize layNew t (ks.map ent).toArray (hashInt k) (.int k u) = Ly at hperm hfits hrise hled ⊢
    obtain ⟨es1, t1, wasDummy, gave⟩ := Ly
    dsimp only at hperm hfits hrise hled ⊢
    have hperm' : es1.toList.Perm ((ks ++ [(k, u)]).map ent) := by
      rw [Array.toList_push, List.toList_toArray] at hperm
      rw [List.map_append]; exact hperm
    obtain ⟨p1, p2⟩ := ents_of_perm hperm'
    have hn1 : (es1.toList.map inv).length = ks.length + 1 := by rw [p2.length_eq]; simp
    have hsz1 : es1.size = ks.length + 1 := by have := hperm'.length_eq; simpa using this
    have h2 : ((ks ++ [(k, u)]).map (·.1)).Perm (l ++ [k]) := by
      rw [List.map_append]
      exact List.Perm.append_right [k] S.perm
    have T1 : ∀ {ks' : List (Int × Tok)} {t' : SetTable}, ks'.Perm (ks ++ [(k, u)]) → t'.fits ks'.length = true → Rising t'.place → t'.led = t.led → SetT κ.w (l ++ [k]) ks' t' := fun {ks' t'} hp hf hr hl =>
      ⟨(hp.map (·.1)).trans h2,
        by rw [List.nodup_append]; exact ⟨S.nodup, by simp, fun x hx y hy => by simp at hy; subst hy; exact fun e => hk (e ▸ hx)⟩, by simp; omega, hf, hr, by rw [hl]; exact S.led⟩
    have hgw : ∀ (b : Bool) {s₁ : Shared} {Q' : Unit → Shared → Prop}, Q' () s₁ → wpAny κ.M A (match b with | true => rule "set.scan.the-table-gave-way" | false => pure ()) Q' E s₁ :=
      fun b s₁ Q' hq => by cases b <;> first | exact wpAny_pure hq | exact wpAny_rule hq
    refine wpAny_bind (hgw _ ?_)
    have tail : ∀ t2 : SetTable, t2.fits es1.size = true → Rising t2.place → t2.led = t.led → wpAny κ.M A (do
        storeSet a es1 t2
        if (!wasDummy && t2.tooFull) = true then do
            (match (relayAll t2 es1 (SetTable.grown es1.size)).2.2 with | true => rule "set.scan.the-table-gave-way" | false => pure ())
            storeSet a (relayAll t2 es1 (SetTable.grown es1.size)).1 (relayAll t2 es1 (SetTable.grown es1.size)).2.1
            pure (some true)
          else pure (some true)) (fun r s' => ∃ h' o', r = some true ∧ SetO κ.w (l ++ [k]) o' ∧ Ch s.heap a o' h' ∧ s' = { s with heap := h' }) E s := fun t2 f2 r2 l2 => by
      refine wpAny_bind (wp_storeSet (ks' := es1.toList.map inv) (t' := t2) e (by rw [← p1]) (by omega) fun h1 c1 => ?_)
      have S1 : SetO κ.w (l ++ [k]) (sobj (es1.toList.map inv) (ep + 1) t2) := ⟨_, _, _, rfl, T1 p2 (by rw [hn1, ← hsz1]; exact f2) r2 l2⟩
      split
      · have rp := relayAll_perm t2 es1 (SetTable.grown es1.size)
        have rf := relayAll_fits t2 es1 (SetTable.grown es1.size)
        have rr := relayAll_facts (t := t2) es1 (SetTable.grown es1.size)
        generalize relayAll t2 es1 (SetTable.grown es1.size) = Rl at rp rf rr ⊢
        obtain ⟨es2, t3, g2⟩ := Rl
        dsimp only at rp rf rr ⊢
        obtain ⟨r1, r3⟩ := ents_of_perm (rp.trans hperm')
        have hn2 : (es2.toList.map inv).length = ks.length + 1 := by rw [r3.length_eq]; simp
        have hsz2 : es2.size = ks.length + 1 := by have := (rp.trans hperm').length_eq; simpa using this
        refine wpAny_bind (hgw _ ?_)
        refine wpAny_bind (wp_storeSet (ks' := es2.toList.map inv) (t' := t3) (s := { s with heap := h1 }) c1.at_ (by rw [← r1]) (by omega) fun h2 c2 => wpAny_pure ?_)
        exact ⟨h2, _, rfl, ⟨_, _, _, rfl, T1 r3 (by rw [hn2, ← hsz2]; exact rf) rr.1 (rr.2.trans l2)⟩, ⟨fun b hb => (c2.but b hb).trans (c1.but b hb), c2.at_⟩, rfl⟩
      · exact wpAny_pure ⟨h1, _, rfl, S1, c1, rfl⟩
    split
    · refine wpAny_bind ?_
      rw [hashByValue_scannable 8 rfl]
      refine wpAny_pure ?_
      refine wpAny_mono (tail _ ?_ ?_ ?_) (fun r s' z => ?_) fun _ _ z => z
      · exact hfits
      · exact hrise
      · exact hled
      · obtain ⟨h', o', rfl, a1, a2, rfl⟩ := z
        exact wpAny_pure (hq true h' o' a1 a2)
    · refine wpAny_bind (wpAny_pure ?_)
      simp only [if_true]
      refine wpAny_mono (tail _ hfits hrise hled) (fun r s' z => ?_) fun _ _ z => z
      obtain ⟨h', o', rfl, a1, a2, rfl⟩ := z
      exact wpAny_pure (hq true h' o' a1 a2)
theorem T_set_add {Q : Value → Heap → Prop} (D : SetO κ.w l o) (e : h.get? a = some o) (hz : l.length ≤ 900)
    (q : ∀ h' o', SetO κ.w (if k ∈ l then l else l ++ [k]) o' → Ch h a o' h' → Q .none h') : T κ (PySem.call (.builtin "set.add") [.ref a, .int k u]) Q h := fun d tk => by
  refine wpAny_call_entry F.slot_set_add (D.is PW e).typeIs F.entry_set_add ?_ (F.args_set_add_2 _ _)
  unfold Builtin.«set.add» Builtin.Frozenset.oneOther
  simp only [List.isEmpty_nil, bind_assoc]
  unfold Builtin.Frozenset.addrOf setAdd
  refine wpAny_bind (wpAny_pure ?_)
  try dsimp only
  refine wpAny_bind (wpAny_pure ?_)
  try dsimp only
  refine wpAny_bind (wpAny_holding (wpAny_bind (wpAny_pyHash_int ?_)))
  refine wp_add (s := ⟨h, κ.g, d, tk + 1, κ.os⟩) D e hz fun b h' o' D' c => ?_
  exact wpAny_pure ⟨_, rfl, rfl, rfl, q h' o' D' c⟩
end
end Mine
end
section
open PySem PySem.W PySem.Calls PyProof.Rows
set_option Elab.async false
set_option maxRecDepth 100000
set_option linter.all false
namespace Mine

theorem map_eraseIdx' {α β : Type} (f : α → β) : ∀ (l : List α) (i : Nat), (l.map f).eraseIdx i = (l.eraseIdx i).map f
  | [], _ => rfl
  | _ :: _, 0 => rfl
  | a :: r, i + 1 => congrArg (f a :: ·) (map_eraseIdx' f r i)
theorem erase_find : ∀ {ks : List (Int × Tok)} {k : Int} {i : Nat}, ks.findIdx? (fun p => decide (k = p.1)) = some i → (ks.eraseIdx i).map (·.1) = (ks.map (·.1)).erase k ∧ i < ks.length
  | [], _, _, h => by cases h
  | p :: r, k, i, h => by
    rw [List.findIdx?_cons] at h
    by_cases q : k = p.1
    · rw [decide_eq_true q] at h
      cases h
      subst q
      simp
    · rw [decide_eq_false q] at h
      simp only [Bool.false_eq_true, if_false, Option.map_eq_some_iff] at h
      obtain ⟨j, hj, rfl⟩ := h
      obtain ⟨a, b⟩ := erase_find hj
      refine ⟨?_, by simp; omega⟩
      rw [List.eraseIdx_cons_succ, List.map_cons, List.map_cons, a, List.erase_cons_tail]
      simpa using fun e => q e.symm
section
variable {κ : Kx} {h : Heap} {a : Addr} {o : Obj} {l : List Int} {k : Int} {u : Tok}
theorem wp_find {ks : List (Int × Tok)} {ep : Nat} {t : SetTable} {s : Shared} {A : Around} {E : Value → Shared → Prop} {Q : Option Nat → Shared → Prop} (S : SetT κ.w l ks t) (e : s.heap.get? a = some (sobj ks ep t))
    (q : Q (ks.findIdx? (fun p => decide (k = p.1))) s) : wpAny κ.M A (setFind a (.int k u) (hashInt k)) Q E s := by
  have hlen := S.len
  have hsm := S.small
  have hf : t.fits (ks.map ent).toArray.size = true := by simpa using S.fits
  have hel := elems_ents PW κ.w ks
  have hb : (ks.map ent).toArray.size < scanBound := by simp; unfold scanBound; omega
  have hkey : (intKind PW κ.w).is k (.int k u) = true := by show (k == k) = true; simp
  unfold setFind setFindIn
  refine wpAny_bind (wpAny_setState_of e rfl hf ?_)
  dsimp only
  rw [byScan_of (knd := intKind PW κ.w) rfl hb (by simpa using hel)]
  simp only [if_true]
  refine wpAny_bind (wpAny_rule (wpAny_bind (wpAny_setScan_of (knd := intKind PW κ.w) hkey e rfl hf (by simpa using hel) ?_)))
  have hfind : List.findIdx? (fun e => (intKind PW κ.w).is k e.2) (ks.map ent).toArray.toList = ks.findIdx? (fun p => decide (k = p.1)) := by
    rw [List.toList_toArray]; exact find_ents ks k
  rw [hfind]
  cases hr : ks.findIdx? (fun p => decide (k = p.1)) with
  | some j => rw [hr] at q; dsimp only; rw [Nat.zero_add]; exact wpAny_pure q
  | none => rw [hr] at q; exact wpAny_pure q
theorem T_set_remove {Q : Value → Heap → Prop} (D : SetO κ.w l o) (e : h.get? a = some o) (hk : k ∈ l)
    (q : ∀ h' o', SetO κ.w (l.erase k) o' → Ch h a o' h' → Q .none h') : T κ (PySem.call (.builtin "set.remove") [.ref a, .int k u]) Q h := fun d tk => by
  refine wpAny_call_entry F.slot_set_remove (D.is PW e).typeIs F.entry_set_remove ?_ (F.args_set_remove_2 _ _)
  obtain ⟨ks, ep, t, rfl, S⟩ := id D
  unfold Builtin.«set.remove» Builtin.Frozenset.oneOther
  simp only [List.isEmpty_nil, bind_assoc]
  unfold Builtin.Frozenset.addrOf Builtin.Frozenset.withSetAsKey setDiscard
  refine wpAny_bind (wpAny_pure ?_)
  try dsimp only
  refine wpAny_bind (wpAny_pure ?_)
  try dsimp only
  refine wpAny_bind (wpAny_tryCatch ?_)
  refine wpAny_holding (wpAny_bind (wpAny_pyHash_int ?_))
  unfold setDiscardHashed
  refine wpAny_bind (wp_find (s := ⟨h, κ.g, d, tk + 1, κ.os⟩) S e ?_)
  have hlen := S.len
  have hsm := S.small
  cases hr : ks.findIdx? (fun p => decide (k = p.1)) with
  | none =>
    rw [List.findIdx?_eq_none_iff] at hr
    obtain ⟨p, hp, e⟩ := List.mem_map.mp (S.perm.mem_iff.mpr hk)
    have := hr p hp
    rw [e] at this; simp at this
  | some i =>
    obtain ⟨e1, hi⟩ := erase_find hr
    have hf : t.fits (ks.map ent).toArray.size = true := by simpa using S.fits
    dsimp only
    refine wpAny_bind (wpAny_setState_of (s := ⟨h, κ.g, d, tk + 1, κ.os⟩) e rfl hf ?_)
    dsimp only
    obtain ⟨d1, d2, d3⟩ := drop_facts S.rise S.fits hi
    have hel : (ks.eraseIdx i).length = ks.length - 1 := by rw [List.length_eraseIdx, if_pos hi]
    refine wpAny_bind (wp_storeSet (ks' := ks.eraseIdx i) (t' := t.drop i) (s := ⟨h, κ.g, d, tk + 1, κ.os⟩) e ?_ (by omega) fun h' c => ?_)
    · apply Array.toList_inj.mp
      have : (SetTable.eraseAt (ks.map ent).toArray i).toList = (ks.map ent).take i ++ (ks.map ent).drop (i + 1) := by
        simp [SetTable.eraseAt, List.extract_eq_take_drop, List.take_of_length_le]
      rw [this, List.toList_toArray, ← List.eraseIdx_eq_take_drop_succ, map_eraseIdx']
    refine wpAny_bind (wpAny_point (wpAny_pure ?_))
    refine wpAny_pure ⟨_, rfl, rfl, rfl, q h' _ ⟨ks.eraseIdx i, ep + 1, t.drop i, rfl, ?_, S.nodup.erase k, ?_, ?_, d1, ?_⟩ c⟩
    · rw [e1]; exact S.perm.erase k
    · exact Nat.le_trans (List.length_erase_le) hsm
    · rw [hel]; exact d3
    · rw [d2]; exact S.led
/-- set() -/
theorem code_set_new' {A : Around} {E : Value → Shared → Prop} {s : Shared} {Q₁ : Value → Shared → Prop}
    (q : Q₁ (.ref s.heap.objs.size) { s with heap := s.heap.push (sobj [] 0 (.fresh 0 0 (!byText κ.w))) }) :
    codeAny κ.M A (.call (.builtin "set.__new__") ⟨[.type "set"], []⟩) (wants Q₁ E) s := by
  refine codeAny_of_tree ?_
  show wpAny _ A.in1 (do checkBuiltinCall "set.__new__" ⟨[.type "set"], []⟩; again (.builtin "set.__new__" ⟨[.type "set"], []⟩)) _ _ s
  refine wpAny_bind (wpAny_of_eq F.newCall_set_0 (wpAny_pure ⟨plainId_quiet F.plain_set_new _, codeAny_builtin F.entry_set_new ?_⟩))
  rw [Around.under_plainId F.plain_set_new _]
  unfold Builtin.«set.__new__» Builtin.Frozenset.newClass
  have hsub := sub_set_self
  obtain ⟨hp, g, d, tk, os⟩ := s
  dsimp only
  wp_walk
  refine wpAny_askSetting (wpAny_pure ?_)
  dsimp only
  simp only [newObj]
  exact wpAny_bind (wpAny_alloc (wpAny_pure (wpAny_pure q)))
theorem fresh_set (w : World) : SetO w [] (sobj [] 0 (.fresh 0 0 (!byText w))) :=
  ⟨[], 0, _, rfl, List.Perm.refl _, List.nodup_nil, by simp, rfl, (fun i j h1 h2 => by simp [SetTable.fresh] at h2), by cases byText w <;> simp [SetTable.fresh]⟩
end
end Mine
end
section
open PySem PySem.W PySem.Calls PyProof.Rows
set_option Elab.async false
set_option maxRecDepth 100000
set_option linter.all false
namespace Mine

section
variable {κ : Kx} {h : Heap} {a : Addr} {o : Obj} {l : List Int} {k : Int} {u : Tok}
set_option maxHeartbeats 1000000 in
theorem T_set_new {Q : Value → Heap → Prop} (q : ∀ b h' o', SetO κ.w [] o' → Nw h b o' h' → Q (.ref b) h') : T κ (PySem.call (.type "set") []) Q h := fun d tk => by
  obtain ⟨c, tl, hmro⟩ := F.called_set.mro
  have hmade := F.called_set.made
  have hsub := F.called_set.sub
  refine wpAny_call (codeAny_of_tree ?_)
  show wpAny _ _ (callAny (.type "set") _) _ _ _
  refine wpAny_pure ⟨Code.quiet_builtin _ (by decide +kernel), codeAny_builtin F.entry_type_call ?_⟩
  rw [Around.under_plain (weight_type_call_type "set" [] []) rfl]
  have h1 := F.called_set.notType
  have h2 := F.called_set.canCreate
  have hct := F.typeCall_set_0
  repeat (any_goals (first | assumption | wp_step))
  refine codeAny_mono (code_set_new' (κ := κ) (E := fun _ _ => False) (s := ⟨h, κ.g, d, tk, κ.os⟩) (Q₁ := fun obj s₁ => obj = .ref h.objs.size ∧ s₁ = ⟨h.push (sobj [] 0 (.fresh 0 0 (!byText κ.w))), κ.g, d, tk, κ.os⟩) ⟨rfl, rfl⟩) fun r s₁ hr => ?_
  cases r with
  | error e => exact hr
  | ok fl =>
    cases fl with
    | ret obj =>
      obtain ⟨rfl, rfl⟩ := hr
      have hS : (h.push (sobj [] 0 (.fresh 0 0 (!byText κ.w)))).get? h.objs.size = some (sobj [] 0 (.fresh 0 0 (!byText κ.w))) := Heap.get?_push_size _ rfl
      have hT : Shared.TypeIs ⟨h.push (sobj [] 0 (.fresh 0 0 (!byText κ.w))), κ.g, d, tk, κ.os⟩ (.ref h.objs.size) "set" := ⟨_, hS, rfl⟩
      have hli := F.called_set.init.lookup
      have hbi := F.called_set.init.bind (.ref h.objs.size)
      have hq := q _ _ _ (fresh_set κ.w) ⟨get_size_none h, hS, keep_push _ _⟩
      repeat (any_goals (first | assumption | wp_step))
      refine codeAny_mono (codeAny_call_builtin (R := wants (fun r s₂ => r = .none ∧ s₂.gens = κ.g ∧ s₂.os = κ.os ∧ Q (.ref h.objs.size) s₂.heap) (fun _ _ => False)) F.called_set.init.plain F.entry_set_init (check_set_init hT ?_)) fun r₂ s₂ hr₂ => ?_
      · unfold Builtin.«set.__init__» noKeywords
        wp_walk
        exact ⟨rfl, rfl, rfl, hq⟩
      · cases r₂ with
        | error e => exact hr₂
        | ok fl₂ =>
          cases fl₂ with
          | ret r =>
            obtain ⟨rfl, hq⟩ := hr₂
            repeat (any_goals (first | assumption | wp_step))
          | _ => exact hr₂.elim
    | _ => exact hr.elim
end
end Mine
end
section
open PySem PySem.W PySem.Calls PyProof.Rows
set_option Elab.async false
set_option maxRecDepth 100000
set_option linter.all false
namespace Mine

theorem slot_si_next : Slot "set_iterator" "__next__" "set_iterator.__next__" :=
  .of (owner := "set_iterator") (n := "__next__") (by rw [typeLookup_type, builtinLookup_eq_fast]; kernel_rfl) (by decide +kernel) (by decide +kernel) (by decide +kernel)
    (by first | exact .inl (by decide +kernel) | exact .inr (by decide +kernel)) (by rw [isSubtype_type]; kernel_rfl)
theorem slot_si_iter : Slot "set_iterator" "__iter__" "set_iterator.__iter__" :=
  .of (owner := "set_iterator") (n := "__iter__") (by rw [typeLookup_type, builtinLookup_eq_fast]; kernel_rfl) (by decide +kernel) (by decide +kernel) (by decide +kernel)
    (by first | exact .inl (by decide +kernel) | exact .inr (by decide +kernel)) (by rw [isSubtype_type]; kernel_rfl)
theorem entry_si_next : entryFor table "set_iterator.__next__" = some Builtin.«set_iterator.__next__» := entryFor_of_tree (by kernel_rfl)
theorem entry_si_iter : entryFor table "set_iterator.__iter__" = some Builtin.«dict_keyiterator.__iter__» :=
  entryFor_alias (id' := "dict_keyiterator.__iter__") (by kernel_rfl) rfl (by decide +kernel) (by kernel_rfl)
theorem entry_s_iter : entryFor table "set.__iter__" = some Builtin.«frozenset.__iter__» :=
  entryFor_alias (id' := "frozenset.__iter__") (by kernel_rfl) rfl (by decide +kernel) (by kernel_rfl)
theorem args_si_next (a : Value) : argsOk "set_iterator.__next__" ⟨[a], []⟩ := by unfold argsOk; kernel_rfl
theorem args_si_iter (a : Value) : argsOk "set_iterator.__iter__" ⟨[a], []⟩ := by unfold argsOk; kernel_rfl
theorem args_s_iter (a : Value) : argsOk "set.__iter__" ⟨[a], []⟩ := by unfold argsOk; kernel_rfl

/-! the drawn order, the text's order -/
theorem cons_erase {α : Type} : ∀ (l : List α) {i : Nat} (h : i < l.length), (l[i] :: l.eraseIdx i).Perm l
  | a :: r, 0, _ => .refl _
  | a :: r, i + 1, h => by
    simp only [List.getElem_cons_succ, List.eraseIdx_cons_succ]
    exact (List.Perm.swap _ _ _).trans (List.Perm.cons a (cons_erase r (by simpa using h)))
theorem wp_drawOrder {α : Type} {M : Model} {A : Around} {E : Value → Shared → Prop} : ∀ (n : Nat) (xs : List α) (s : Shared) (Q : List α → Shared → Prop), xs.length ≤ n →
    (∀ ys d, ys.Perm xs → Q ys { s with drawn := d }) → wpAny M A (drawOrder n xs) Q E s
  | 0, [], s, Q, _, q => wpAny_pure (q [] s.drawn (.refl _))
  | 0, _ :: _, s, Q, h, _ => absurd h (by simp)
  | n + 1, [], s, Q, _, q => wpAny_pure (q [] s.drawn (.refl _))
  | n + 1, x :: xs, s, Q, h, q => by
    unfold drawOrder
    refine wpAny_bind (fun Γ p hΓ => ?_)
    refine ⟨by simp, ?_⟩
    generalize hi : M.w.draws .order (s.drawn.get .order) % (x :: xs).length = i
    have hlt : i < (x :: xs).length := by rw [← hi]; exact Nat.mod_lt _ (by simp)
    show wpAny M A (match (x :: xs)[i]? with | some y => do return y :: (← drawOrder n ((x :: xs).eraseIdx i)) | none => unsupported "internal:drawOrder") Q E { s with drawn := s.drawn.bump .order }
    rw [List.getElem?_eq_getElem hlt]
    refine wpAny_bind (wp_drawOrder n _ _ _ (by rw [List.length_eraseIdx, if_pos hlt]; simp at h ⊢; omega) fun ys d hp => wpAny_pure (q _ d ?_))
    exact (List.Perm.cons _ hp).trans (by
      have := cons_erase _ hlt
      exact this)
theorem pickOrder_go {α : Type} (next : Nat → Nat) : ∀ (fuel k : Nat) (left : List α) (out : Array α), left.length ≤ fuel → (pickOrder.go next fuel k left out).toList.Perm (out.toList ++ left)
  | 0, _, [], out, _ => by simp [pickOrder.go]
  | 0, _, _ :: _, _, h => absurd h (by simp)
  | fuel + 1, k, [], out, _ => by simp [pickOrder.go]
  | fuel + 1, k, x :: xs, out, h => by
    unfold pickOrder.go
    have hlt : next k % (x :: xs).length < (x :: xs).length := Nat.mod_lt _ (by simp)
    rw [List.getElem?_eq_getElem hlt]
    dsimp only
    refine (pickOrder_go next fuel (k + 1) _ _ (by rw [List.length_eraseIdx, if_pos hlt]; simp at h ⊢; omega)).trans ?_
    rw [Array.toList_push, List.append_assoc]
    exact List.Perm.append_left _ (cons_erase _ hlt)
theorem pickOrder_perm {α : Type} (next : Nat → Nat) (xs : Array α) : (pickOrder next xs).toList.Perm xs.toList := by
  have := pickOrder_go next xs.size 0 xs.toList #[] (by simp)
  simpa [pickOrder] using this

def siObj (first : Value) (i : Nat) (a : Addr) (n ep : Nat) : Obj := { cls := .type "set_iterator", data := .fields #[first, .int i 0, .ref a, .int n 0, .int ep 0] }
def vals (js : List (Int × Tok)) : List Value := js.map fun p => .int p.1 p.2
def slotAt (t : SetTable) : Nat → Nat
  | 0 => 0
  | i + 1 => t.place.getD i 0 + 1
/-- what the iterator's first field says of the order -/
inductive Mode (w : World) (a : Addr) (ks : List (Int × Tok)) (ep : Nat) (t : SetTable) (js : List (Int × Tok)) : Ledger → (Nat → Value) → Prop
  | text : byText w = true → (pickOrder (w.params.setOrder a ep) (ks.map ent).toArray).toList = js.map ent → Mode w a ks ep t js [] (fun _ => .int 0 0)
  | places : byText w = false → t.led = true → (t.plain = true ∨ ks.length ≤ 1) → js = ks → Mode w a ks ep t js [] (fun i => .int (slotAt t i : Nat) 0)
  | drawn {T : Addr} {ps : List Nat} : byText w = false → ps.length = js.length → (∀ (i p : Nat), ps[i]? = some p → (ks[p]? = js[i]? ∧ p < ks.length)) →
      Mode w a ks ep t js [(T, { cls := .type "tuple", data := .seq ((ps.map fun (p : Nat) => Value.int (p : Int) 0).toArray) })] (fun _ => .ref T)
structure SiAt (w : World) (I a : Addr) (ks : List (Int × Tok)) (ep : Nat) (t : SetTable) (nd : Ledger) (first : Nat → Value) (i : Nat) (h : Heap) : Prop where
  it : h.get? I = some (siObj (first i) i a ks.length ep)
  set : h.get? a = some (sobj ks ep t)
  nd : ∀ p ∈ nd, h.get? p.1 = some p.2
theorem Mode.perm {w : World} {a : Addr} {ks : List (Int × Tok)} {ep : Nat} {t : SetTable} {js : List (Int × Tok)} {nd : Ledger} {f : Nat → Value} (m : Mode w a ks ep t js nd f) (hp : js.Perm ks) : js.length = ks.length := hp.length_eq
theorem si_type {I a : Addr} {x : Value} {i n ep : Nat} {s : Shared} (e : s.heap.get? I = some (siObj x i a n ep)) : s.TypeIs (.ref I) "set_iterator" := ⟨_, e, rfl⟩
end Mine
end
section
open PySem PySem.W PySem.Calls PyProof.Rows
set_option Elab.async false
set_option maxRecDepth 100000
set_option linter.all false
namespace Mine
section
variable {prog : Program} {w : World} {A : Around} {E : Value → Shared → Prop} {s : Shared} {I a : Addr} {ks js : List (Int × Tok)} {ep : Nat} {t : SetTable} {nd : Ledger} {first : Nat → Value} {i : Nat}
theorem wp_setsByText {Q : Bool → Shared → Prop} (h : Q (byText w) s) : wpAny (model prog w) A setsByText Q E s := by
  unfold setsByText
  exact wpAny_bind (wpAny_askSetting (wpAny_pure h))

theorem wp_setNext {nx gv e0 : Nat} {Q : Option (Value × Nat) → Shared → Prop} (hs : s.heap.get? a = some (sobj ks ep t)) (hf : t.fits ks.length = true)
    (q : (byText w = true ∧ e0 = ep ∧ Q (((pickOrder (w.params.setOrder a ep) (ks.map ent).toArray)[gv]?).map fun e => (e.2, nx)) s) ∨
      (byText w = false ∧ t.led = true ∧ (t.plain = true ∨ ks.length ≤ 1) ∧ Q (match (ks.map ent).toArray[SetTable.below t.place nx]?, t.place[SetTable.below t.place nx]? with
        | some (_, x), some j => some (x, j + 1)
        | _, _ => none) s)) : wpAny (model prog w) A (setNext a nx gv e0) Q E s := by
  have hf' : t.fits (ks.map ent).toArray.size = true := by simpa using hf
  unfold setNext
  refine wpAny_bind (wpAny_setState_of hs rfl hf' (wpAny_bind (wp_setsByText ?_)))
  rcases q with ⟨b, rfl, q⟩ | ⟨b, hl, hp, q⟩
  · rw [b]
    simp only [if_true, bne_self_eq_false, Bool.false_eq_true, if_false]
    unfold setWalk
    refine wpAny_bind (wpAny_bind (wpAny_setState_of hs rfl hf' (wpAny_bind (wp_setsByText ?_))))
    rw [b]
    simp only [if_true]
    exact wpAny_bind (wpAny_askSetting (wpAny_pure (wpAny_pure q)))
  · rw [b]
    simp only [Bool.false_eq_true, if_false]
    have hd : ¬ ((!t.plain && decide ((ks.map ent).toArray.size > 1)) = true) := by
      simp only [List.size_toArray, List.length_map, Bool.and_eq_true, Bool.not_eq_true', decide_eq_true_eq, not_and]
      rcases hp with hp | hp
      · intro h; rw [hp] at h; cases h
      · intro _; omega
    refine wpAny_ite_split (fun h => absurd h hd) fun _ => ?_
    refine wpAny_bind (wpAny_ite_split (fun h => ?_) fun _ => ?_)
    · exfalso; change (!t.led && !(ks.map ent).toArray.isEmpty) = true at h; rw [hl] at h; simp at h
    · exact wpAny_pure (wpAny_pure q)
end
end Mine
end
section
open PySem PySem.W PySem.Calls PyProof.Rows
set_option Elab.async false
set_option maxRecDepth 100000
set_option linter.all false
namespace Mine
section
variable {prog : Program} {w : World} {A : Around} {E : Value → Shared → Prop} {s : Shared} {I a : Addr} {l : List Int} {ks js : List (Int × Tok)} {ep : Nat} {t : SetTable} {nd : Ledger} {first : Nat → Value} {i : Nat}
theorem SiAt.keepBut {h h' : Heap} (st : SiAt w I a ks ep t nd first i h) {x : Nat → Value} {j : Nat} (e : h'.get? I = some (siObj (x j) j a ks.length ep)) (hne : a ≠ I) (hnd : ∀ p ∈ nd, p.1 ≠ I)
    (k : ∀ b, b ≠ I → h'.get? b = h.get? b) : SiAt w I a ks ep t nd x j h' := ⟨e, (k _ hne).trans st.set, fun p hp => (k _ (hnd p hp)).trans (st.nd p hp)⟩
theorem wp_si_item {k : Int} {tk : Tok} {Q : Option Value → Shared → Prop} (m : Mode w a ks ep t js nd first) (hp : js.Perm ks) (S : SetT w l ks t) (st : SiAt w I a ks ep t nd first i s.heap) (hne : a ≠ I) (hnd : ∀ p ∈ nd, p.1 ≠ I)
    (hj : js[i]? = some (k, tk)) (q : ∀ h', SiAt w I a ks ep t nd first (i + 1) h' → (∀ b, b ≠ I → h'.get? b = s.heap.get? b) → Q (some (.int k tk)) { s with heap := h' }) :
    wpAny (model prog w) A (pyNext (.ref I)) Q E s := by
  have hf : t.fits (ks.map ent).toArray.size = true := by simpa using S.fits
  have hlt : i < ks.length := by
    rw [← hp.length_eq]
    rcases Nat.lt_or_ge i js.length with h | h
    · exact h
    · simp [List.getElem?_eq_none h] at hj
  unfold pyNext
  refine wpAny_bind (wpAny_attempt (wpAny_callSpecial?_slot (name := Str.ofString "__next__") (si_type st.it) slot_si_next
    (wpAny_call_entry slot_si_next (si_type st.it) entry_si_next ?_ (args_si_next _))))
  show wpAny _ _ (fieldsOf (.ref I) >>= _) _ _ s
  refine wpAny_bind (wpAny_fieldsOf st.it rfl ?_)
  dsimp only
  refine wpAny_bind (wpAny_setEntries_of st.set rfl hf ?_)
  rw [if_neg (by simp)]
  refine wpAny_bind (wpAny_pure ?_)
  have fin : ∀ h', h'.get? I = some (siObj (first (i + 1)) (i + 1) a ks.length ep) → (∀ b, b ≠ I → h'.get? b = s.heap.get? b) → Q (some (.int k tk)) { s with heap := h' } := fun h' e1 e2 => q h' (st.keepBut e1 hne hnd e2) e2
  cases m with
  | text b e =>
    dsimp only
    refine wpAny_bind (wp_setNext st.set S.fits (.inl ⟨b, rfl, ?_⟩))
    have e1 : (pickOrder (w.params.setOrder a ep) (ks.map ent).toArray)[i]? = some (ent (k, tk)) := by
      rw [← Array.getElem?_toList, e, List.getElem?_map, hj]; rfl
    simp only [Int.toNat_natCast, e1, Option.map_some]
    refine wpAny_bind (wpAny_setField st.it rfl (by simp) ?_)
    have g1 := Heap.get?_update_self (Obj.mapFields (·.setIfInBounds 0 (rawInt (0 : Nat)))) st.it rfl
    refine wpAny_bind (wpAny_setField g1 rfl (by simp) ?_)
    have g2 := Heap.get?_update_self (Obj.mapFields (·.setIfInBounds 1 (rawInt ((i : Int) + 1)))) g1 rfl
    refine wpAny_pure ⟨_, rfl, wpAny_pure (fin _ g2 fun b hb => ?_)⟩
    exact (Heap.get?_update_other _ _ (Ne.symm hb)).trans (Heap.get?_update_other _ _ (Ne.symm hb))
  | places b hl hpl e =>
    subst e
    dsimp only
    refine wpAny_bind (wp_setNext st.set S.fits (.inr ⟨b, hl, hpl, ?_⟩))
    have hsz : t.place.size = js.length := by
      have := S.fits
      simp only [SetTable.fits, Bool.and_eq_true, beq_iff_eq] at this
      exact this.1
    have hb : SetTable.below t.place (((slotAt t i : Nat) : Int).toNat) = i := by
      rw [Int.toNat_natCast]
      cases i with
      | zero => exact below_zero S.rise
      | succ j => exact below_next S.rise (by omega)
    rw [hb]
    have e1 : (js.map ent).toArray[i]? = some (ent (k, tk)) := by
      rw [List.getElem?_toArray, List.getElem?_map, hj]; rfl
    have e2 : t.place[i]? = some (t.place.getD i 0) := by
      have : i < t.place.size := by omega
      simp [Array.getD, this]
    rw [e1, e2]
    dsimp only [ent]
    refine wpAny_bind (wpAny_setField st.it rfl (by simp) ?_)
    have g1 := Heap.get?_update_self (Obj.mapFields (·.setIfInBounds 0 (rawInt ((t.place.getD i 0 + 1 : Nat) : Int)))) st.it rfl
    refine wpAny_bind (wpAny_setField g1 rfl (by simp) ?_)
    have g2 := Heap.get?_update_self (Obj.mapFields (·.setIfInBounds 1 (rawInt ((i : Int) + 1)))) g1 rfl
    refine wpAny_pure ⟨_, rfl, wpAny_pure (fin _ g2 fun b hb => ?_)⟩
    exact (Heap.get?_update_other _ _ (Ne.symm hb)).trans (Heap.get?_update_other _ _ (Ne.symm hb))
  | @drawn T ps b e hps =>
    dsimp only
    have hT := st.nd _ (.head _)
    have hi : i < ps.length := by rw [e, hp.length_eq]; exact hlt
    have e1 : ps[i]? = some ps[i] := List.getElem?_eq_getElem hi
    obtain ⟨e2, e3⟩ := hps i _ e1
    refine wpAny_bind (wpAny_seqItems hT rfl ?_)
    dsimp only
    have e4 : (List.map (fun (p : Nat) => Value.int (p : Int) 0) ps).toArray[(i : Int).toNat]? = some (.int (ps[i] : Nat) 0) := by
      rw [Int.toNat_natCast, List.getElem?_toArray, List.getElem?_map, e1]; rfl
    rw [e4]
    dsimp only
    unfold setNextDrawn
    refine wpAny_bind (wpAny_bind (wpAny_setState_of st.set rfl hf ?_))
    dsimp only
    have e5 : (ks.map ent).toArray[((ps[i] : Nat) : Int).toNat]? = some (ent (k, tk)) := by
      rw [Int.toNat_natCast, List.getElem?_toArray, List.getElem?_map, e2, hj]; rfl
    rw [e5]
    simp only [Int.toNat_natCast, bne_self_eq_false, Bool.false_eq_true, if_false]
    refine wpAny_bind (wpAny_pure (wpAny_pure ?_))
    refine wpAny_bind (wpAny_setField st.it rfl (by simp) ?_)
    have g2 := Heap.get?_update_self (Obj.mapFields (·.setIfInBounds 1 (rawInt ((i : Int) + 1)))) st.it rfl
    refine wpAny_pure ⟨_, rfl, wpAny_pure (fin _ g2 fun b hb => ?_)⟩
    exact Heap.get?_update_other _ _ (Ne.symm hb)
end
end Mine
end
section
open PySem PySem.W PySem.Calls PyProof.Rows
set_option Elab.async false
set_option maxRecDepth 100000
set_option linter.all false
namespace Mine
section
variable {prog : Program} {w : World} {A : Around} {E : Value → Shared → Prop} {s : Shared} {I a : Addr} {l : List Int} {ks js : List (Int × Tok)} {ep : Nat} {t : SetTable} {nd : Ledger} {first : Nat → Value} {i : Nat}
theorem wp_stop {Q : Option Value → Shared → Prop} (hh : A.handled = none) (q : ∀ h', (∀ b o, s.heap.get? b = some o → h'.get? b = some o) → Q none { s with heap := h' }) :
    wpAny (model prog w) A.in1 (newExc (.type "StopIteration") [] >>= fun e => (raiseNew e : Sem Fin)) (fun fin s' => ∃ v, fin = Fin.done (Flow.ret v) ∧ wpAny (model prog w) A (pure (some v)) Q E s')
      (fun e s' => wpAny (model prog w) A (do if ← isInstance e (.type "StopIteration") then pure none else throw e) Q E s') s := by
  refine wpAny_bind ?_
  simp only [newExc, newTuple]
  refine wpAny_bind (wpAny_newObj_type ?_ (by size_fits))
  refine wpAny_bind (m := firstArgMember _ _) (wpAny_of_eq (a := Value.none) (by first | rfl | (simp only [firstArgMember]; rfl)) ?_)
  refine wpAny_newObj_type ?_ (by size_fits)
  simp only [raiseNew]
  refine wpAny_bind (wpAny_handled ?_)
  rw [show A.in1.handled = none from hh]
  refine wpAny_bind (wpAny_pure (wpAny_throw ?_))
  refine wpAny_bind (wpAny_isInstance (T := "StopIteration") (b := true) ⟨_, Heap.get?_push_size _ rfl, rfl⟩ isSubtype_stop ?_)
  exact wpAny_pure (q _ fun b o e => Heap.get?_push_of_some _ (Heap.get?_push_of_some _ e))
theorem wp_si_end {Q : Option Value → Shared → Prop} (hh : A.handled = none) (m : Mode w a ks ep t js nd first) (hp : js.Perm ks) (S : SetT w l ks t) (st : SiAt w I a ks ep t nd first js.length s.heap)
    (q : ∀ h', (∀ b o, b ≠ I → s.heap.get? b = some o → h'.get? b = some o) → Q none { s with heap := h' }) :
    wpAny (model prog w) A (pyNext (.ref I)) Q E s := by
  have hf : t.fits (ks.map ent).toArray.size = true := by simpa using S.fits
  have hlen := hp.length_eq
  unfold pyNext
  refine wpAny_bind (wpAny_attempt (wpAny_callSpecial?_slot (name := Str.ofString "__next__") (si_type st.it) slot_si_next
    (wpAny_call_entry slot_si_next (si_type st.it) entry_si_next ?_ (args_si_next _))))
  show wpAny _ _ (fieldsOf (.ref I) >>= _) _ _ s
  refine wpAny_bind (wpAny_fieldsOf st.it rfl ?_)
  dsimp only
  refine wpAny_bind (wpAny_setEntries_of st.set rfl hf ?_)
  rw [if_neg (by simp)]
  refine wpAny_bind (wpAny_pure ?_)
  cases m with
  | text b e =>
    dsimp only
    refine wpAny_bind (wp_setNext st.set S.fits (.inl ⟨b, rfl, ?_⟩))
    have e1 : (pickOrder (w.params.setOrder a ep) (ks.map ent).toArray)[js.length]? = none := by
      rw [← Array.getElem?_toList, e, List.getElem?_map, List.getElem?_eq_none (Nat.le_refl _)]; rfl
    simp only [Int.toNat_natCast, e1, Option.map_none]
    refine wpAny_bind (wpAny_setField st.it rfl (by simp) ?_)
    refine wp_stop hh fun h' k => q h' fun b o hb e => k b o ((Heap.get?_update_other _ _ (Ne.symm hb)).trans e)
  | places b hl hpl e =>
    subst e
    dsimp only
    refine wpAny_bind (wp_setNext st.set S.fits (.inr ⟨b, hl, hpl, ?_⟩))
    have hsz : t.place.size = js.length := by
      have := S.fits
      simp only [SetTable.fits, Bool.and_eq_true, beq_iff_eq] at this
      exact this.1
    have hb : SetTable.below t.place (((slotAt t js.length : Nat) : Int).toNat) = js.length := by
      rw [Int.toNat_natCast]
      cases hc : js.length with
      | zero => exact below_zero S.rise
      | succ j => exact below_next S.rise (by omega)
    rw [hb]
    have e1 : (js.map ent).toArray[js.length]? = none := by
      rw [List.getElem?_toArray, List.getElem?_map, List.getElem?_eq_none (Nat.le_refl _)]; rfl
    rw [e1]
    dsimp only
    refine wpAny_bind (wpAny_setField st.it rfl (by simp) ?_)
    refine wp_stop hh fun h' k => q h' fun b o hb e => k b o ((Heap.get?_update_other _ _ (Ne.symm hb)).trans e)
  | @drawn T ps b e hps =>
    dsimp only
    have hT := st.nd _ (.head _)
    refine wpAny_bind (wpAny_seqItems hT rfl ?_)
    dsimp only
    have e4 : (List.map (fun (p : Nat) => Value.int (p : Int) 0) ps).toArray[((js.length : Nat) : Int).toNat]? = none := by
      rw [Int.toNat_natCast, List.getElem?_toArray, List.getElem?_map, List.getElem?_eq_none (by omega)]; rfl
    rw [e4]
    dsimp only
    refine wpAny_bind (wpAny_setField st.it rfl (by simp) ?_)
    have g1 := Heap.get?_update_self (Obj.mapFields (·.setIfInBounds 0 (rawInt 0))) st.it rfl
    refine wpAny_bind (wpAny_setField g1 rfl (by simp [siObj, Obj.mapFields]) ?_)
    refine wp_stop hh fun h' k => q h' fun b o hb e => k b o ((Heap.get?_update_other _ _ (Ne.symm hb)).trans ((Heap.get?_update_other _ _ (Ne.symm hb)).trans e))
theorem si_self {Q : Value → Shared → Prop} {x : Value} {n : Nat} (e : s.heap.get? I = some (siObj x i a n ep)) (q : Q (.ref I) s) : wpAny (model prog w) A (pyIter (.ref I)) Q E s := by
  refine wpAny_pyIter_slot (si_type e) slot_si_iter (wpAny_call_entry slot_si_iter (si_type e) entry_si_iter ?_ (args_si_iter _))
  exact wpAny_pure ⟨_, rfl, "set_iterator", _, si_type e, slot_si_next.lookup, q⟩
theorem walks_set (hh : A.handled = none) (m : Mode w a ks ep t js nd first) (hp : js.Perm ks) (S : SetT w l ks t) (hne : a ≠ I) (hnd : ∀ p ∈ nd, p.1 ≠ I) (o : Obj) :
    Walks prog w A I (I :: ((a, o) :: nd).map (·.1)) [I] js.length (fun i v => (vals js)[i]? = some v) (fun i h => SiAt w I a ks ep t nd first i h) where
  sub := fun b hb => by simp at hb; simp [hb]
  frame := fun i h h' st k => ⟨k _ (.head _) _ st.it, k _ (.tail _ (.head _)) _ st.set, fun p hp => k _ (.tail _ (.tail _ (List.mem_map_of_mem hp))) _ (st.nd p hp)⟩
  item := fun i s Q E hi st hQ => by
    obtain ⟨⟨k, tk⟩, hj⟩ : ∃ p, js[i]? = some p := ⟨js[i], by simp [hi]⟩
    refine wp_si_item m hp S st hne hnd hj fun h' st' hk => hQ _ h' s.toks ?_ st' fun b o hb e => (hk b fun h => hb (by simp [h])).trans e
    show (vals js)[i]? = _
    unfold vals; rw [List.getElem?_map, hj]; rfl
  done := fun s Q E st hQ => wp_si_end hh m hp S st fun h' hk => hQ h' s.toks fun b o hb e => hk b o (fun h => hb (by simp [h])) e
  self := fun i s Q E st hQ => si_self st.it hQ
end
section
variable {κ : Kx} {h : Heap} {a : Addr} {o : Obj} {l : List Int}
theorem T_iter_set {Q : Value → Heap → Prop} (hh : κ.A.handled = none) (D : SetO κ.w l o) (e : h.get? a = some o)
    (q : ∀ I h' js, (js.map (·.1)).Perm l → ItNew κ h I [(a, o)] js.length (fun i v => (vals js)[i]? = some v) h' → Q (.ref I) h') : T κ (pyIter (.ref a)) Q h := fun d tk => by
  obtain ⟨ks, ep, t, rfl, S⟩ := D
  have hT : (⟨h, κ.g, d, tk, κ.os⟩ : Shared).TypeIs (.ref a) "set" := ⟨_, e, rfl⟩
  have hf : t.fits (ks.map ent).toArray.size = true := by simpa using S.fits
  refine wpAny_pyIter_slot hT F.slot_set_iter (wpAny_call_entry F.slot_set_iter hT entry_s_iter ?_ (args_s_iter _))
  have hlt : a < h.objs.size := Heap.lt_size e
  have hq : ∀ {I : Addr} {h' : Heap} {js : List (Int × Tok)} {nd : Ledger} {first : Nat → Value}, Mode κ.w a ks ep t js nd first → js.Perm ks → h.get? I = none → Keep h h' → (∀ p ∈ nd, h.get? p.1 = none ∧ h'.get? p.1 = some p.2 ∧ p.1 ≠ I) →
      h'.get? I = some (siObj (first 0) 0 a ks.length ep) → Q (.ref I) h' := fun {I h' js nd first} m hp hI hk hnd hit => by
    have hne : a ≠ I := fun q => by rw [q, hI] at e; cases e
    refine q I h' js ((hp.map _).trans S.perm) ⟨hI, hk, nd, fun i h => SiAt κ.w I a ks ep t nd first i h, hnd, ⟨?_, fun i h' st => ⟨_, st.it⟩⟩, ⟨hit, hk _ _ e, fun p hp => (hnd p hp).2.1⟩⟩
    exact walks_set hh m hp S hne (fun p hp => (hnd p hp).2.2) _
  show wpAny _ _ (Builtin.Frozenset.sizeOf a >>= _) _ _ _
  unfold Builtin.Frozenset.sizeOf
  refine wpAny_bind (wpAny_bind (wpAny_setEntries_of e rfl hf (wpAny_pure ?_)))
  unfold setDrawn
  refine wpAny_bind (wpAny_bind (wpAny_setState_of e rfl hf (wpAny_bind (wp_setsByText (wpAny_pure ?_)))))
  have hsz : (ks.map ent).toArray.size = ks.length := by simp
  refine wpAny_ite_split (fun hd => ?_) (fun hd => ?_)
  · replace hd : (!byText κ.w && (!t.plain && decide ((ks.map ent).toArray.size > 1))) = true := hd
    have hb : byText κ.w = false := by cases hx : byText κ.w <;> simp_all
    refine wpAny_bind (wp_drawOrder _ _ _ _ (by simp) fun ys d' hp => wpAny_bind ?_)
    have hys : ys.length = ks.length := by rw [hp.length_eq]; simp
    have hle : ks.length ≤ 1000 := by rw [S.len]; exact S.small
    unfold newTuple
    refine wpAny_newObj_type ?_ (by show (List.map _ ys).toArray.size ≤ _; simp only [List.size_toArray, List.length_map]; rw [hys, sizeLine_eq]; omega)
    refine wpAny_bind (wpAny_setEpoch_of (es := (ks.map ent).toArray) (ep := ep) (t := t) (Heap.get?_push_of_some _ e) rfl hf (wpAny_bind ?_))
    rw [hsz]
    refine wpAny_newObj_type (wpAny_pure ?_) (by size_fits)
    have hI := Heap.get?_push_size ((h.push { cls := .type "tuple", data := .seq (List.map (fun (p : Nat) => Value.int (p : Int) 0) ys).toArray })) (o := siObj (.ref h.objs.size) 0 a ks.length ep) rfl
    refine ⟨_, rfl, "set_iterator", _, ⟨_, Heap.get?_push_size _ rfl, rfl⟩, slot_si_next.lookup, rfl, rfl, ?_⟩
    have hys2 : ∀ p ∈ ys, p < ks.length := fun p hp' => by have := (hp.mem_iff).mp hp'; simpa using this
    refine hq (js := ys.map fun p => ks.getD p (0, 0)) (Mode.drawn (T := h.objs.size) (ps := ys) hb (by simp) fun i p hip => ?_) ?_ ?_ ?_ ?_ ?_
    · have hm := hys2 p (List.mem_of_getElem? hip)
      refine ⟨?_, hm⟩
      rw [List.getElem?_map, hip]
      simp [hm]
    · rw [hsz] at hp
      have e1 := hp.map fun p => ks.getD p (0, 0)
      have e2 : (List.range ks.length).map (fun p => ks.getD p (0, 0)) = ks := by
        apply List.ext_getElem
        · simp
        · intro i h1 h2
          simp [h2]
      rw [e2] at e1; exact e1
    · have hg : (h.push { cls := .type "tuple", data := .seq (List.map (fun (p : Nat) => Value.int (p : Int) 0) ys).toArray }).objs.size = h.objs.size + 1 := by simp [Heap.push]
      cases hc : h.get? (h.objs.size + 1) with
      | none => exact (congrArg _ hg).trans hc
      | some o => exact absurd (Heap.lt_size hc) (Nat.not_lt.mpr (Nat.le_succ _))
    · exact (keep_push _ _).trans (keep_push _ _)
    · intro p hp'
      rw [List.mem_singleton.mp hp']
      exact ⟨get_size_none h, Heap.get?_push_of_some _ (Heap.get?_push_size _ rfl), by simp [Heap.push]⟩
    · exact Heap.get?_push_size _ rfl
  · replace hd : ¬ (!byText κ.w && (!t.plain && decide ((ks.map ent).toArray.size > 1))) = true := hd
    refine wpAny_bind (wpAny_pure ?_)
    refine wpAny_bind (wpAny_setEpoch_of (es := (ks.map ent).toArray) (ep := ep) (t := t) e rfl hf (wpAny_bind ?_))
    rw [hsz]
    refine wpAny_newObj_type (wpAny_pure ?_) (by size_fits)
    refine ⟨_, rfl, "set_iterator", _, ⟨_, Heap.get?_push_size _ rfl, rfl⟩, slot_si_next.lookup, rfl, rfl, ?_⟩
    cases hb : byText κ.w with
    | true =>
      have hp := pickOrder_perm (κ.w.params.setOrder a ep) (ks.map ent).toArray
      obtain ⟨p1, p2⟩ := ents_of_perm (ks := ks) hp
      exact hq (Mode.text hb p1) p2 (get_size_none h) (keep_push _ _) (fun p hp => nomatch hp) (Heap.get?_push_size _ rfl)
    | false =>
      have hl : t.led = true := by rcases S.led with q | q; rw [hb] at q; cases q; exact q
      refine hq (Mode.places hb hl ?_ rfl) (.refl _) (get_size_none h) (keep_push _ _) (fun p hp => nomatch hp) (Heap.get?_push_size _ rfl)
      rw [hb] at hd
      cases hpl : t.plain with
      | true => exact .inl rfl
      | false => right; rw [hpl] at hd; simp at hd; omega
end
end Mine
end
section
open PySem PySem.W PySem.Calls PyProof.Rows
set_option Elab.async false
set_option maxRecDepth 100000
set_option linter.all false
namespace Mine
section
variable {prog : Program} {w : World} {A : Around} {E : Value → Shared → Prop} {s : Shared} {r : Addr} {Q : Bool → Shared → Prop}
theorem hint_set (hT : s.TypeIs (.ref r) "set") (h : Q false s) : wpAny (model prog w) A (Builtin.List.listLengthHint (.ref r)) Q E s := by
  unfold Builtin.List.listLengthHint
  refine wpAny_bind (wpAny_specialOf hT PySem.F.slot_set_len.lookup ?_)
  generalize hid : ("set.__len__" : String) = id0
  wp_delta
  rw [show splitId id0 = some ("set", "__len__") from by subst hid; decide +kernel]
  subst hid
  refine wpAny_bind (wpAny_isInstance (T := "set") (b := true) hT (by rw [isSubtype_type]; kernel_rfl) ?_)
  refine wpAny_ite_split (fun hab => absurd hab (by decide)) (fun _ => ?_)
  refine wpAny_ite_split (fun _ => ?_) (fun hab => absurd (by decide +kernel) hab)
  refine wpAny_bind (wpAny_typeOf hT ?_)
  exact wpAny_pure h
end
theorem items_of {js : List (Int × Tok)} {acc : Array Value} (x : ItemsOf (fun i v => (vals js)[i]? = some v) acc js.length) : acc.toList = vals js := by
  apply List.ext_getElem?
  intro i
  cases hc : acc.toList[i]? with
  | some v => exact (x.2 i v (by rw [← Array.getElem?_toList]; exact hc)).symm
  | none =>
    have h1 := List.getElem?_eq_none_iff.mp hc
    have h2 : acc.toList.length = js.length := by rw [Array.length_toList]; exact x.1
    have : (vals js).length ≤ i := by unfold vals; simp; omega
    rw [List.getElem?_eq_none this]
section
variable {κ : Kx} {a : Addr} {o : Obj} {l : List Int} {s : Shared}
theorem set_extend {R : Result → Shared → Prop} (hh : κ.A.handled = none) (hg : s.gens = κ.g) (hos : s.os = κ.os) (D : SetO κ.w l o) (e : s.heap.get? a = some o) (S : Addr) (hSa : S ≠ a) (res : Value) (hS : s.heap.get? S = some (lso [] 0))
    (hR : ∀ h' tk d js o', (js.map (·.1)).Perm l → LsO (vals js) o' → (∀ b o, b ≠ S → s.heap.get? b = some o → h'.get? b = some o) → h'.get? S = some o' → R (.ok (.ret res)) ⟨h', κ.g, d, tk, κ.os⟩) :
    wpAny κ.M κ.A.in1 (Builtin.List.listExtendWith (.ref S) (.ref a) res)
      (fun fin s' => match fin with | .done f => R (.ok f) s' | .again c' => c'.quiet = true ∧ codeAny κ.M κ.A c' R s') (fun e s' => R (.error e) s') s := by
  have hT : ∀ {s' : Shared}, s'.heap.get? a = some o → s'.TypeIs (.ref a) "set" := fun {s'} q => by obtain ⟨_, _, _, rfl, _⟩ := D; exact ⟨_, q, rfl⟩
  have hz : l.length ≤ 1000 := by obtain ⟨_, _, _, _, x⟩ := id D; exact x.small
  unfold Builtin.List.listExtendWith
  refine wpAny_bind (wpAny_typeOf (T := "set") (hT e) ?_)
  have h1 : Builtin.List.listSameRef (.ref S) (.ref a) = false := by simp [Builtin.List.listSameRef, hSa]
  simp only [h1, show (Value.type "set" == Value.type "list") = false by decide, show (Value.type "set" == Value.type "tuple") = false by decide, Bool.or_false, Bool.false_eq_true, if_false]
  refine wpAny_bind ((T_iter_set (κ := κ.in1) (Q := fun v h' => ∃ I js, v = .ref I ∧ (js.map (·.1)).Perm l ∧ ItNew κ.in1 s.heap I [(a, o)] js.length (fun i v => (vals js)[i]? = some v) h') hh D e (fun I h' js hp it => ⟨I, js, rfl, hp, it⟩)).use (s := s) hg hos fun v s₁ g1 o1 z => ?_)
  obtain ⟨I, js, rfl, hp, hI, hk, nd, Z, hnd, W, hz0⟩ := z
  refine wpAny_bind (wpAny_holding (hint_set (hT (hk _ _ e)) ?_))
  have hS1 := hk _ _ hS
  have hSf : S ∉ I :: ((([(a, o)] : Ledger) ++ nd).map (·.1)) := fun hm => by
    rcases List.mem_cons.mp hm with e' | hm
    · rw [← e', hS] at hI; cases hI
    · obtain ⟨p, hp', e'⟩ := List.mem_map.mp hm
      rcases List.mem_append.mp hp' with q | q
      · rw [List.mem_singleton.mp q] at e'; exact hSa e'.symm
      · have := (hnd p q).1; rw [e', hS] at this; cases this
  have key : ∀ (h : Heap) (c₁ tk : Nat) (d : Drawn), Z 0 h → (∀ b o, b ≠ S → s.heap.get? b = some o → h.get? b = some o) → h.get? S = some { cls := .type "list", data := .seq #[] c₁ } →
      codeAny κ.M κ.A (.builtin "list.extend.loop" ⟨[.ref S, .ref I, res], []⟩) R ⟨h, κ.g, d, tk, κ.os⟩ := by
    intro h c₁ tk d hst hk' hS₁
    refine codeAny_extend_loopS W.walks.toS (by have := hp.length_eq; rw [List.length_map] at this; rw [sizeLine_eq]; omega) S hSf res js.length 0 _ #[] c₁ rfl (Nat.zero_le _) hst hS₁ (ItemsOf.nil _) fun s' acc' c' hm hS' hacc => ?_
    rw [Moved.eq_with hm]
    refine hR s'.heap s'.toks d js _ hp ⟨c', ?_⟩ (fun b o hb e => hm.heap b o (fun hmem => ?_) (hk' b o hb e)) hS'
    · rw [← items_of hacc]
      show _ = ({ cls := .type "list", data := .seq acc'.toList.toArray c' } : Obj)
      rw [Array.toArray_toList]
    · rcases List.mem_cons.mp hmem with e' | hmem
      · exact hb e'
      · rw [List.mem_singleton.mp hmem, hI] at e; cases e
  obtain ⟨h1', g1', d1, t1, os1⟩ := s₁
  dsimp only at g1 o1 hI hk hnd hz0 hS1
  subst g1 o1
  refine wpAny_ite_split (fun _ => ?_) (fun _ => wpAny_pure ⟨plainId_quiet PySem.F.plain_extend_loop _, key _ 0 _ _ hz0 (fun b o _ e => hk b o e) hS1⟩)
  refine wpAny_bind (wpAny_rule ?_)
  refine wpAny_bind ?_
  show wpAny _ _ (updateSeq S (·.push .none) >>= fun _ => updateSeq S (·.pop)) _ _ _
  refine wpAny_bind (wpAny_updateSeq hS1 rfl ?_)
  have hS₂ := Heap.get?_update_self (Obj.mapSeq (·.push Value.none)) hS1 rfl
  refine wpAny_updateSeq (hz := by seq_fits) hS₂ rfl ?_
  have hS₃ := Heap.get?_update_self (Obj.mapSeq (·.pop)) hS₂ rfl
  refine wpAny_pure ⟨plainId_quiet PySem.F.plain_extend_loop _, key _ _ _ _ ?_ (fun b o hb e => ?_) hS₃⟩
  · refine W.walks.frame 0 _ _ hz0 fun b hb o e => ?_
    have hbS : b ≠ S := fun h => hSf (h ▸ hb)
    exact (Heap.get?_update_other _ _ (Ne.symm hbS)).trans ((Heap.get?_update_other _ _ (Ne.symm hbS)).trans e)
  · exact (Heap.get?_update_other _ _ (Ne.symm hb)).trans ((Heap.get?_update_other _ _ (Ne.symm hb)).trans (hk _ _ e))
end
section
variable {κ : Kx} {h : Heap} {a : Addr} {o : Obj} {l : List Int}
theorem T_collect_set {Q : List Value → Heap → Prop} (hh : κ.A.handled = none) (D : SetO κ.w l o) (e : h.get? a = some o)
    (q : ∀ h' js, (js.map (·.1)).Perm l → Keep h h' → Q (vals js) h') : T κ (collect (.ref a)) Q h := fun d tk => by
  have hlt := Heap.lt_size e
  unfold collect
  refine wpAny_bind (wpAny_runValue (codeAny_builtin entry_proto_collect' ?_))
  rw [Around.under_plainId PySem.F.plain_proto_collect _]
  show wpAny _ κ.A.in1 (newList [] >>= fun l => again (.builtin "list.__iadd__" ⟨[l, .ref a], []⟩)) _ _ _
  refine wpAny_bind (wpAny_newObj_type ?_)
  refine wpAny_pure ⟨plainId_quiet PySem.F.plain_list_iadd _, codeAny_builtin entry_list_iadd' ?_⟩
  rw [Around.under_plainId PySem.F.plain_list_iadd _]
  have hS₁ : (h.push (lso [] 0)).get? h.objs.size = some (lso [] 0) := Heap.get?_push_size _ rfl
  show wpAny _ κ.A.in1 (Builtin.List.listExtendWith (.ref h.objs.size) (.ref a) (.ref h.objs.size)) _ _ _
  have key := set_extend (κ := κ) (s := ⟨h.push (lso [] 0), κ.g, d, tk, κ.os⟩)
    (R := fun (q : Result) (s' : Shared) => ∃ (h' : Heap) (tk : Nat) (d : Drawn) (js : List (Int × Tok)) (o' : Obj), q = .ok (.ret (.ref h.objs.size)) ∧ s' = ⟨h', κ.g, d, tk, κ.os⟩ ∧
      (js.map (·.1)).Perm l ∧ LsO (vals js) o' ∧ Keep h h' ∧ h'.get? h.objs.size = some o')
    hh rfl rfl D (Heap.get?_push_of_some _ e) h.objs.size (Nat.ne_of_gt hlt) (.ref h.objs.size) hS₁
    (fun h' tk d js o' hp hL hk hS' => ⟨h', tk, d, js, o', rfl, rfl, hp, hL, fun b o e => hk b o (Nat.ne_of_lt (Heap.lt_size e)) (Heap.get?_push_of_some _ e), hS'⟩)
  refine wpAny_mono key (fun f s' x => ?_) fun e s' x => ?_
  · cases f with
    | done f =>
      obtain ⟨h', tk, d, js, o', e, rfl, hp, ⟨n, rfl⟩, hk, hS'⟩ := x
      cases e
      show wpAny _ κ.A (load h.objs.size >>= _) _ _ _
      refine wpAny_bind (wpAny_load hS' ?_)
      exact wpAny_pure ⟨rfl, rfl, q h' js hp hk⟩
    | again c₁ =>
      refine ⟨x.1, codeAny_mono x.2 fun r s₂ y => ?_⟩
      obtain ⟨h', tk, d, js, o', rfl, rfl, hp, ⟨n, rfl⟩, hk, hS'⟩ := y
      show wpAny _ κ.A (load h.objs.size >>= _) _ _ _
      refine wpAny_bind (wpAny_load hS' ?_)
      exact wpAny_pure ⟨rfl, rfl, q h' js hp hk⟩
  · obtain ⟨_, _, _, _, _, e', _⟩ := x
    cases e'
end
end Mine
end
section
open PySem PySem.W PySem.Calls PyProof.Rows
set_option Elab.async false
set_option maxRecDepth 100000
set_option linter.all false
namespace Mine
def IntsO (ns : List Int) (o : Obj) : Prop := ∃ vs, LsO vs o ∧ IntsAre vs ns
theorem ints_vals (js : List (Int × Tok)) : IntsAre (vals js) (js.map (·.1)) := by
  induction js with
  | nil => exact .nil
  | cons p r ih => exact .cons _ _ ih
theorem ints_at {vs : List Value} {ns : List Int} (x : IntsAre vs ns) : ∀ {i : Nat} {n : Int}, ns[i]? = some n → ∃ t, vs[i]? = some (.int n t) := by
  induction x with
  | nil => intro i n h; simp at h
  | cons m t x ih =>
    intro i n h
    cases i with
    | zero => simp at h; subst h; exact ⟨t, rfl⟩
    | succ i => simpa using ih (i := i) (by simpa using h)
theorem ints_of_at {vs : List Value} {ns : List Int} (x : IntsAre vs ns) {i : Nat} {v : Value} (h : vs[i]? = some v) : ∃ n t, ns[i]? = some n ∧ v = .int n t := by
  have hl := x.length
  have hi : i < vs.length := by
    rcases Nat.lt_or_ge i vs.length with q | q
    · exact q
    · rw [List.getElem?_eq_none q] at h; cases h
  have hn : i < ns.length := by omega
  obtain ⟨t, ht⟩ := ints_at x (List.getElem?_eq_getElem hn)
  rw [ht] at h; cases h
  exact ⟨_, _, List.getElem?_eq_getElem hn, rfl⟩
theorem ints_app {vs us : List Value} {ns ms : List Int} (x : IntsAre vs ns) (y : IntsAre us ms) : IntsAre (vs ++ us) (ns ++ ms) := by
  induction x with
  | nil => exact y
  | cons n t x ih => exact .cons n t ih
theorem ints_of_fun {f : Nat → Int} : ∀ {vs : List Value} {k : Nat}, (∀ (j : Nat) v, vs[j]? = some v → ∃ t, v = .int (f (k + j)) t) → IntsAre vs ((List.range' k vs.length).map f)
  | [], k, _ => .nil
  | v :: r, k, h => by
    obtain ⟨t, rfl⟩ := h 0 v rfl
    rw [List.length_cons, List.range'_succ, List.map_cons]
    refine .cons _ t (ints_of_fun fun j v hv => ?_)
    obtain ⟨t, e⟩ := h (j + 1) v (by simpa using hv)
    exact ⟨t, by rw [e]; congr 2; omega⟩
section
variable {κ : Kx} {h : Heap} {a : Addr} {o : Obj} {l : List Int}
theorem T_list_set {Q : Value → Heap → Prop} (hh : κ.A.handled = none) (D : SetO κ.w l o) (e : h.get? a = some o)
    (q : ∀ r h' js o', (js.map (·.1)).Perm l → LsO (vals js) o' → Nw h r o' h' → Q (.ref r) h') : T κ (PySem.call (.type "list") [.ref a]) Q h := fun d tk => by
  have hlt := Heap.lt_size e
  refine callType_codes (s := ⟨h, κ.g, d, tk, κ.os⟩) (Q₁ := fun obj s₁ => obj = .ref h.objs.size ∧ s₁ = ⟨h.push (lso [] 0), κ.g, d, tk, κ.os⟩) PySem.F.called_list (PySem.F.typeCall_list_1 _) PySem.F.entry_list_init
    (code_list_new _ ⟨rfl, rfl⟩) fun obj s₁ h₁ => ?_
  obtain ⟨rfl, rfl⟩ := h₁
  have hS : (h.push (lso [] 0)).get? h.objs.size = some (lso [] 0) := Heap.get?_push_size _ rfl
  refine ⟨⟨_, hS, rfl⟩, PySem.F.args_list_init_2 _ _, ?_⟩
  show wpAny _ _ (do let old ← Builtin.List.listItems (.ref h.objs.size); Builtin.List.listUpdate (.ref h.objs.size) (fun _ => #[]); letGo old.toList.reverse; Builtin.List.listExtendWith (.ref h.objs.size) (.ref a) .none) _ _ _
  refine wpAny_bind ?_
  unfold Builtin.List.listItems
  refine wpAny_bind (wpAny_seqItems hS rfl (wpAny_pure ?_))
  show wpAny _ _ (updateSeq h.objs.size (fun _ => #[]) >>= fun _ => letGo (#[] : Array Value).toList.reverse >>= fun _ => Builtin.List.listExtendWith (.ref h.objs.size) (.ref a) .none) _ _ _
  refine wpAny_bind (wpAny_updateSeq hS rfl ?_)
  have hS₂ := Heap.get?_update_self (Obj.mapSeq (fun _ => (#[] : Array Value))) hS rfl
  have oth : ∀ b o, b ≠ h.objs.size → (h.push (lso [] 0)).get? b = some o → ((h.push (lso [] 0)).update h.objs.size (Obj.mapSeq (fun _ => (#[] : Array Value)))).get? b = some o :=
    fun b o hb e => (Heap.get?_update_other _ _ (Ne.symm hb)).trans e
  refine wpAny_bind (wpAny_letGo ?_)
  refine set_extend (κ := κ.in1) hh rfl rfl D (oth _ _ (Nat.ne_of_lt hlt) (Heap.get?_push_of_some _ e)) h.objs.size (Nat.ne_of_gt hlt) .none hS₂ fun h' tk d js o' hp hL hk hS' => ?_
  exact ⟨rfl, rfl, rfl, q _ _ js o' hp hL ⟨get_size_none h, hS', fun b o e => hk b o (Nat.ne_of_lt (Heap.lt_size e)) (oth b o (Nat.ne_of_lt (Heap.lt_size e)) (Heap.get?_push_of_some _ e))⟩⟩
theorem T_list_list {items : List Value} {Q : Value → Heap → Prop} (L : LsO items o) (e : h.get? a = some o) (hz : items.length ≤ 100000)
    (q : ∀ r h' o', LsO items o' → Nw h r o' h' → Q (.ref r) h') : T κ (PySem.call (.type "list") [.ref a]) Q h := fun d tk => by
  obtain ⟨n, rfl⟩ := L
  refine call_list_seq (s := ⟨h, κ.g, d, tk, κ.os⟩) a (T := "list") (.inl rfl) e rfl rfl (fun h' c' hk hS => ⟨rfl, rfl, q _ _ _ ⟨c', rfl⟩ ⟨get_size_none h, hS, hk⟩⟩) ?_
  simp only [List.size_toArray]; rw [sizeLine_eq]; omega
theorem small_range {a b : Int} (ha : -1000 ≤ a ∧ a ≤ 1000) (hb : -1000 ≤ b ∧ b ≤ 1000) : Builtin.Range.small a b 1 = true ∧ Builtin.Range.rangeSize a b 1 = ((b - a).toNat : Int) := by
  have hsz : Builtin.Range.rangeSize a b 1 = ((b - a).toNat : Int) := by exact rangeSize_nat a b
  refine ⟨?_, hsz⟩
  have f : ∀ x : Int, -3000 ≤ x → x ≤ 3000 → Builtin.Range.rangeFitsLong x = true := fun x h1 h2 => by
    unfold Builtin.Range.rangeFitsLong
    simp only [Bool.and_eq_true, decide_eq_true_eq]
    constructor <;> omega
  unfold Builtin.Range.small
  rw [hsz]
  simp only [Bool.and_eq_true, Bool.or_eq_true]
  refine ⟨⟨⟨⟨f _ (by omega) (by omega), f _ (by omega) (by omega)⟩, f _ (by omega) (by omega)⟩, f _ (by omega) (by omega)⟩, .inr ?_⟩
  rw [if_pos (by decide)]
  exact f _ (by omega) (by omega)
theorem T_list_range {a b : Int} {r : Addr} {t u v : Tok} {Q : Value → Heap → Prop} (hh : κ.A.handled = none) (e : h.get? r = some (rangeO a b t u v)) (ha : -1000 ≤ a ∧ a ≤ 1000) (hb : -1000 ≤ b ∧ b ≤ 1000)
    (q : ∀ l h' o', IntsO ((List.range (b - a).toNat).map fun (i : Nat) => a + i) o' → Nw h l o' h' → Q (.ref l) h') : T κ (PySem.call (.type "list") [.ref r]) Q h := fun d tk => by
  obtain ⟨h1, h2⟩ := small_range ha hb
  refine call_list_range (s := ⟨h, κ.g, d, tk, κ.os⟩) hh (r := r) (a := a) (b := b) (c := 1) (n := (b - a).toNat) e h1 h2 (by omega) fun h' tk acc' c' hk hS hacc => ?_
  refine ⟨rfl, rfl, q _ _ _ ⟨acc'.toList, ⟨c', by rw [lso, Array.toArray_toList]⟩, ?_⟩ ⟨get_size_none h, hS, hk⟩⟩
  have hlen : acc'.toList.length = (b - a).toNat := by rw [Array.length_toList]; exact hacc.1
  rw [List.range_eq_range', ← hlen]
  refine ints_of_fun (f := fun i => a + i) fun j v hv => ?_
  obtain ⟨t, e⟩ := hacc.2 j v (by rw [← Array.getElem?_toList]; exact hv)
  exact ⟨t, e.trans (by simp)⟩
theorem T_sorted_list {ns : List Int} {Q : Value → Heap → Prop} (L : IntsO ns o) (e : h.get? a = some o) (hz : ns.length < 64)
    (q : ∀ r h' o' ns', ns'.Perm ns → ns'.Pairwise (· ≤ ·) → IntsO ns' o' → Nw h r o' h' → Q (.ref r) h') : T κ (PySem.call (.builtin "sorted") [.ref a]) Q h := fun d tk => by
  obtain ⟨vs, L, i⟩ := L
  refine sorted_ints (s := ⟨h, κ.g, d, tk, κ.os⟩) (L.is e) i (by rw [i.length]; exact hz) fun out ns' a1 a2 a3 => ?_
  obtain ⟨c, hc⟩ := sortedAll_at h vs out
  refine ⟨rfl, rfl, q _ _ _ ns' a2 a3 ⟨out.toList, ⟨c, by rw [lso, Array.toArray_toList]⟩, a1⟩ ⟨?_, hc, fun b o e => sortedAll_old e⟩⟩
  cases hc : h.get? (h.objs.size + 1) with
  | none => rfl
  | some o => exact absurd (Heap.lt_size hc) (Nat.not_lt.mpr (Nat.le_succ _))
theorem T_sorted_set {Q : Value → Heap → Prop} (hh : κ.A.handled = none) (D : SetO κ.w l o) (e : h.get? a = some o) (hz : l.length < 64)
    (q : ∀ r h' o' ns', ns'.Perm l → ns'.Pairwise (· ≤ ·) → IntsO ns' o' → Nw h r o' h' → Q (.ref r) h') : T κ (PySem.call (.builtin "sorted") [.ref a]) Q h := fun d tk => by
  refine Calls.call_function_entry kind_sorted plain_sorted entry_sorted (args_sorted1 _) ?_
  unfold Builtin.«sorted»
  refine wpAny_bind (m := checkCount "sorted" 1 1 _) (wpAny_pure ?_)
  refine wpAny_bind ((T_collect_set (κ := κ.in1) (Q := fun vs h' => ∃ js, vs = vals js ∧ (js.map (·.1)).Perm l ∧ Keep h h') hh D e fun h' js hp hk => ⟨js, rfl, hp, hk⟩).use (s := ⟨h, κ.g, d, tk, κ.os⟩) rfl rfl fun vs s₁ g1 o1 z => ?_)
  obtain ⟨js, rfl, hp, hk⟩ := z
  obtain ⟨h1, _, d1, tk1, _⟩ := s₁
  dsimp only at g1 o1 hk
  subst g1 o1
  have hlen : (vals js).length = l.length := by have := hp.length_eq; unfold vals; simpa using this
  refine wpAny_bind (wpAny_newList ?_ (by rw [hlen, sizeLine_eq]; omega))
  have hoL : (h1.push (seqObj "list" (vals js).toArray 0)).get? h1.objs.size = some (seqObj "list" (vals js).toArray 0) := Heap.get?_push_size _ rfl
  refine wpAny_bind (wpAny_holding (wpAny_call_entry slot_list_sort ⟨_, hoL, rfl⟩ entry_list_sort (list_sort_tree hoL (ints_vals js) (by rw [hlen]; exact hz) fun out ns' a1 a2 a3 => ⟨_, rfl, ?_⟩) (args_list_sort _)))
  obtain ⟨c, hc⟩ := sortedHeap_at (vs := vals js) (out := out) hoL
  have old : ∀ b o, h.get? b = some o → (sortedHeap (h1.push (seqObj "list" (vals js).toArray 0)) h1.objs.size (vals js) out).get? b = some o := fun b o e => by
    have hb := hk b o e
    have hlt := Heap.lt_size hb
    rw [sortedHeap_old (Nat.ne_of_lt hlt) (by rw [size_push']; exact Nat.lt_succ_of_lt hlt)]
    exact Heap.get?_push_of_some _ hb
  refine wpAny_pure ⟨_, rfl, rfl, rfl, q _ _ _ ns' (a2.trans hp) a3 ⟨out.toList, ⟨c, by rw [lso, Array.toArray_toList]⟩, a1⟩ ⟨?_, hc, old⟩⟩
  cases hc : h.get? h1.objs.size with
  | none => rfl
  | some o => exact absurd (Heap.lt_size (hk _ _ hc)) (Nat.lt_irrefl _)
end
end Mine
end
section
open PySem PySem.W PySem.Calls PyProof.Rows
set_option Elab.async false
set_option maxRecDepth 100000
set_option linter.all false
namespace Mine
abbrev Pair := Int × Int
abbrev PLt (p q : Pair) : Prop := p.1 < q.1 ∨ (p.1 = q.1 ∧ p.2 < q.2)
def PLe (p q : Pair) : Prop := p.1 < q.1 ∨ (p.1 = q.1 ∧ p.2 ≤ q.2)
theorem PLe.of_not {p q : Pair} (h : ¬ PLt q p) : PLe p q := by unfold PLe; unfold PLt at h; omega
theorem PLe.of_lt {p q : Pair} (h : PLt p q) : PLe p q := by unfold PLe; unfold PLt at h; omega
theorem PLe.refl (p : Pair) : PLe p p := by unfold PLe; omega
theorem PLe.trans {p q r : Pair} (a : PLe p q) (b : PLe q r) : PLe p r := by unfold PLe at *; omega
theorem PLe.antisymm {p q : Pair} (a : PLe p q) (b : PLe q p) : p = q := by
  unfold PLe at *
  have h1 : p.1 = q.1 := by omega
  have h2 : p.2 = q.2 := by omega
  exact Prod.ext h1 h2
def gp (xs : List Pair) (i : Nat) : Pair := xs.getD i (0, 0)
def OkAt (xs : List Pair) (i : Nat) : Prop := PLe (gp xs ((i - 1) / 2)) (gp xs i)
def IsHeap (xs : List Pair) : Prop := ∀ i, 0 < i → i < xs.length → OkAt xs i
def GInv (xs : List Pair) (pos : Nat) : Prop := ∀ c, 0 < c → c < xs.length → (c - 1) / 2 = pos → 0 < pos → PLe (gp xs ((pos - 1) / 2)) (gp xs c)
def DInv (xs : List Pair) (pos : Nat) : Prop := (∀ i, 0 < i → i < xs.length → i ≠ pos → (i - 1) / 2 ≠ pos → OkAt xs i) ∧ GInv xs pos
def UInv (xs : List Pair) (pos : Nat) : Prop := (∀ i, 0 < i → i < xs.length → i ≠ pos → OkAt xs i) ∧ GInv xs pos
def swp (xs : List Pair) (i j : Nat) : List Pair := (xs.set i (gp xs j)).set j (gp xs i)
theorem swp_len (xs : List Pair) (i j : Nat) : (swp xs i j).length = xs.length := by simp [swp]
theorem gp_swp {xs : List Pair} {i j : Nat} (hi : i < xs.length) (hj : j < xs.length) (k : Nat) : gp (swp xs i j) k = if k = j then gp xs i else if k = i then gp xs j else gp xs k := by
  unfold swp
  by_cases hk : k < xs.length
  · by_cases h1 : k = j
    · subst h1; simp [gp, hk]
    · rw [if_neg h1]
      by_cases h2 : k = i
      · subst h2; rw [if_pos rfl]
        simp only [gp, List.getD_eq_getElem?_getD]
        rw [List.getElem?_set_ne (Ne.symm h1), List.getElem?_set_self hk]; rfl
      · rw [if_neg h2]
        simp only [gp, List.getD_eq_getElem?_getD]
        rw [List.getElem?_set_ne (Ne.symm h1), List.getElem?_set_ne (Ne.symm h2)]
  · have h1 : k ≠ j := fun h => hk (h ▸ hj)
    have h2 : k ≠ i := fun h => hk (h ▸ hi)
    rw [if_neg h1, if_neg h2]
    simp only [gp, List.getD_eq_getElem?_getD]
    rw [List.getElem?_set_ne (Ne.symm h1), List.getElem?_set_ne (Ne.symm h2)]
theorem swp_perm {xs : List Pair} {i j : Nat} (hi : i < xs.length) (hj : j < xs.length) : (swp xs i j).Perm xs := by
  have e1 : gp xs i = xs[i] := by simp [gp, hi]
  have e2 : gp xs j = xs[j] := by simp [gp, hj]
  unfold swp
  rw [e1, e2]
  exact List.set_set_perm hi hj
theorem dstep {xs : List Pair} {pos c : Nat} (D : DInv xs pos) (hc : c = 2 * pos + 1 ∨ c = 2 * pos + 2) (hl : c < xs.length) (hm : ∀ d, (d = 2 * pos + 1 ∨ d = 2 * pos + 2) → d < xs.length → PLe (gp xs c) (gp xs d)) :
    DInv (swp xs c pos) c := by
  have hp : pos < xs.length := by omega
  obtain ⟨D1, D2⟩ := D
  refine ⟨fun i h0 h1 h2 h3 => ?_, fun d h0 h1 h2 h3 => ?_⟩
  · rw [swp_len] at h1
    unfold OkAt
    rw [gp_swp hl hp, gp_swp hl hp]
    by_cases hi : i = pos
    · subst hi
      rw [if_pos rfl, if_neg (by omega), if_neg (by omega)]
      exact D2 c (by omega) hl (by omega) h0
    · rw [if_neg hi, if_neg h2]
      by_cases hpar : (i - 1) / 2 = pos
      · rw [if_pos hpar]
        exact hm i (by omega) h1
      · rw [if_neg hpar, if_neg (by omega)]
        exact D1 i h0 h1 hi hpar
  · rw [swp_len] at h1
    rw [gp_swp hl hp, gp_swp hl hp, if_pos (by omega), if_neg (by omega), if_neg (by omega)]
    have := D1 d h0 h1 (by omega) (by omega)
    unfold OkAt at this
    rw [h2] at this; exact this
theorem DInv.leaf {xs : List Pair} {pos : Nat} (D : DInv xs pos) (h : xs.length / 2 ≤ pos) : UInv xs pos :=
  ⟨fun i h0 h1 h2 => D.1 i h0 h1 h2 (by omega), D.2⟩
theorem ustep {xs : List Pair} {pos : Nat} (U : UInv xs pos) (h0 : 0 < pos) (hl : pos < xs.length) (hlt : PLt (gp xs pos) (gp xs ((pos - 1) / 2))) : UInv (swp xs ((pos - 1) / 2) pos) ((pos - 1) / 2) := by
  obtain ⟨U1, U2⟩ := U
  have hq : (pos - 1) / 2 < xs.length := by omega
  generalize hpar : (pos - 1) / 2 = par at *
  refine ⟨fun i a1 a2 a3 => ?_, fun d a1 a2 a3 a4 => ?_⟩
  · rw [swp_len] at a2
    unfold OkAt
    rw [gp_swp hq hl, gp_swp hq hl]
    by_cases hi : i = pos
    · subst hi
      rw [if_pos rfl, hpar, if_neg (by omega), if_pos rfl]
      exact .of_lt hlt
    · rw [if_neg hi, if_neg a3]
      by_cases h1 : (i - 1) / 2 = pos
      · rw [if_pos h1]
        have := U2 i a1 a2 h1 h0
        rw [hpar] at this; exact this
      · rw [if_neg h1]
        by_cases h2 : (i - 1) / 2 = par
        · rw [if_pos h2]
          have := U1 i a1 a2 hi
          unfold OkAt at this; rw [h2] at this
          exact (PLe.of_lt hlt).trans this
        · rw [if_neg h2]
          exact U1 i a1 a2 hi
  · rw [swp_len] at a2
    rw [gp_swp hq hl, gp_swp hq hl, if_neg (show ¬ (par - 1) / 2 = pos by omega), if_neg (show ¬ (par - 1) / 2 = par by omega)]
    have hg := U1 par a4 hq (by omega)
    by_cases hd : d = pos
    · rw [if_pos hd]; exact hg
    · rw [if_neg hd, if_neg (by omega)]
      have := U1 d a1 a2 hd
      unfold OkAt at this; rw [a3] at this
      exact PLe.trans hg this
theorem UInv.top {xs : List Pair} (U : UInv xs 0) : IsHeap xs := fun i h0 h1 => U.1 i h0 h1 (by omega)
theorem UInv.rest {xs : List Pair} {pos : Nat} (U : UInv xs pos) (h : ¬ PLt (gp xs pos) (gp xs ((pos - 1) / 2))) : IsHeap xs := fun i h0 h1 => by
  by_cases hi : i = pos
  · subst hi; exact .of_not h
  · exact U.1 i h0 h1 hi
theorem IsHeap.least {xs : List Pair} (H : IsHeap xs) : ∀ i, i < xs.length → PLe (gp xs 0) (gp xs i) := fun i => by
  induction i using Nat.strongRecOn with
  | ind i ih =>
    intro h
    by_cases h0 : i = 0
    · subst h0; exact .refl _
    · exact (ih ((i - 1) / 2) (by omega) (by omega)).trans (H i (by omega) h)
theorem gp_app {xs ys : List Pair} {i : Nat} (h : i < xs.length) : gp (xs ++ ys) i = gp xs i := by
  unfold gp; rw [List.getD_eq_getElem?_getD, List.getD_eq_getElem?_getD, List.getElem?_append_left h]
theorem IsHeap.push {xs : List Pair} (H : IsHeap xs) (p : Pair) : UInv (xs ++ [p]) xs.length := by
  refine ⟨fun i h0 h1 h2 => ?_, fun c h0 h1 h2 h3 => ?_⟩
  · have hi : i < xs.length := by simp at h1; omega
    have := H i h0 hi
    unfold OkAt at *
    rw [gp_app (by omega), gp_app hi]; exact this
  · simp at h1; omega
theorem IsHeap.pop {xs : List Pair} {p : Pair} (H : IsHeap (xs ++ [p])) (hne : xs ≠ []) : DInv (xs.set 0 p) 0 := by
  refine ⟨fun i h0 h1 h2 h3 => ?_, fun c h0 h1 h2 h3 => absurd h3 (Nat.lt_irrefl _)⟩
  have hi : i < xs.length := by simpa using h1
  have := H i h0 (by simp; omega)
  unfold OkAt at *
  rw [gp_app (by omega), gp_app hi] at this
  unfold gp at *
  simp only [List.getD_eq_getElem?_getD] at *
  rw [List.getElem?_set_ne (Ne.symm h2), List.getElem?_set_ne (Ne.symm h3)]; exact this
theorem pop_perm {xs : List Pair} {p : Pair} (hne : xs ≠ []) : ((gp (xs ++ [p]) 0) :: xs.set 0 p).Perm (xs ++ [p]) := by
  cases xs with
  | nil => exact absurd rfl hne
  | cons x r =>
    show (x :: p :: r).Perm (x :: (r ++ [p]))
    exact .cons _ (List.perm_append_singleton p r).symm
end Mine
end
section
open PySem PySem.W PySem.Calls PyProof.Rows
set_option Elab.async false
set_option maxRecDepth 100000
set_option linter.all false
namespace Mine
theorem entry_push : entryFor table "_heapq.heappush" = some Builtin.«_heapq.heappush» := entryFor_of_tree (by kernel_rfl)
theorem entry_pop : entryFor table "_heapq.heappop" = some Builtin.«_heapq.heappop» := entryFor_of_tree (by kernel_rfl)
theorem entry_sift : entryFor table "_heapq.heapify.sift" = some Builtin.«_heapq.heapify.sift» := entryFor_of_tree (by kernel_rfl)
theorem plain_push : plainId "_heapq.heappush" = true := by decide +kernel
theorem plain_pop : plainId "_heapq.heappop" = true := by decide +kernel
theorem plain_sift : plainId "_heapq.heapify.sift" = true := by decide +kernel
theorem kind_push : builtinKind "_heapq.heappush" = none := by decide +kernel
theorem kind_pop : builtinKind "_heapq.heappop" = none := by decide +kernel
theorem args_push (a b : Value) : argsOk "_heapq.heappush" ⟨[a, b], []⟩ := by unfold argsOk; kernel_rfl
theorem args_pop (a : Value) : argsOk "_heapq.heappop" ⟨[a], []⟩ := by unfold argsOk; kernel_rfl

end Mine
end
section
open PySem PySem.W PySem.Calls PyProof.Rows
set_option Elab.async false
set_option maxRecDepth 100000
set_option linter.all false
namespace Mine
def PairO (p : Pair) (o : Obj) : Prop := ∃ t u, o = { cls := .type "tuple", data := .seq #[.int p.1 t, .int p.2 u] }
section
variable {prog : Program} {w : World} {A : Around} {E : Value → Shared → Prop} {s : Shared} {a b : Addr} {p q : Pair} {oa ob : Obj}
theorem wp_lt_pair {Q : Value → Shared → Prop} (ha : s.heap.get? a = some oa) (pa : PairO p oa) (hb : s.heap.get? b = some ob) (pb : PairO q ob) (hu : A.units < cLine) (k : Q (.bool (decide (PLt p q))) s) :
    wpAny (model prog w) A (richCompare .Lt (.ref a) (.ref b)) Q E s := by
  obtain ⟨t, u, rfl⟩ := pa
  obtain ⟨t', u', rfl⟩ := pb
  refine wpAny_richCompare_same_room (op := .Lt) (T := "tuple") ⟨_, ha, rfl⟩ ⟨_, hb, rfl⟩ F.slot_tuple_lt (wpAny_call_entry F.slot_tuple_lt ⟨_, ha, rfl⟩ F.entry_tuple_lt ?_ (F.args_tuple_lt_2 _ _)) hu
  have f2 := AutoSeq1.sub_tuple_tuple
  refine wpAny_bind (wpAny_pure ?_)
  refine wpAny_bind (wpAny_isInstance (T := "tuple") (b := true) ⟨_, hb, rfl⟩ f2 ?_)
  simp only [Bool.not_true, Bool.false_eq_true, if_false]
  refine wpAny_bind (wpAny_bind (wpAny_seqItems ha rfl (wpAny_pure ?_)))
  refine wpAny_bind (wpAny_bind (wpAny_seqItems hb rfl (wpAny_pure ?_)))
  have hz : (#[Value.int p.1 t, Value.int p.2 u].toList.zip #[Value.int q.1 t', Value.int q.2 u'].toList) = [(Value.int p.1 t, Value.int q.1 t'), (Value.int p.2 u, Value.int q.2 u')] := rfl
  rw [hz, List.forIn_cons]
  refine wpAny_bind (wpAny_bind (wpAny_bind (wpAny_eqBool_int ?_)))
  by_cases h1 : p.1 = q.1
  · rw [show (p.1 == q.1) = true by simp [h1]]
    simp only [Bool.not_true, Bool.false_eq_true, if_false]
    refine wpAny_pure ?_
    dsimp only
    rw [List.forIn_cons]
    refine wpAny_bind (wpAny_bind (wpAny_eqBool_int ?_))
    by_cases h2 : p.2 = q.2
    · rw [show (p.2 == q.2) = true by simp [h2]]
      simp only [Bool.not_true, Bool.false_eq_true, if_false]
      refine wpAny_pure ?_
      dsimp only
      rw [List.forIn_nil]
      refine wpAny_pure (wpAny_pure ⟨_, rfl, (fun x => nomatch x), ?_⟩)
      have : decide (PLt p q) = false := by rw [decide_eq_false_iff_not]; unfold PLt; omega
      rw [this] at k
      exact k
    · rw [show (p.2 == q.2) = false by simp [h2]]
      simp only [Bool.not_false, if_true]
      refine wpAny_bind (wpAny_rule (wpAny_bind (wpAny_lt_int (wpAny_bind (wpAny_pure (wpAny_pure ?_))))))
      refine wpAny_pure (wpAny_pure ⟨_, rfl, (fun x => nomatch x), ?_⟩)
      have : decide (PLt p q) = decide (p.2 < q.2) := by rw [decide_eq_decide]; unfold PLt; omega
      rw [this] at k
      exact k
  · rw [show (p.1 == q.1) = false by simp [h1]]
    simp only [Bool.not_false, if_true]
    refine wpAny_bind (wpAny_rule (wpAny_bind (wpAny_lt_int (wpAny_bind (wpAny_pure (wpAny_pure ?_))))))
    refine wpAny_pure (wpAny_pure ⟨_, rfl, (fun x => nomatch x), ?_⟩)
    have : decide (PLt p q) = decide (p.1 < q.1) := by rw [decide_eq_decide]; unfold PLt; omega
    rw [this] at k
    exact k
end
end Mine
end
section
open PySem PySem.W PySem.Calls PyProof.Rows
set_option Elab.async false
set_option maxRecDepth 100000
set_option linter.all false
namespace Mine
def Hp (h : Heap) (vs : List Value) (ps : List Pair) : Prop := vs.length = ps.length ∧ ∀ (i : Nat) v, vs[i]? = some v → ∃ T o, v = .ref T ∧ h.get? T = some o ∧ PairO (gp ps i) o
theorem Hp.at {h : Heap} {vs : List Value} {ps : List Pair} (H : Hp h vs ps) {i : Nat} (hi : i < ps.length) : ∃ T o, vs[i]? = some (.ref T) ∧ h.get? T = some o ∧ PairO (gp ps i) o := by
  have hv : i < vs.length := by rw [H.1]; exact hi
  obtain ⟨T, o, e1, e2, e3⟩ := H.2 i _ (List.getElem?_eq_getElem hv)
  exact ⟨T, o, by rw [List.getElem?_eq_getElem hv, e1], e2, e3⟩
theorem Hp.keep {h h' : Heap} {vs : List Value} {ps : List Pair} (H : Hp h vs ps) (k : ∀ T o p, h.get? T = some o → PairO p o → h'.get? T = some o) : Hp h' vs ps :=
  ⟨H.1, fun i v e => by obtain ⟨T, o, e1, e2, e3⟩ := H.2 i v e; exact ⟨T, o, e1, k T o _ e2 e3, e3⟩⟩
def vsw (vs : List Value) (i j : Nat) : List Value := (vs.set i (vs.getD j .none)).set j (vs.getD i .none)
theorem vsw_at {vs : List Value} {i j : Nat} (hi : i < vs.length) (hj : j < vs.length) (k : Nat) : (vsw vs i j)[k]? = if k = j then vs[i]? else if k = i then vs[j]? else vs[k]? := by
  unfold vsw
  have e1 : vs[i]? = some (vs.getD i .none) := by simp [hi]
  have e2 : vs[j]? = some (vs.getD j .none) := by simp [hj]
  by_cases h1 : k = j
  · subst h1; rw [if_pos rfl, e1, List.getElem?_set_self (by simpa using hj)]
  · rw [if_neg h1, List.getElem?_set_ne (Ne.symm h1)]
    by_cases h2 : k = i
    · subst h2; rw [if_pos rfl, e2, List.getElem?_set_self hi]
    · rw [if_neg h2, List.getElem?_set_ne (Ne.symm h2)]
theorem Hp.swap {h : Heap} {vs : List Value} {ps : List Pair} (H : Hp h vs ps) {i j : Nat} (hi : i < ps.length) (hj : j < ps.length) : Hp h (vsw vs i j) (swp ps i j) := by
  refine ⟨by rw [swp_len]; simp [vsw, H.1], fun k v hk => ?_⟩
  rw [vsw_at (by rw [H.1]; exact hi) (by rw [H.1]; exact hj)] at hk
  rw [gp_swp hi hj]
  split at hk
  · rename_i e; rw [if_pos e]; exact H.2 _ _ hk
  · rename_i e; rw [if_neg e]
    split at hk
    · rename_i e'; rw [if_pos e']; exact H.2 _ _ hk
    · rename_i e'; rw [if_neg e']; exact H.2 _ _ hk
theorem pair_ne_list {p : Pair} {o : Obj} {items : List Value} {o' : Obj} (P : PairO p o) (L : LsO items o') : o ≠ o' := by
  obtain ⟨t, u, rfl⟩ := P
  obtain ⟨n, rfl⟩ := L
  intro h
  have := congrArg Obj.cls h
  simp [lso] at this
section
variable {κ : Kx} {a : Addr}
/-- the state of the heap's list -/
structure HpAt (h : Heap) (a : Addr) (vs : List Value) (ps : List Pair) (o : Obj) : Prop where
  l : h.get? a = some o
  ls : LsO vs o
  hp : Hp h vs ps
theorem vsw_perm {vs : List Value} {i j : Nat} (hi : i < vs.length) (hj : j < vs.length) : (vsw vs i j).Perm vs := by
  have e1 : vs.getD i .none = vs[i] := by simp [hi]
  have e2 : vs.getD j .none = vs[j] := by simp [hj]
  unfold vsw
  rw [e1, e2]
  exact List.set_set_perm hi hj
theorem HpAt.ch {h h' : Heap} {ps' : List Pair} {o o' : Obj} {vs vs' : List Value} (x : h.get? a = some o) (L : LsO vs o) (L' : LsO vs' o') (H : Hp h vs' ps') (c : Ch h a o' h') : HpAt h' a vs' ps' o' :=
  ⟨c.at_, L', H.keep fun T oT p e P => (c.but T fun q => by subst q; rw [x] at e; cases e; exact pair_ne_list P L rfl).trans e⟩
theorem wp_nth {M : Model} {A : Around} {E : Value → Shared → Prop} {s : Shared} {xs : Array Value} {i : Nat} {v : Value} {m : String} {Q : Value → Shared → Prop} (e : xs[i]? = some v) (q : Q v s) :
    wpAny M A (match xs[i]? with | some v => pure v | none => unsupported m) Q E s := by
  rw [e]; exact wpAny_pure q
theorem arr_at {vs : List Value} {i : Nat} {v : Value} (e : vs[i]? = some v) : vs.toArray[i]? = some v := by rw [List.getElem?_toArray]; exact e
theorem lso_seq {vs : List Value} {n : Nat} : (lso vs n).data = .seq vs.toArray n := rfl
theorem sift_up {R : Result → Shared → Prop} {res : Value} (hu : κ.A.units + 1 < cLine) : ∀ (pos : Nat) {h : Heap} {vs : List Value} {ps : List Pair} {o : Obj} {d : Drawn} {tk : Nat}, UInv ps pos → pos < ps.length → ps.length ≤ 1000000 → HpAt h a vs ps o →
    (∀ h' vs' ps' o' d tk, IsHeap ps' → ps'.Perm ps → vs'.Perm vs → HpAt h' a vs' ps' o' → Ch h a o' h' → R (.ok (.ret res)) ⟨h', κ.g, d, tk, κ.os⟩) →
    codeAny κ.M κ.A (.builtin "_heapq.heapify.sift" ⟨[.ref a, .bool false, .bool false, .int (pos : Nat) 0, .int (0 : Nat) 0, res, .int (-1) 0], []⟩) R ⟨h, κ.g, d, tk, κ.os⟩ := fun pos => by
  induction pos using Nat.strongRecOn with
  | ind pos ih =>
    intro h vs ps o d tk U hl hz H q
    obtain ⟨e, L, V⟩ := id H
    obtain ⟨n, rfl⟩ := id L
    refine codeAny_builtin entry_sift ?_
    rw [Around.under_plainId plain_sift _]
    have hlen : vs.toArray.size = ps.length := by simp [V.1]
    show wpAny _ _ (_ >>= _) _ _ _
    refine wpAny_bind (wpAny_bind (wpAny_seqItems e lso_seq (wpAny_pure ?_)))
    simp only [Bool.false_eq_true, if_false, Int.toNat_natCast]
    by_cases h0 : pos > 0
    · rw [if_pos h0]
      have hq : (pos - 1) / 2 < ps.length := by omega
      obtain ⟨T, oT, a1, a2, a3⟩ := V.at hl
      obtain ⟨U', oU, b1, b2, b3⟩ := V.at hq
      refine wpAny_bind (wp_nth (arr_at a1) ?_)
      refine wpAny_bind (wp_nth (arr_at b1) ?_)
      refine wpAny_bind (wpAny_bind (wpAny_holding (wpAny_bind (wp_lt_pair a2 a3 b2 b3 hu (wpAny_truthy_bool ?_)))))
      refine wpAny_bind (wpAny_bind (wpAny_seqItems e lso_seq (wpAny_pure ?_)))
      rw [if_neg (by simp)]
      refine wpAny_bind (wpAny_pure (wpAny_pure ?_))
      by_cases hlt : PLt (gp ps pos) (gp ps ((pos - 1) / 2))
      · rw [decide_eq_true hlt, if_pos rfl]
        refine wpAny_bind (wpAny_bind (wpAny_bind (wpAny_seqItems e lso_seq (wpAny_pure ?_))))
        refine wpAny_bind (wp_nth (arr_at b1) ?_)
        refine wpAny_bind (wp_nth (arr_at a1) ?_)
        refine wp_update (s := ⟨h, κ.g, d, tk, κ.os⟩) (its' := vsw vs ((pos - 1) / 2) pos) L e (by simp [vsw, a1, b1]) (by have := V.1; rw [sizeLine_eq]; omega) (by simp [vsw]; have := V.1; rw [sizeLine_eq]; omega) fun h' o' L' c => ?_
        have H' := HpAt.ch e L L' (V.swap hq hl) c
        refine wpAny_pure ⟨plainId_quiet plain_sift _, ih ((pos - 1) / 2) (by omega) (ustep U h0 hl hlt) (by rw [swp_len]; exact hq) (by rw [swp_len]; exact hz) H' fun hh2 vs2 ps2 o2 d2 tk2 c1 c2 cv c3 c4 => ?_⟩
        exact q hh2 vs2 ps2 o2 d2 tk2 c1 (c2.trans (swp_perm hq hl)) (cv.trans (vsw_perm (by have := V.1; omega) (by have := V.1; omega))) c3 ⟨fun b hb => (c4.but b hb).trans (c.but b hb), c4.at_⟩
      · rw [decide_eq_false hlt, if_neg (by simp), if_pos (by decide)]
        exact wpAny_pure (q h vs ps _ d tk (U.rest hlt) (.refl _) (.refl _) H ⟨fun _ _ => rfl, e⟩)
    · have h0 : pos = 0 := by omega
      subst h0
      rw [if_neg (by omega), if_pos (by decide)]
      exact wpAny_pure (q h vs ps _ d tk U.top (.refl _) (.refl _) H ⟨fun _ _ => rfl, e⟩)
theorem sift_down {R : Result → Shared → Prop} {res : Value} (hu : κ.A.units + 1 < cLine) : ∀ (k pos : Nat) {h : Heap} {vs : List Value} {ps : List Pair} {o : Obj} {d : Drawn} {tk : Nat}, ps.length - pos ≤ k → DInv ps pos → pos < ps.length → ps.length ≤ 1000000 → HpAt h a vs ps o →
    (∀ h' vs' ps' o' d tk, IsHeap ps' → ps'.Perm ps → vs'.Perm vs → HpAt h' a vs' ps' o' → Ch h a o' h' → R (.ok (.ret res)) ⟨h', κ.g, d, tk, κ.os⟩) →
    codeAny κ.M κ.A (.builtin "_heapq.heapify.sift" ⟨[.ref a, .bool false, .bool true, .int (pos : Nat) 0, .int (0 : Nat) 0, res, .int (-1) 0], []⟩) R ⟨h, κ.g, d, tk, κ.os⟩ := fun k => by
  induction k with
  | zero => intro pos h vs ps o d tk hk D hl; omega
  | succ k ih =>
    intro pos h vs ps o d tk hk D hl hz H q
    obtain ⟨e, L, V⟩ := id H
    obtain ⟨n, rfl⟩ := id L
    refine codeAny_builtin entry_sift ?_
    rw [Around.under_plainId plain_sift _]
    have hlen : vs.toArray.size = ps.length := by simp [V.1]
    show wpAny _ _ (_ >>= _) _ _ _
    refine wpAny_bind (wpAny_bind (wpAny_seqItems e lso_seq (wpAny_pure ?_)))
    simp only [if_true, Int.toNat_natCast, hlen]
    by_cases h0 : pos < ps.length / 2
    · rw [if_pos h0]
      obtain ⟨T, oT, a1, a2, a3⟩ := V.at hl
      have hlft : 2 * pos + 1 < ps.length := by omega
      obtain ⟨TL, oL, b1, b2, b3⟩ := V.at hlft
      by_cases h2 : 2 * pos + 1 + 1 < ps.length
      · rw [if_pos h2]
        obtain ⟨TR, oR, c1, c2, c3⟩ := V.at h2
        refine wpAny_bind (wp_nth (arr_at b1) ?_)
        refine wpAny_bind (wp_nth (arr_at c1) ?_)
        refine wpAny_bind (wpAny_bind (wpAny_holding (wpAny_bind (wp_lt_pair b2 b3 c2 c3 hu (wpAny_truthy_bool ?_)))))
        refine wpAny_bind (wpAny_bind (wpAny_seqItems e lso_seq (wpAny_pure ?_)))
        rw [if_neg (by simp [hlen])]
        refine wpAny_bind (wpAny_pure (wpAny_pure ?_))
        by_cases hlt : PLt (gp ps (2 * pos + 1)) (gp ps (2 * pos + 1 + 1))
        · rw [decide_eq_true hlt]
          simp only [Bool.not_true, Bool.false_eq_true, if_false]
          refine wpAny_bind (wpAny_bind (wpAny_bind (wpAny_seqItems e lso_seq (wpAny_pure ?_))))
          refine wpAny_bind (wp_nth (arr_at b1) ?_)
          refine wpAny_bind (wp_nth (arr_at a1) ?_)
          refine wp_update (s := ⟨h, κ.g, d, tk, κ.os⟩) (its' := vsw vs (2 * pos + 1) pos) L e (by simp [vsw, a1, b1]) (by have := V.1; rw [sizeLine_eq]; omega) (by simp [vsw]; have := V.1; rw [sizeLine_eq]; omega) fun h' o' L' ch => ?_
          have H' := HpAt.ch e L L' (V.swap hlft hl) ch
          refine wpAny_pure ⟨plainId_quiet plain_sift _, ih (2 * pos + 1) (by rw [swp_len]; omega) (dstep D (.inl rfl) hlft (fun x hx hxl => by rcases hx with rfl | rfl <;> first | exact .refl _ | exact .of_lt hlt)) (by rw [swp_len]; exact hlft) (by rw [swp_len]; exact hz) H' fun hh2 vs2 ps2 o2 d2 tk2 c1 c2 cv c3 c4 => ?_⟩
          exact q hh2 vs2 ps2 o2 d2 tk2 c1 (c2.trans (swp_perm hlft hl)) (cv.trans (vsw_perm (by have := V.1; omega) (by have := V.1; omega))) c3 ⟨fun b hb => (c4.but b hb).trans (ch.but b hb), c4.at_⟩
        · rw [decide_eq_false hlt]
          simp only [Bool.not_false, if_true]
          refine wpAny_bind (wpAny_bind (wpAny_bind (wpAny_seqItems e lso_seq (wpAny_pure ?_))))
          refine wpAny_bind (wp_nth (arr_at c1) ?_)
          refine wpAny_bind (wp_nth (arr_at a1) ?_)
          refine wp_update (s := ⟨h, κ.g, d, tk, κ.os⟩) (its' := vsw vs (2 * pos + 1 + 1) pos) L e (by simp [vsw, a1, c1]) (by have := V.1; rw [sizeLine_eq]; omega) (by simp [vsw]; have := V.1; rw [sizeLine_eq]; omega) fun h' o' L' ch => ?_
          have H' := HpAt.ch e L L' (V.swap h2 hl) ch
          refine wpAny_pure ⟨plainId_quiet plain_sift _, ih (2 * pos + 1 + 1) (by rw [swp_len]; omega) (dstep D (.inr rfl) h2 (fun x hx hxl => by rcases hx with rfl | rfl <;> first | exact .refl _ | exact .of_not hlt)) (by rw [swp_len]; exact h2) (by rw [swp_len]; exact hz) H' fun hh2 vs2 ps2 o2 d2 tk2 k1 k2 cv k3 k4 => ?_⟩
          exact q hh2 vs2 ps2 o2 d2 tk2 k1 (k2.trans (swp_perm h2 hl)) (cv.trans (vsw_perm (by have := V.1; omega) (by have := V.1; omega))) k3 ⟨fun b hb => (k4.but b hb).trans (ch.but b hb), k4.at_⟩
      · rw [if_neg h2]
        refine wpAny_bind (wpAny_bind (wpAny_bind (wpAny_seqItems e lso_seq (wpAny_pure ?_))))
        refine wpAny_bind (wp_nth (arr_at b1) ?_)
        refine wpAny_bind (wp_nth (arr_at a1) ?_)
        refine wp_update (s := ⟨h, κ.g, d, tk, κ.os⟩) (its' := vsw vs (2 * pos + 1) pos) L e (by simp [vsw, a1, b1]) (by have := V.1; rw [sizeLine_eq]; omega) (by simp [vsw]; have := V.1; rw [sizeLine_eq]; omega) fun h' o' L' ch => ?_
        have H' := HpAt.ch e L L' (V.swap hlft hl) ch
        refine wpAny_pure ⟨plainId_quiet plain_sift _, ih (2 * pos + 1) (by rw [swp_len]; omega) (dstep D (.inl rfl) hlft (fun x hx hxl => by rcases hx with rfl | rfl <;> first | exact .refl _ | exact absurd hxl h2)) (by rw [swp_len]; exact hlft) (by rw [swp_len]; exact hz) H' fun hh2 vs2 ps2 o2 d2 tk2 c1 c2 cv c3 c4 => ?_⟩
        exact q hh2 vs2 ps2 o2 d2 tk2 c1 (c2.trans (swp_perm hlft hl)) (cv.trans (vsw_perm (by have := V.1; omega) (by have := V.1; omega))) c3 ⟨fun b hb => (c4.but b hb).trans (ch.but b hb), c4.at_⟩
    · rw [if_neg h0]
      refine wpAny_pure ⟨plainId_quiet plain_sift _, sift_up hu pos (D.leaf (by omega)) hl hz H q⟩
end
section
variable {κ : Kx} {h : Heap} {a : Addr} {vs : List Value} {ps : List Pair} {o : Obj}
theorem check_fun {id : String} {args : List Value} (hk : builtinKind id = none) (ha : argsOk id ⟨args, []⟩) : checkBuiltinCall id ⟨args, []⟩ = pure () := by
  simp only [checkBuiltinCall, hk]
  cases hsig : Manifest.signature? id with
  | none => rfl
  | some sig =>
    simp only [argsOk, hsig] at ha
    exact ha
theorem check_push (a b : Value) : checkBuiltinCall "_heapq.heappush" ⟨[a, b], []⟩ = pure () := check_fun kind_push (args_push a b)
theorem check_pop (a : Value) : checkBuiltinCall "_heapq.heappop" ⟨[a], []⟩ = pure () := check_fun kind_pop (args_pop a)
theorem list_type {vs : List Value} {n : Nat} {s : Shared} (e : s.heap.get? a = some (lso vs n)) : s.TypeIs (.ref a) "list" := ⟨_, e, rfl⟩
theorem T_heappush {p : Pair} {T : Addr} {oT : Obj} {Q : Value → Heap → Prop} {n : Nat} (R : Room κ n) (H : HpAt h a vs ps o) (Hh : IsHeap ps) (hz : ps.length ≤ 100000) (e : h.get? T = some oT) (P : PairO p oT)
    (q : ∀ h' vs' ps' o', IsHeap ps' → ps'.Perm (ps ++ [p]) → vs'.Perm (vs ++ [.ref T]) → HpAt h' a vs' ps' o' → Ch h a o' h' → Q .none h') : Mine.T κ (PySem.call (.builtin "_heapq.heappush") [.ref a, .ref T]) Q h := fun d tk => by
  have hu := R.units
  obtain ⟨ea, L, V⟩ := id H
  obtain ⟨m, rfl⟩ := id L
  refine wpAny_call ?_
  refine codeAny_call_builtin plain_push entry_push ?_
  rw [check_push]
  refine wpAny_pure ?_
  have hl : isSubtype (.type "list") (.type "list") = pure true := sub_list_self
  unfold Builtin.«_heapq.heappush»
  show wpAny _ _ ((noKeywords _ _ >>= _) >>= _) _ _ _
  refine wpAny_bind (wpAny_bind (wpAny_of_eq (a := ()) (by rfl) ?_))
  refine wpAny_bind (wpAny_of_eq (a := ()) (by rfl) ?_)
  dsimp only
  have hvl : vs.length = ps.length := V.1
  refine wpAny_bind (wpAny_bind (wpAny_isInstance (T := "list") (b := true) ⟨_, ea, rfl⟩ hl ?_))
  rw [if_pos rfl]
  refine wpAny_pure (wpAny_pure ?_)
  refine wpAny_bind (wp_update (s := ⟨h, κ.g, d, tk, κ.os⟩) (its' := vs ++ [.ref T]) L ea (by simp) (by rw [sizeLine_eq]; omega) (by simp; rw [sizeLine_eq]; omega) fun h1 o1 L1 c1 => ?_)
  obtain ⟨m1, rfl⟩ := id L1
  refine wpAny_bind (wpAny_bind (wpAny_seqItems (s := { heap := h1, gens := κ.g, drawn := d, toks := tk, os := κ.os }) c1.at_ lso_seq (wpAny_pure ?_)))
  have hTa : T ≠ a := fun q => by subst q; rw [ea] at e; cases e; exact pair_ne_list P L rfl
  have V1 : Hp h1 (vs ++ [.ref T]) (ps ++ [p]) := by
    refine ⟨by simp [hvl], fun i v hv => ?_⟩
    by_cases hi : i < vs.length
    · rw [List.getElem?_append_left hi] at hv
      obtain ⟨T', o', e1, e2, e3⟩ := V.2 i v hv
      refine ⟨T', o', e1, ?_, by rw [gp_app (by omega)]; exact e3⟩
      exact (c1.but T' fun q => by subst q; rw [ea] at e2; cases e2; exact pair_ne_list e3 L rfl).trans e2
    · have hi' : i = vs.length := by
        rcases Nat.lt_or_ge i (vs ++ [Value.ref T]).length with q | q
        · simp at q; omega
        · rw [List.getElem?_eq_none q] at hv; cases hv
      subst hi'
      simp at hv
      refine ⟨T, oT, hv.symm, (c1.but T hTa).trans e, ?_⟩
      rw [hvl]; simpa [gp] using P
  have hsz : (vs ++ [Value.ref T]).toArray.size - 1 = ps.length := by simp [hvl]
  rw [hsz]
  refine wpAny_pure ⟨plainId_quiet plain_sift _, sift_up (by omega) ps.length (Hh.push p) (by simp) (by simp; omega) ⟨c1.at_, L1, V1⟩ fun h2 vs2 ps2 o2 d2 tk2 k1 k2 kv k3 k4 => ?_⟩
  exact ⟨rfl, rfl, q h2 vs2 ps2 o2 k1 k2 kv k3 ⟨fun b hb => (k4.but b hb).trans (c1.but b hb), k4.at_⟩⟩
theorem T_heappop {Q : Value → Heap → Prop} {n : Nat} (R : Room κ n) (H : HpAt h a vs ps o) (Hh : IsHeap ps) (hz : ps.length ≤ 100000) (hne : ps ≠ [])
    (q : ∀ h' vs' ps' o' T oT, IsHeap ps' → (gp ps 0 :: ps').Perm ps → (.ref T :: vs').Perm vs → HpAt h' a vs' ps' o' → Ch h a o' h' → h.get? T = some oT → T ≠ a → PairO (gp ps 0) oT → Q (.ref T) h') : Mine.T κ (PySem.call (.builtin "_heapq.heappop") [.ref a]) Q h := fun d tk => by
  have hu := R.units
  obtain ⟨ea, L, V⟩ := id H
  obtain ⟨m, rfl⟩ := id L
  have hvl : vs.length = ps.length := V.1
  have hpos : 0 < ps.length := List.length_pos_iff.mpr hne
  refine wpAny_call ?_
  refine codeAny_call_builtin plain_pop entry_pop ?_
  rw [check_pop]
  refine wpAny_pure ?_
  have hl : isSubtype (.type "list") (.type "list") = pure true := sub_list_self
  unfold Builtin.«_heapq.heappop»
  refine wpAny_bind (wpAny_bind (wpAny_of_eq (a := Value.ref a) (by rfl) ?_))
  refine wpAny_bind (wpAny_bind (wpAny_isInstance (T := "list") (b := true) ⟨_, ea, rfl⟩ hl ?_))
  rw [if_pos rfl]
  refine wpAny_pure (wpAny_pure ?_)
  refine wpAny_bind (wpAny_bind (wpAny_seqItems ea lso_seq (wpAny_pure ?_)))
  obtain ⟨p0, pl, rfl⟩ : ∃ p0 pl, ps = p0 ++ [pl] := ⟨ps.dropLast, ps.getLast hne, (List.dropLast_concat_getLast hne).symm⟩
  have hvne : vs ≠ [] := fun h => by rw [h] at hvl; simp at hvl
  obtain ⟨v0, vl, rfl⟩ : ∃ v0 vl, vs = v0 ++ [vl] := ⟨vs.dropLast, vs.getLast hvne, (List.dropLast_concat_getLast hvne).symm⟩
  have hv0 : v0.length = p0.length := by simpa using hvl
  have hback : (v0 ++ [vl]).toArray.back? = some vl := by simp
  rw [hback]
  dsimp only
  simp only [List.length_append, List.length_cons, List.length_nil] at hz hvl hpos
  obtain ⟨Tl, ol, a1, a2, a3⟩ := V.at (i := p0.length) (by simp)
  rw [← hv0] at a1 a3
  have a1' : vl = .ref Tl := by simpa using a1
  subst a1'
  have a3' : PairO pl ol := by have : gp (p0 ++ [pl]) v0.length = pl := by rw [hv0]; simp [gp]
                               rw [this] at a3; exact a3
  have hTla : Tl ≠ a := fun q => by subst q; rw [ea] at a2; cases a2; exact pair_ne_list a3' L rfl
  refine wpAny_bind (wp_update (s := ⟨h, κ.g, d, tk, κ.os⟩) (its' := v0) L ea (by simp) (by simp; rw [sizeLine_eq]; omega) (by rw [sizeLine_eq]; omega) fun h1 o1 L1 c1 => ?_)
  obtain ⟨m1, rfl⟩ := id L1
  have V1 : Hp h1 v0 p0 := by
    refine ⟨hv0, fun i v hv => ?_⟩
    have hi : i < v0.length := by
      rcases Nat.lt_or_ge i v0.length with q | q
      · exact q
      · rw [List.getElem?_eq_none q] at hv; cases hv
    obtain ⟨T', o', e1, e2, e3⟩ := V.2 i v (by rw [List.getElem?_append_left hi]; exact hv)
    refine ⟨T', o', e1, (c1.but T' fun q => by subst q; rw [ea] at e2; cases e2; exact pair_ne_list e3 L rfl).trans e2, ?_⟩
    rw [gp_app (by omega)] at e3; exact e3
  by_cases hone : p0 = []
  · subst hone
    have hv : v0 = [] := List.length_eq_zero_iff.mp (by simpa using hv0)
    subst hv
    rw [if_pos (by simp)]
    refine wpAny_pure ⟨rfl, rfl, ?_⟩
    exact q h1 [] [] _ Tl ol (fun i h0 h1 => absurd h1 (Nat.not_lt_zero _)) (by simp [gp]) (.refl _) ⟨c1.at_, L1, V1⟩ c1 a2 hTla (by simpa [gp] using a3')
  · have hp0 : 0 < p0.length := List.length_pos_iff.mpr hone
    have hv0' : v0 ≠ [] := fun h => by rw [h] at hv0; simp at hv0; omega
    rw [if_neg (by simpa using hv0')]
    obtain ⟨T0, o0, b1, b2, b3⟩ := V.at (i := 0) (by simp)
    refine wpAny_bind (wp_nth (arr_at b1) ?_)
    refine wpAny_bind (wp_update (s := ⟨h1, κ.g, d, tk, κ.os⟩) (its' := v0.set 0 (.ref Tl)) L1 c1.at_ (by simp) (by rw [sizeLine_eq]; omega) (by simp; rw [sizeLine_eq]; omega) fun h2 o2 L2 c2 => ?_)
    have hTl2 : h1.get? Tl = some ol := (c1.but Tl hTla).trans a2
    have V2 : Hp h1 (v0.set 0 (.ref Tl)) (p0.set 0 pl) := by
      refine ⟨by simp [hv0], fun i v hv => ?_⟩
      by_cases hi : i = 0
      · subst hi
        rw [List.getElem?_set_self (by omega)] at hv
        cases hv
        refine ⟨Tl, ol, rfl, hTl2, ?_⟩
        have : gp (p0.set 0 pl) 0 = pl := by simp [gp, hp0]
        rw [this]; exact a3'
      · rw [List.getElem?_set_ne (Ne.symm hi)] at hv
        obtain ⟨T', o', e1, e2, e3⟩ := V1.2 i v hv
        refine ⟨T', o', e1, e2, ?_⟩
        have : gp (p0.set 0 pl) i = gp p0 i := by simp only [gp, List.getD_eq_getElem?_getD]; rw [List.getElem?_set_ne (Ne.symm hi)]
        rw [this]; exact e3
    have H2 := HpAt.ch c1.at_ L1 L2 V2 c2
    have hT0a : T0 ≠ a := fun q => by subst q; rw [ea] at b2; cases b2; exact pair_ne_list b3 L rfl
    refine wpAny_pure ⟨plainId_quiet plain_sift _, sift_down (by omega) _ 0 (Nat.le_refl _) (Hh.pop hone) (by simpa using hp0) (by simp; omega) H2 fun h3 vs3 ps3 o3 d3 tk3 k1 k2 kv k3 k4 => ?_⟩
    refine ⟨rfl, rfl, q h3 vs3 ps3 o3 T0 o0 k1 ?_ ?_ k3 ⟨fun b hb => (k4.but b hb).trans ((c2.but b hb).trans (c1.but b hb)), k4.at_⟩ b2 hT0a b3⟩
    · exact (List.Perm.cons _ k2).trans (pop_perm hone)
    · refine (List.Perm.cons _ kv).trans ?_
      cases v0 with
      | nil => exact absurd rfl hv0'
      | cons x r =>
        have hx : x = .ref T0 := by simpa using b1
        subst hx
        exact .cons _ (List.perm_append_singleton _ r).symm
end
end Mine
end
section
open PySem PySem.W PySem.Calls PyProof.Rows
set_option Elab.async false
set_option maxRecDepth 100000
set_option linter.all false
namespace Mine
/-- code that runs to its end -/
def CN (κ : Kx) (c : Code) (Q : Heap → Prop) (h : Heap) : Prop :=
  ∀ d tk, codeAny κ.M κ.A c (fun r s' => match r with
    | .ok .next => s'.gens = κ.g ∧ s'.os = κ.os ∧ Q s'.heap
    | _ => False) ⟨h, κ.g, d, tk, κ.os⟩
theorem CN.use {κ : Kx} {c : Code} {Q : Heap → Prop} {R : Result → Shared → Prop} {s : Shared} (x : CN κ c Q s.heap) (hg : s.gens = κ.g) (ho : s.os = κ.os)
    (k : ∀ s', s'.gens = κ.g → s'.os = κ.os → Q s'.heap → R (.ok .next) s') : codeAny κ.M κ.A c R s := by
  obtain ⟨h, g, d, tk, os⟩ := s
  dsimp only at hg ho
  subst hg ho
  refine codeAny_mono (x d tk) (fun r s z => ?_)
  rcases r with e | (_ | _ | _ | v)
  · exact z.elim
  · exact k s z.1 z.2.1 z.2.2
  · exact z.elim
  · exact z.elim
  · exact z.elim
/-- an iterator with the unpacking of its owned tuple; it writes only the objects ws -/
structure Iter2 (κ : Kx) (target : Expr) (I : Addr) (ws : List Addr) (dep : Ledger) (n : Nat) (P : Nat → Value → Heap → Heap → Prop) (Z : Nat → Heap → Prop) : Prop where
  frame : ∀ i h h', Z i h → (∀ b o, (b ∈ ws ∨ b ∈ dep.map (·.1)) → h.get? b = some o → h'.get? b = some o) → Z i h'
  item : ∀ i h, i < n → Z i h → T κ (pyNext (.ref I)) (fun r h₁ => ∃ v, r = some v ∧ T κ (letOwnedTupleGo target (.ref I) v) (fun _ h₂ => Z (i + 1) h₂ ∧ (∀ b o, b ∉ ws → h.get? b = some o → h₂.get? b = some o) ∧ P i v h h₂) h₁) h
  done : ∀ h, Z n h → T κ (pyNext (.ref I)) (fun r h₁ => r = none ∧ ∀ b o, b ∉ ws → h.get? b = some o → h₁.get? b = some o) h
  live : ∀ i h, Z i h → ∀ b ∈ ws, ∃ o, h.get? b = some o
  self : ∀ i h, Z i h → ∀ Q : Value → Heap → Prop, Q (.ref I) h → T κ (pyIter (.ref I)) Q h
  mem : I ∈ ws
theorem Iter.two {κ : Kx} {I : Addr} {dep : Ledger} {n : Nat} {P : Nat → Value → Prop} {Z : Nat → Heap → Prop} (W : Iter κ I dep n P Z) (x : Str) (px : Pos) : Iter2 κ (.Name x px) I [I] dep n (fun i v _ _ => P i v) Z where
  frame := fun i h h' z k => W.walks.frame i h h' z fun b hb o e => k b o (by rcases List.mem_cons.mp hb with rfl | hb; exact .inl (.head _); exact .inr hb) e
  item := fun i h hi z d tk => W.walks.item i ⟨h, κ.g, d, tk, κ.os⟩ _ _ hi z fun v h' tk' hP hz hk => ⟨rfl, rfl, v, rfl, fun d tk => wpAny_pure ⟨rfl, rfl, hz, hk, hP⟩⟩
  done := fun h z d tk => W.walks.done ⟨h, κ.g, d, tk, κ.os⟩ _ _ z fun h' tk' hk => ⟨rfl, rfl, rfl, hk⟩
  live := fun i h z b hb => by rw [List.mem_singleton.mp hb]; exact W.live i h z
  self := fun i h z Q q d tk => W.walks.self i ⟨h, κ.g, d, tk, κ.os⟩ _ _ z ⟨rfl, rfl, q⟩
  mem := .head _
/-- a new iterator -/
def ItNew2 (κ : Kx) (target : Expr) (h : Heap) (I : Addr) (ws : List Addr) (dep : Ledger) (n : Nat) (P : Nat → Value → Heap → Heap → Prop) (h' : Heap) : Prop :=
  (∀ b ∈ ws, h.get? b = none) ∧ Keep h h' ∧ ∃ nd Z, (∀ p ∈ nd, h.get? p.1 = none ∧ h'.get? p.1 = some p.2 ∧ p.1 ∉ ws) ∧ Iter2 κ target I ws (dep ++ nd) n P Z ∧ Z 0 h'
theorem ItNew.two {κ : Kx} {h h' : Heap} {I : Addr} {dep : Ledger} {n : Nat} {P : Nat → Value → Prop} (it : ItNew κ h I dep n P h') (x : Str) (px : Pos) : ItNew2 κ (.Name x px) h I [I] dep n (fun i v _ _ => P i v) h' := by
  obtain ⟨e, k, nd, Z, hnd, W, z⟩ := it
  exact ⟨fun b hb => by rw [List.mem_singleton.mp hb]; exact e, k, nd, Z, fun p hp => ⟨(hnd p hp).1, (hnd p hp).2.1, by simpa using (hnd p hp).2.2⟩, W.two x px, z⟩
section
variable {κ : Kx} {h : Heap}
theorem keepBut_ws {ws : List Addr} {h h' : Heap} {w : World} {H : Heap} {L : Addr} {l : List (Str × Value)} {N X : Ledger} (S : St w H L l N X h) (hk : ∀ b o, b ∉ ws → h.get? b = some o → h'.get? b = some o)
    (hH : ∀ b ∈ ws, H.get? b = none) (hL : L ∉ ws) (hN : ∀ p ∈ N, p.1 ∉ ws) (hX : ∀ p ∈ X, p.1 ∉ ws) : St w H L l N X h' := by
  obtain ⟨oL, es, ep, eL, r⟩ := S.ns
  refine ⟨S.top, ⟨oL, es, ep, hk _ _ hL eL, r⟩, fun b o e => hk b o (fun q => ?_) (S.keep b o e), S.offL, fun p hp => ⟨hk _ _ (hN p hp) (S.n p hp).1, (S.n p hp).2⟩, fun p hp => ⟨hk _ _ (hX p hp) (S.x p hp).1, (S.x p hp).2⟩, S.off⟩
  rw [hH b q] at e; cases e
/-- one turn of a loop, the iterator's part -/
theorem turn_item {C I : Addr} {ws : List Addr} {H : Heap} {dep : Ledger} {n : Nat} {P : Nat → Value → Heap → Heap → Prop} {Z : Nat → Heap → Prop} {target : Expr} {Inv : Nat → List (Str × Value) → Ledger → Ledger → Prop}
    (W : Iter2 κ target I ws dep n P Z) (hH : ∀ b ∈ ws, H.get? b = none) (hC : C ∉ ws) (hdep : ∀ i l N X, Inv i l N X → ∀ p ∈ dep, p ∈ N ∨ p ∈ X ∨ H.get? p.1 = some p.2)
    {i : Nat} {l : List (Str × Value)} {N X : Ledger} {h h₂ : Heap} (S : St κ.w H C l N X h) (hN : ∀ p ∈ N, p.1 ∉ ws) (hX : ∀ p ∈ X, p.1 ∉ ws) (hI : Inv i l N X)
    (hz : Z (i + 1) h₂) (hk : ∀ b o, b ∉ ws → h.get? b = some o → h₂.get? b = some o) :
    ∃ H', Keep H H' ∧ St κ.w H' C l N X h₂ ∧ (∀ b ∈ ws, H'.get? b ≠ none) ∧ (∀ b, h.get? b = none → b ∉ ws → True) ∧
      ∀ l' N' X' h', St κ.w H' C l' N' X' h' → Inv (i + 1) l' N' X' → Z (i + 1) h' ∧ St κ.w H C l' N' X' h' ∧ (∀ p ∈ N', p.1 ∉ ws) ∧ (∀ p ∈ X', p.1 ∉ ws) := by
  have S₁ := keepBut_ws S hk hH hC hN hX
  have depOk : ∀ {i l N X H' h}, Keep H H' → Inv i l N X → St κ.w H' C l N X h → ∀ p ∈ dep, h.get? p.1 = some p.2 ∧ p.1 ≠ C := fun {i l N X H' h} hk hi S p hp => by
    rcases hdep i l N X hi p hp with q | q | q
    · exact ⟨(S.n p q).1, (S.n p q).2.1⟩
    · exact ⟨(S.x p q).1, (S.x p q).2.1⟩
    · exact ⟨S.keep _ _ (hk _ _ q), fun e => by have := S.offL; rw [← e, hk _ _ q] at this; cases this⟩
  have no : ∀ {N : Ledger}, (∀ p ∈ N, p.1 ∉ ws) → ∀ b ∈ ws, b ∉ N.map (·.1) := fun h b hb q => by obtain ⟨p, hp, e⟩ := List.mem_map.mp q; exact h p hp (e ▸ hb)
  have sub : Keep H (St.reb C N X h₂) := S₁.sub_reb
  have hreb : ∀ b ∈ ws, ∀ o, h₂.get? b = some o → (St.reb C N X h₂).get? b = some o := fun b hb o e => St.reb_get e (fun q => hC (q ▸ hb)) (no hN b hb) (no hX b hb)
  refine ⟨_, sub, S₁.rebase, fun b hb => ?_, fun _ _ _ => trivial, fun l' N' X' h' S' hI' => ⟨W.frame _ _ _ hz fun b o hb e => ?_, S'.back sub S.top, fun p hp e => ?_, fun p hp e => ?_⟩⟩
  · obtain ⟨o, ho⟩ := W.live _ _ hz b hb
    rw [hreb b hb o ho]; simp
  · rcases hb with hb | hb
    · exact S'.keep _ _ (hreb b hb o e)
    · obtain ⟨p, hp, rfl⟩ := List.mem_map.mp hb
      have a1 := (depOk (Keep.refl H) hI S₁ p hp).1
      have a2 := (depOk sub hI' S' p hp).1
      rw [a1] at e; cases e; exact a2
  · obtain ⟨o, ho⟩ := W.live _ _ hz _ e
    have := (S'.n p hp).2.2; rw [hreb _ e o ho] at this; cases this
  · obtain ⟨o, ho⟩ := W.live _ _ hz _ e
    have := (S'.x p hp).2.2; rw [hreb _ e o ho] at this; cases this
/-- the loop of a comprehension over an iterator -/
theorem CN_iter {e : Expr} {dp : Nat} {acc : Value} {cenv : Env} {C I : Addr} {ws : List Addr} {H : Heap} {dep : Ledger} {n : Nat} {P : Nat → Value → Heap → Heap → Prop} {Z : Nat → Heap → Prop} {l : List (Str × Value)} {N X : Ledger} {Q : Heap → Prop}
    {target : Expr} {rest : Value → (Heap → Prop) → Heap → Prop} (Inv : Nat → List (Str × Value) → Ledger → Ledger → Prop)
    (hden : κ.M.den (.compLoop e dp (.ref I) acc cenv) = (compTurn e dp (.ref I) acc cenv).onRaise (fun x => do noteFrame x cenv; theTreesLotGoes x))
    (hund : κ.A.under (.compLoop e dp (.ref I) acc cenv) = κ.A)
    (hq : (Code.compLoop e dp (.ref I) acc cenv).quiet = true)
    (hturn : ∀ (h : Heap) (Qf : Fin → Heap → Prop), T κ (pyNext (.ref I)) (fun r h₁ => match r with
      | none => Qf (.done .next) h₁
      | some v => T κ (letOwnedTupleGo target (.ref I) v) (fun _ h₁ => rest v (fun h₂ => Qf (.again (.compLoop e dp (.ref I) acc cenv)) h₂) h₁) h₁) h → T κ (compTurn e dp (.ref I) acc cenv) Qf h)
    (hmono : ∀ v (Q Q' : Heap → Prop) h, (∀ h, Q h → Q' h) → rest v Q h → rest v Q' h)
    (W : Iter2 κ target I ws dep n P Z) (hz : Z 0 h) (S : St κ.w H C l N X h) (hH : ∀ b ∈ ws, H.get? b = none) (hC : C ∉ ws) (hN : ∀ p ∈ N, p.1 ∉ ws) (hX : ∀ p ∈ X, p.1 ∉ ws) (h0 : Inv 0 l N X)
    (hdep : ∀ i l N X, Inv i l N X → ∀ p ∈ dep, p ∈ N ∨ p ∈ X ∨ H.get? p.1 = some p.2)
    (turn : ∀ i v l N X H' h h₁, Keep H H' → i < n → P i v h h₁ → Inv i l N X → St κ.w H C l N X h → St κ.w H' C l N X h₁ → rest v (fun h' => ∃ l' N' X', St κ.w H' C l' N' X' h' ∧ Inv (i + 1) l' N' X') h₁)
    (done : ∀ l N X h, Inv n l N X → St κ.w H C l N X h → Q h) : CN κ (.compLoop e dp (.ref I) acc cenv) Q h := fun d tk => by
  refine codeAny_loop (M := κ.M) hq (fun k s' => s'.gens = κ.g ∧ s'.os = κ.os ∧ ∃ i l N X, Z i s'.heap ∧ St κ.w H C l N X s'.heap ∧ (∀ p ∈ N, p.1 ∉ ws) ∧ (∀ p ∈ X, p.1 ∉ ws) ∧ Inv i l N X ∧ i ≤ n ∧ k = n + 1 - i) ?_ (n + 1)
    ⟨rfl, rfl, 0, l, N, X, hz, S, hN, hX, h0, Nat.zero_le _, rfl⟩
  rintro k s' ⟨g3, o3, i, l, N, X, hz, S, hN, hX, hI, hi, rfl⟩
  rw [hden, hund]
  refine wpAny_noted ?_
  refine (hturn s'.heap (fun fin h' => (fin = .done .next ∧ Q h') ∨ (fin = .again (.compLoop e dp (.ref I) acc cenv) ∧ ∃ m, m < n + 1 - i ∧ ∃ i l N X, Z i h' ∧ St κ.w H C l N X h' ∧ (∀ p ∈ N, p.1 ∉ ws) ∧ (∀ p ∈ X, p.1 ∉ ws) ∧ Inv i l N X ∧ i ≤ n ∧ m = n + 1 - i)) ?_).use (s := s') g3 o3 fun fin s₂ g o z => ?_
  · by_cases hlt : i < n
    · refine (W.item i _ hlt hz).mono fun r h₁ ⟨v, hr, z⟩ => ?_
      subst hr
      refine z.mono fun _ h₂ ⟨hz₂, hk, hP⟩ => ?_
      obtain ⟨H', sub, S', _, _, fin⟩ := turn_item W hH hC hdep S hN hX hI hz₂ hk
      refine hmono _ _ _ _ (fun h' z => ?_) (turn i v l N X H' _ h₂ sub hlt hP hI S S')
      obtain ⟨l', N', X', S'', hI'⟩ := z
      obtain ⟨b1, b2, b3, b4⟩ := fin l' N' X' h' S'' hI'
      exact .inr ⟨rfl, n + 1 - (i + 1), by omega, i + 1, l', N', X', b1, b2, b3, b4, hI', hlt, rfl⟩
    · have hin : i = n := by omega
      subst hin
      refine (W.done _ hz).mono fun r h₁ ⟨hr, hk⟩ => ?_
      subst hr
      exact .inl ⟨rfl, done l N X h₁ hI (keepBut_ws S hk hH hC hN hX)⟩
  · rcases z with ⟨rfl, z⟩ | ⟨rfl, m, hm, z⟩
    · exact ⟨g, o, z⟩
    · exact ⟨rfl, m, hm, g, o, z⟩
end
end Mine
end
section
open PySem PySem.W PySem.Calls PyProof.Rows
set_option Elab.async false
set_option maxRecDepth 100000
set_option linter.all false
namespace Mine
theorem St.addX {w : World} {H : Heap} {L : Addr} {l : List (Str × Value)} {N X : Ledger} {h : Heap} {a : Addr} {o : Obj} (S : St w H L l N X h) (e : h.get? a = some o) (h1 : a ≠ L) (h2 : H.get? a = none) (h3 : ∀ p ∈ N, p.1 ≠ a) :
    St w H L l N ((a, o) :: X) h := by
  refine ⟨S.top, S.ns, S.keep, S.offL, S.n, fun p hp => ?_, fun p hp q hq => ?_⟩
  · rcases List.mem_cons.mp hp with rfl | hp
    · exact ⟨e, h1, h2⟩
    · exact S.x p hp
  · rcases List.mem_cons.mp hp with rfl | hp
    · exact fun e => h3 q hq e.symm
    · exact S.off p hp q hq
/-- the frame of a comprehension -/
def NewEnv (κ : Kx) (scope : Scope) (env : Env) (cl : List (Str × Addr)) (F : List (Str × Addr) → Ledger → Prop) : Prop :=
  ∀ (h : Heap) (Q : Env → Heap → Prop), (∀ C cl' X0 h' cenv, F cl' X0 → { cenv with scope := relabel scope env } = compEnvC scope cl' C env → cenv.locals = C → h.get? C = none → h'.Ns C (look []) → Keep h h' →
      (∀ p ∈ X0, h.get? p.1 = none ∧ h'.get? p.1 = some p.2 ∧ p.1 ≠ C) → Q cenv h') →
    T κ (newFunctionEnv scope env.globals cl [] env.qual none .none (some env)) Q h
theorem NewEnv.plain {κ : Kx} {scope : Scope} {env : Env} {cl : List (Str × Addr)} (hcell : ∀ y ∈ scope.names, y.2 ≠ .cell) (hkind : scope.kind = .function) : NewEnv κ scope env cl (fun cl' X0 => cl' = cl ∧ X0 = []) := fun h Q q d tk => by
  refine wpAny_newFunctionEnv hcell (by intro y hy; simp at hy) (fun h₁ hns₁ hsb₁ => ?_) hkind
  refine ⟨rfl, rfl, q h.objs.size cl [] h₁ _ ⟨rfl, rfl⟩ rfl rfl (get_size_none h) hns₁ (fun b o e => ?_) (fun p hp => nomatch hp)⟩
  exact hsb₁.extBut b o (Nat.ne_of_lt (Heap.lt_size e)) (Heap.get?_push_of_some _ e)
section
variable {κ : Kx} {env : Env} {h : Heap}
/-- what one says of a list comprehension, its frame and its end -/
def LCoreE (κ : Kx) (env : Env) (elt target iter : Expr) (ifs : List Expr) (rest : List Comprehension) (scope : Scope) (pos : Pos) (F : List (Str × Addr) → Ledger → Prop) (Q : Value → Heap → Prop) (h : Heap) : Prop :=
  T κ (eval iter env) (fun xv h₁ => T κ (pyIter xv) (fun it h₂ => ∃ I oI, it = .ref I ∧ h₂.get? I = some oI ∧
      (∀ h, Keep h₂ h → ∀ Qi : Value → Heap → Prop, Qi (.ref I) h → T κ (pyIter (.ref I)) Qi h) ∧
      ∀ D C cl' X0 h, F cl' X0 → h₂.get? D = none → h₂.get? C = none → D ≠ C → h.Ns C (look []) → Keep h₂ h → (∀ p ∈ X0, h₂.get? p.1 = none ∧ h.get? p.1 = some p.2 ∧ p.1 ≠ C ∧ p.1 ≠ D) → h.get? D = some (lso [] 0) →
        CN κ (.compLoop (.ListComp elt (⟨target, iter, ifs, 0⟩ :: rest) scope pos) 0 (.ref I) (.ref D) (compEnvC scope cl' C env)) (fun h' => (∃ m, h'.Ns C m) ∧ ∀ h'', (∀ b, b ≠ C → h''.get? b = h'.get? b) → Q (.ref D) h'') h) h₁) h
/-- the whole of a list comprehension of one `for` -/
theorem T_listcomp_core {elt target iter : Expr} {ifs : List Expr} {rest : List Comprehension} {scope : Scope} {pos : Pos} {cl : List (Str × Addr)} {F : List (Str × Addr) → Ledger → Prop} {Q : Value → Heap → Prop}
    (hclos : closureFor scope env = pure cl) (hkind : scope.kind = .function) (hnames : ∀ y ∈ scope.names, y.2 = .local → scope.names.lookup y.1 = some .local) (hs : ∀ x, foldedSetIterable iter env x = pure x)
    (hne : NewEnv κ scope env cl F)
    (e : LCoreE κ env elt target iter ifs rest scope pos F Q h) :
    T κ (eval (.ListComp elt (⟨target, iter, ifs, 0⟩ :: rest) scope pos) env) Q h := fun d tk => by
  have e : T κ (eval iter env) _ h := e
  rw [eval_ListComp]
  refine wpAny_comprehension_free (use := none) rfl hs hclos hkind hnames (e.use (s := ⟨h, κ.g, d, tk, κ.os⟩) rfl rfl fun xv s₁ g1 o1 z => z.use g1 o1 fun it s₂ g2 o2 z => ?_)
  obtain ⟨I, oI, rfl, hI, hself, body⟩ := z
  refine wpAny_newObj_type ?_
  have hD0 := get_size_none s₂.heap
  have hk1 := keep_push s₂.heap { cls := .type "list", data := .seq ([] : List Value).toArray }
  refine (hne _ (fun cenv h' => ∃ C cl' X0, F cl' X0 ∧ { cenv with scope := relabel scope env } = compEnvC scope cl' C env ∧ cenv.locals = C ∧ (s₂.heap.push (lso [] 0)).get? C = none ∧ h'.Ns C (look []) ∧ Keep (s₂.heap.push (lso [] 0)) h' ∧
      (∀ p ∈ X0, (s₂.heap.push (lso [] 0)).get? p.1 = none ∧ h'.get? p.1 = some p.2 ∧ p.1 ≠ C)) (fun C cl' X0 h' cenv a1 a2 a3 a4 a5 a6 a7 => ⟨C, cl', X0, a1, a2, a3, a4, a5, a6, a7⟩)).use (s := { s₂ with heap := s₂.heap.push (lso [] 0) }) g2 o2 fun cenv s₄ g4 o4 z => ?_
  obtain ⟨C, cl', X0, a1, a2, a3, a4, a5, a6, a7⟩ := z
  have non : ∀ {b : Addr}, (s₂.heap.push (lso [] 0)).get? b = none → s₂.heap.get? b = none ∧ b ≠ s₂.heap.objs.size := fun {b} q => by
    constructor
    · cases hc : s₂.heap.get? b with
      | none => rfl
      | some o => rw [keep_push _ _ _ _ hc] at q; cases q
    · intro e; rw [e, Heap.get?_push_size _ rfl] at q; cases q
  have hD4 : s₄.heap.get? s₂.heap.objs.size = some (lso [] 0) := a6 _ _ (Heap.get?_push_size _ rfl)
  rw [a2]
  have key : CN κ (.compLoop (.ListComp elt (⟨target, iter, ifs, 0⟩ :: rest) scope pos) 0 (.ref I) (.ref s₂.heap.objs.size) (compEnvC scope cl' C env)) (fun h' => (∃ m, h'.Ns C m) ∧ ∀ h'', (∀ b, b ≠ C → h''.get? b = h'.get? b) → Q (.ref s₂.heap.objs.size) h'') s₄.heap :=
    body _ C cl' X0 s₄.heap a1 hD0 (non a4).1 (fun e => (non a4).2 e.symm) a5 ((keep_push _ _).trans a6) (fun p hp => ⟨(non (a7 p hp).1).1, (a7 p hp).2.1, (a7 p hp).2.2, (non (a7 p hp).1).2⟩) hD4
  have fin : ∀ s : Shared, s.heap = s₄.heap → s.gens = κ.g → s.os = κ.os → codeAny κ.M κ.A (.compLoop (.ListComp elt (⟨target, iter, ifs, 0⟩ :: rest) scope pos) 0 (.ref I) (.ref s₂.heap.objs.size) (compEnvC scope cl' C env))
      (compPost κ.M κ.A (fun _ _ => False) none (fun a s' => s'.gens = κ.g ∧ s'.os = κ.os ∧ Q a s'.heap) (.ref s₂.heap.objs.size) cenv.locals) s := fun s hh g o => by
    refine CN.use (s := s) (by rw [hh]; exact key) g o fun s' g o z => ?_
    obtain ⟨⟨m, hm⟩, z⟩ := z
    rw [a3]
    exact ⟨m, hm, fun h' hsb => ⟨g, o, z h' hsb.2⟩⟩
  refine codeAny_compStart_list (fin s₄ rfl g4 o4) ?_
  exact (hself s₄.heap ((keep_push _ _).trans a6) (fun v h' => v = .ref I ∧ h' = s₄.heap) ⟨rfl, rfl⟩).use (s := s₄) g4 o4 fun v s₅ g5 o5 z => by
    obtain ⟨rfl, hh⟩ := z
    exact fin s₅ hh g5 o5
/-- what one says of a list comprehension behind its iterator -/
def LComp (κ : Kx) (env : Env) (scope : Scope) (F : List (Str × Addr) → Ledger → Prop) (target elt : Expr) (ifs : List Expr) (Q : Value → Heap → Prop) (it : Value) (h₂ : Heap) : Prop :=
  ∃ (I : Addr) (ws : List Addr) (dep : Ledger) (n : Nat) (P : Nat → Value → Heap → Heap → Prop) (h₁ : Heap) (N : Ledger) (Inv : List (Str × Addr) → Nat → List Value → Ledger → Ledger → Prop),
    it = .ref I ∧ n ≤ 100000 ∧ ItNew2 κ target h₁ I ws dep n P h₂ ∧ Led h₁ N ∧ TopIn κ.w (hid h₁ N) ∧ (∀ cl' X0, F cl' X0 → Inv cl' 0 [] N X0) ∧
    (∀ cl' i ys N' X', Inv cl' i ys N' X' → ∀ p ∈ dep, p ∈ N' ∨ (hid h₁ N).get? p.1 = some p.2) ∧
    (∀ C cl' i v ys l N' X' H' h h', Keep (hid h₁ N) H' → i < n → P i v h h' → Inv cl' i ys N' X' → St κ.w H' C l N' X' h' →
      T κ (assign target (compEnvC scope cl' C env) v) (fun _ h₃ => T κ (forIn ifs true fun c r => if r = true then do let ok ← isTrue c (compEnvC scope cl' C env) (eval c (compEnvC scope cl' C env)); pure (ForInStep.yield ok) else pure (ForInStep.yield r))
        (fun ok h₄ => if ok = true then T κ (eval elt (compEnvC scope cl' C env)) (fun y h₅ => ∃ l N' X', St κ.w H' C l N' X' h₅ ∧ Inv cl' (i + 1) (ys ++ [y]) N' X') h₄
          else ∃ l N' X', St κ.w H' C l N' X' h₄ ∧ Inv cl' (i + 1) ys N' X') h₃) h') ∧
    (∀ cl' ys N' X' D o h', Inv cl' n ys N' X' → LsO ys o → Led h' ((D, o) :: N') → h₁.get? D = none → (∀ p ∈ N', p.1 ≠ D) → KeepBut h₁ N h' → NewIn h₁ N ((D, o) :: N') → Q (.ref D) h')
theorem T_bind {α β : Type} {t : Sem α} {f : α → Sem β} {Q : β → Heap → Prop} (x : T κ t (fun a h' => T κ (f a) Q h') h) : T κ (t >>= f) Q h := fun d tk =>
  wpAny_bind (x.use (s := ⟨h, κ.g, d, tk, κ.os⟩) rfl rfl fun a s' g o z => z.use g o fun b s'' g o z => ⟨g, o, z⟩)
theorem T_standAt {p : Pos} {Q : Unit → Heap → Prop} (q : Q () h) : T κ (standAt p) Q h := fun _ _ => wpAny_standAt ⟨rfl, rfl, q⟩
theorem T_pure {α : Type} {a : α} {Q : α → Heap → Prop} (q : Q a h) : T κ (pure a) Q h := fun _ _ => wpAny_pure ⟨rfl, rfl, q⟩
def restL (κ : Kx) (target elt : Expr) (ifs : List Expr) (cenv : Env) (acc v : Value) (Q : Heap → Prop) (h : Heap) : Prop :=
  T κ (assign target cenv v) (fun _ h₃ => T κ (forIn ifs true fun c r => if r = true then do let ok ← isTrue c cenv (eval c cenv); pure (ForInStep.yield ok) else pure (ForInStep.yield r)) (fun ok h₄ =>
    if ok = true then T κ (eval elt cenv) (fun y h₅ => T κ (call (.builtin "list.append") [acc, y]) (fun _ h₆ => Q h₆) h₅) h₄ else Q h₄) h₃) h
theorem restL_mono {target elt : Expr} {ifs : List Expr} {cenv : Env} {acc v : Value} {Q Q' : Heap → Prop} {h : Heap} (k : ∀ h, Q h → Q' h) (x : restL κ target elt ifs cenv acc v Q h) : restL κ target elt ifs cenv acc v Q' h := by
  refine T.mono x fun _ h₃ z => z.mono fun ok h₄ z => ?_
  cases ok with
  | true => exact T.mono z fun y h₅ z => z.mono fun _ h₆ z => k _ z
  | false => exact k _ z
theorem turn_list {elt target iter : Expr} {ifs : List Expr} {scope : Scope} {pos : Pos} {I : Addr} {acc : Value} {cenv : Env} (h : Heap) (Qf : Fin → Heap → Prop)
    (x : T κ (pyNext (.ref I)) (fun r h₁ => match r with
      | none => Qf (.done .next) h₁
      | some v => T κ (letOwnedTupleGo target (.ref I) v) (fun _ h₁ => restL κ target elt ifs cenv acc v (fun h₂ => Qf (.again (.compLoop (.ListComp elt [⟨target, iter, ifs, 0⟩] scope pos) 0 (.ref I) acc cenv)) h₂) h₁) h₁) h) :
    T κ (compTurn (.ListComp elt [⟨target, iter, ifs, 0⟩] scope pos) 0 (.ref I) acc cenv) Qf h := by
  rw [compTurn_list]
  refine T_bind (T_standAt (T_bind (x.mono fun r h₁ z => ?_)))
  cases r with
  | none => exact T_pure z
  | some v =>
    refine T_bind (z.mono fun _ h₁ z => T_bind (T.mono z fun _ h₃ z => T_bind (z.mono fun ok h₄ z => ?_)))
    cases ok with
    | true => exact T_bind (T_bind (T.mono z fun y h₅ z => T_bind (z.mono fun _ h₆ z => T_pure (T_pure z))))
    | false => exact T_pure z
theorem hid_keep_hide {h₁ h₃ : Heap} {N : Ledger} {as : List Addr} (k : Keep h₁ h₃) (hn : ∀ a ∈ as, h₁.get? a = none ∨ a ∈ N.map (·.1)) : Keep (hid h₁ N) (hideAll h₃ as) := fun b o e => by
  refine hideAll_get _ (k _ _ (hid_sub _ _ e)) fun hm => ?_
  rcases hn b hm with q | q
  · rw [hid_sub _ _ e] at q; cases q
  · obtain ⟨p, hp, rfl⟩ := List.mem_map.mp q
    rw [hid_none hp] at e; cases e
theorem LCore_lcomp {elt target iter : Expr} {ifs : List Expr} {scope : Scope} {pos : Pos} {F : List (Str × Addr) → Ledger → Prop} {Q : Value → Heap → Prop}
    (e : T κ (eval iter env) (fun xv h₁ => T κ (pyIter xv) (fun it h₂ => LComp κ env scope F target elt ifs Q it h₂) h₁) h) : LCoreE κ env elt target iter ifs [] scope pos F Q h := by
  refine T.mono e fun xv h₁' z => z.mono fun it h₂ z => ?_
  obtain ⟨I, ws, dep, n, P, h₁, N, Inv, rfl, hn, ⟨hws, hk12, nd, Z, hnd, W, hz⟩, led, top, h0, hdep, turn, done⟩ := z
  obtain ⟨oI, heI⟩ := W.live _ _ hz I W.mem
  refine ⟨I, oI, rfl, heI, fun h k Qi q => W.self 0 h (W.frame _ _ _ hz fun b o _ e => k b o e) Qi q, fun D C cl' X0 h₃ hF hD hC hDC hns hk23 hX0 hDo => ?_⟩
  have fr12 : ∀ {b : Addr}, h₂.get? b = none → h₁.get? b = none := fun {b} q => by
    cases hc : h₁.get? b with
    | none => rfl
    | some o => rw [hk12 _ _ hc] at q; cases q
  have hk13 := hk12.trans hk23
  let as : List Addr := D :: C :: (ws ++ (X0.map (·.1) ++ N.map (·.1)))
  have hCN : ∀ p ∈ N, p.1 ≠ C := fun p hp e => by have := hk12 _ _ (led p hp); rw [e, hC] at this; cases this
  have hDN : ∀ p ∈ N, p.1 ≠ D := fun p hp e => by have := hk12 _ _ (led p hp); rw [e, hD] at this; cases this
  have base : Keep (hid h₁ N) (hideAll h₃ as) := hid_keep_hide hk13 fun a ha => by
    rcases List.mem_cons.mp ha with rfl | ha
    · exact .inl (fr12 hD)
    · rcases List.mem_cons.mp ha with rfl | ha
      · exact .inl (fr12 hC)
      · rcases List.mem_append.mp ha with ha | ha
        · exact .inl (hws a ha)
        · rcases List.mem_append.mp ha with ha | ha
          · obtain ⟨p, hp, rfl⟩ := List.mem_map.mp ha; exact .inl (fr12 (hX0 p hp).1)
          · exact .inr ha
  have inD : D ∈ as := .head _
  have inC : C ∈ as := .tail _ (.head _)
  have inW : ∀ b ∈ ws, b ∈ as := fun b hb => .tail _ (.tail _ (List.mem_append_left _ hb))
  have inX : ∀ p ∈ X0, p.1 ∈ as := fun p hp => .tail _ (.tail _ (List.mem_append_right _ (List.mem_append_left _ (List.mem_map_of_mem hp))))
  have inN : ∀ p ∈ N, p.1 ∈ as := fun p hp => .tail _ (.tail _ (List.mem_append_right _ (List.mem_append_right _ (List.mem_map_of_mem hp))))
  have liveW : ∀ b ∈ ws, ∃ o, h₂.get? b = some o := fun b hb => W.live _ _ hz b hb
  have S : St κ.w (hideAll h₃ as) C [] N ((D, lso [] 0) :: X0) h₃ := by
    refine ⟨top.keep base, hns, fun b o e => of_hideAll _ e, hideAll_none _ inC, fun p hp => ⟨hk13 _ _ (led p hp), hCN p hp, hideAll_none _ (inN p hp)⟩, fun p hp => ?_, fun p hp q hq e => ?_⟩
    · rcases List.mem_cons.mp hp with rfl | hp
      · exact ⟨hDo, hDC, hideAll_none _ inD⟩
      · exact ⟨(hX0 p hp).2.1, (hX0 p hp).2.2.1, hideAll_none _ (inX p hp)⟩
    · rcases List.mem_cons.mp hp with rfl | hp
      · exact hDN q hq e.symm
      · have := hk12 _ _ (led q hq); rw [← e, (hX0 p hp).1] at this; cases this
  have hCw : C ∉ ws := fun hb => by obtain ⟨o, ho⟩ := liveW _ hb; rw [hC] at ho; cases ho
  have hDw : D ∉ ws := fun hb => by obtain ⟨o, ho⟩ := liveW _ hb; rw [hD] at ho; cases ho
  refine CN_iter (κ := κ) (ws := ws) (target := target) (rest := restL κ target elt ifs (compEnvC scope cl' C env) (.ref D)) (fun i l N' X' => ∃ ys o X'', X' = (D, o) :: X'' ∧ LsO ys o ∧ ys.length ≤ i ∧ i ≤ n ∧ (∀ p ∈ N', p.1 ≠ D) ∧ (∀ p ∈ X'', p.1 ≠ D) ∧ Inv cl' i ys N' X'')
    rfl rfl rfl (fun h Qf x => turn_list h Qf x) (fun v Q Q' h k x => restL_mono k x) W (W.frame _ _ _ hz fun b o _ e => hk23 b o e) S (fun b hb => hideAll_none _ (inW b hb)) hCw
    (fun p hp hb => by have := hws _ hb; rw [led p hp] at this; cases this) (fun p hp hb => ?_) ⟨[], _, X0, rfl, ⟨0, rfl⟩, Nat.le_refl _, Nat.zero_le _, hDN, fun p hp => (hX0 p hp).2.2.2, h0 cl' X0 hF⟩ (fun i l N' X' hi p hp => ?_) (fun i v l N' X' H' h h' sub hlt hP hI S S' => ?_) (fun l N' X' h' hI S => ?_)
  · rcases List.mem_cons.mp hp with rfl | hp
    · exact hDw hb
    · obtain ⟨o, ho⟩ := liveW _ hb; rw [(hX0 p hp).1] at ho; cases ho
  · obtain ⟨ys, o, X'', rfl, _, _, _, _, _, hI⟩ := hi
    rcases List.mem_append.mp hp with hp | hp
    · rcases hdep _ _ _ _ _ hI p hp with q | q
      · exact .inl q
      · exact .inr (.inr (base _ _ q))
    · refine .inr (.inr (hideAll_get _ (hk23 _ _ (hnd p hp).2.1) fun hm => ?_))
      rcases List.mem_cons.mp hm with q | hm
      · have := (hnd p hp).2.1; rw [q, hD] at this; cases this
      · rcases List.mem_cons.mp hm with q | hm
        · have := (hnd p hp).2.1; rw [q, hC] at this; cases this
        · rcases List.mem_append.mp hm with q | hm
          · exact (hnd p hp).2.2 q
          · rcases List.mem_append.mp hm with q | q
            · obtain ⟨r, hr, e⟩ := List.mem_map.mp q
              have := (hnd p hp).2.1; rw [← e, (hX0 r hr).1] at this; cases this
            · obtain ⟨r, hr, e⟩ := List.mem_map.mp q
              have := led r hr; rw [e, (hnd p hp).1] at this; cases this
  · obtain ⟨ys, o, X'', rfl, hL, hlen, hin, hND, hXD, hI⟩ := hI
    have S1 := S'.dropX (X' := X'') fun p hp => .tail _ hp
    have no : ∀ {N : Ledger}, (∀ p ∈ N, p.1 ≠ D) → D ∉ N.map (·.1) := fun h q => by obtain ⟨p, hp, e⟩ := List.mem_map.mp q; exact h p hp e
    have hDb : (St.reb C N' X'' h').get? D = some o := St.reb_get (S'.gx (.head _)) hDC (no hND) (no hXD)
    have hDH : H'.get? D = none := (S'.x _ (.head _)).2.2
    have s2 : Keep H' (St.reb C N' X'' h') := S1.sub_reb
    have fin : ∀ {ys' : List Value} {o' : Obj} {l2 : List (Str × Value)} {N2 X2 : Ledger} {h5 h6 : Heap}, St κ.w (St.reb C N' X'' h') C l2 N2 X2 h5 → Inv cl' (i + 1) ys' N2 X2 → LsO ys' o' → ys'.length ≤ i + 1 → Ch h5 D o' h6 →
        ∃ l' N' X', St κ.w H' C l' N' X' h6 ∧ ∃ ys o X'', X' = (D, o) :: X'' ∧ LsO ys o ∧ ys.length ≤ i + 1 ∧ i + 1 ≤ n ∧ (∀ p ∈ N', p.1 ≠ D) ∧ (∀ p ∈ X'', p.1 ≠ D) ∧ Inv cl' (i + 1) ys N' X'' := fun {ys' o' l2 N2 X2 h5 h6} S5 hI5 L5 hl5 c => by
      have n1 : ∀ p ∈ N2, p.1 ≠ D := fun p hp e => by have := (S5.n p hp).2.2; rw [e, hDb] at this; cases this
      have n2 : ∀ p ∈ X2, p.1 ≠ D := fun p hp e => by have := (S5.x p hp).2.2; rw [e, hDb] at this; cases this
      have S6 := ((S5.back s2 S'.top).addX (S5.keep _ _ hDb) hDC hDH n1).updX (.head _) c
      refine ⟨l2, N2, (D, o') :: X2, S6.dropX fun p hp => ?_, ys', o', X2, rfl, L5, hl5, hlt, n1, n2, hI5⟩
      rcases List.mem_cons.mp hp with rfl | hp
      · exact mem_upd_self (.head _)
      · exact mem_upd_of_ne (.tail _ hp) (n2 p hp)
    refine T.mono (turn C cl' i v ys l N' X'' _ h h' ((base.trans sub).trans s2) hlt hP hI S1.rebase) fun _ h₃ z => z.mono fun ok h₄ z => ?_
    cases ok with
    | true =>
      rw [if_pos rfl] at z ⊢
      refine T.mono z fun y h₅ z => ?_
      obtain ⟨l2, N2, X2, S5, hI5⟩ := z
      exact T_append hL (S5.keep _ _ hDb) (by omega) fun h6 o' L' c => fin S5 hI5 L' (by simp; omega) c
    | false =>
      rw [if_neg (by simp)] at z ⊢
      obtain ⟨l2, N2, X2, S5, hI5⟩ := z
      exact fin S5 hI5 hL (by omega) ⟨fun _ _ => rfl, S5.keep _ _ hDb⟩
  · obtain ⟨ys, o, X'', rfl, hL, hlen, _, hND, _, hI⟩ := hI
    refine ⟨⟨_, S.ns⟩, fun h'' hb => ?_⟩
    have up : ∀ {b : Addr} {o : Obj}, h'.get? b = some o → b ≠ C → h''.get? b = some o := fun e q => (hb _ q).trans e
    refine done cl' ys N' X'' D o h'' hI hL (fun p hp => ?_) (fr12 hD) hND (fun b o e q => ?_) (fun p hp => ?_)
    · rcases List.mem_cons.mp hp with rfl | hp
      · exact up (S.gx (.head _)) hDC
      · exact up (S.n p hp).1 (S.n p hp).2.1
    · have e2 := base _ _ (hid_get e q)
      exact up (S.keep _ _ e2) fun q => by rw [q, S.offL] at e2; cases e2
    · rcases List.mem_cons.mp hp with rfl | hp
      · exact .inr (fr12 hD)
      · by_cases q : p.1 ∈ N.map (·.1)
        · exact .inl q
        · right
          cases hc : h₁.get? p.1 with
          | none => rfl
          | some o => have := base _ _ (hid_get hc q); rw [(S.n p hp).2.2] at this; cases this
theorem T_lcomp {elt target iter : Expr} {ifs : List Expr} {scope : Scope} {pos : Pos} {cl : List (Str × Addr)} {F : List (Str × Addr) → Ledger → Prop} {Q : Value → Heap → Prop}
    (hclos : closureFor scope env = pure cl) (hkind : scope.kind = .function) (hnames : ∀ y ∈ scope.names, y.2 = .local → scope.names.lookup y.1 = some .local) (hs : ∀ x, foldedSetIterable iter env x = pure x)
    (hne : NewEnv κ scope env cl F)
    (e : T κ (eval iter env) (fun xv h₁ => T κ (pyIter xv) (fun it h₂ => LComp κ env scope F target elt ifs Q it h₂) h₁) h) :
    T κ (eval (.ListComp elt [⟨target, iter, ifs, 0⟩] scope pos) env) Q h := by
  exact T_listcomp_core hclos hkind hnames hs hne (LCore_lcomp e)
end
end Mine
end
section
open PySem PySem.W PySem.Calls PyProof.Rows
set_option Elab.async false
set_option maxRecDepth 100000
set_option linter.all false
namespace Mine
section
variable {κ : Kx} {env : Env} {h : Heap}
theorem T_tests_nil {Q : Bool → Heap → Prop} (q : Q true h) : T κ (forIn ([] : List Expr) true fun c r => if r = true then do let ok ← isTrue c env (eval c env); pure (ForInStep.yield ok) else pure (ForInStep.yield r)) Q h := fun _ _ =>
  wpAny_tests_nil ⟨rfl, rfl, q⟩
theorem T_tests_one {c : Expr} {Q : Bool → Heap → Prop} (q : T κ (isTrue c env (eval c env)) Q h) : T κ (forIn [c] true fun c r => if r = true then do let ok ← isTrue c env (eval c env); pure (ForInStep.yield ok) else pure (ForInStep.yield r)) Q h := fun d tk =>
  wpAny_tests_one (q d tk)
theorem T_assign_name {x : Str} {px : Pos} {v : Value} {Q : Unit → Heap → Prop} (q : T κ (storeName env x v) Q h) : T κ (assign (.Name x px) env v) Q h := fun d tk =>
  wpAny_assign_Name (q d tk)
/-- a list comprehension over one name that keeps all that was -/
def LRo (κ : Kx) (env : Env) (scope : Scope) (cl : List (Str × Addr)) (x : Str) (elt : Expr) (ifs : List Expr) (Q : Value → Heap → Prop) (it : Value) (h₂ : Heap) : Prop :=
  ∃ (I : Addr) (dep : Ledger) (n : Nat) (P : Nat → Value → Prop) (h₁ : Heap) (Inv : Nat → List Value → Ledger → Prop),
    it = .ref I ∧ n ≤ 100000 ∧ ItNew κ h₁ I dep n P h₂ ∧ Led h₁ dep ∧ TopIn κ.w h₁ ∧ Inv 0 [] [] ∧
    (∀ C i v ys N l X H' h', Keep h₁ H' → i < n → P i v → Inv i ys N → St κ.w H' C ((x, v) :: l) N X h' →
      T κ (forIn ifs true fun c r => if r = true then do let ok ← isTrue c (compEnvC scope cl C env) (eval c (compEnvC scope cl C env)); pure (ForInStep.yield ok) else pure (ForInStep.yield r))
        (fun ok h₄ => if ok = true then T κ (eval elt (compEnvC scope cl C env)) (fun y h₅ => ∃ l N' X', St κ.w H' C l N' X' h₅ ∧ Inv (i + 1) (ys ++ [y]) N') h₄
          else ∃ l N' X', St κ.w H' C l N' X' h₄ ∧ Inv (i + 1) ys N') h') ∧
    (∀ ys N D o h', Inv n ys N → LsO ys o → Led h' N → (∀ p ∈ N, h₁.get? p.1 = none ∧ p.1 ≠ D) → Nw h₁ D o h' → Q (.ref D) h')
theorem LCore_lro {x : Str} {px : Pos} {elt iter : Expr} {ifs : List Expr} {scope : Scope} {pos : Pos} {cl : List (Str × Addr)} {Q : Value → Heap → Prop}
    (e : T κ (eval iter env) (fun xv h₁ => T κ (pyIter xv) (fun it h₂ => LRo κ env scope cl x elt ifs Q it h₂) h₁) h) (hkind : scope.kind = .function) (hx : scope.names.lookup x = some .local) :
    LCoreE κ env elt (.Name x px) iter ifs [] scope pos (fun cl' X0 => cl' = cl ∧ X0 = []) Q h := by
  refine LCore_lcomp (e.mono fun xv h₁' z => z.mono fun it h₂ z => ?_)
  obtain ⟨I, dep, n, P, h₁, Inv, rfl, hn, hit, hdep, top, h0, turn, done⟩ := z
  have h00 : ∀ b o, h₁.get? b = some o → (hid h₁ []).get? b = some o := fun b o e => hid_get e (by simp)
  refine ⟨I, [I], dep, n, _, h₁, [], fun cl' i ys N X => cl' = cl ∧ Inv i ys N, rfl, hn, hit.two x px, (fun p hp => nomatch hp), top.keep h00, fun cl' X0 hF => ⟨hF.1, h0⟩, fun cl' i ys N' X' hI p hp => .inr (h00 _ _ (hdep p hp)), ?_, ?_⟩
  · rintro C cl' i v ys l N' X' H' h h' hk hlt hP ⟨rfl, hI⟩ S
    refine T_assign_name (T_store S (fun h'' S => ?_) rfl hkind (lookup_relabel_local hx))
    refine (turn C i v ys N' l X' H' h'' (fun b o e => hk b o (h00 b o e)) hlt hP hI S).mono fun ok h₄ z => ?_
    cases ok with
    | true =>
      rw [if_pos rfl] at z ⊢
      refine z.mono fun y h₅ z => ?_
      obtain ⟨l, N', X', S, hI⟩ := z
      exact ⟨l, N', X', S, rfl, hI⟩
    | false =>
      rw [if_neg (by simp)] at z ⊢
      obtain ⟨l, N', X', S, hI⟩ := z
      exact ⟨l, N', X', S, rfl, hI⟩
  · rintro cl' ys N' X' D o h' ⟨rfl, hI⟩ hL led hD hND hk hN
    exact done ys N' D o h' hI hL (fun p hp => led p (.tail _ hp)) (fun p hp => ⟨(hN p (.tail _ hp)).resolve_left (by simp), hND p hp⟩) ⟨hD, led _ (.head _), fun b o e => hk b o e (by simp)⟩
theorem T_lro {x : Str} {px : Pos} {elt iter : Expr} {ifs : List Expr} {scope : Scope} {pos : Pos} {cl : List (Str × Addr)} {Q : Value → Heap → Prop}
    (e : T κ (eval iter env) (fun xv h₁ => T κ (pyIter xv) (fun it h₂ => LRo κ env scope cl x elt ifs Q it h₂) h₁) h)
    (hclos : closureFor scope env = pure cl := by rfl) (hkind : scope.kind = .function := by rfl) (hnames : ∀ y ∈ scope.names, y.2 = .local → scope.names.lookup y.1 = some .local := by decide) (hs : ∀ x, foldedSetIterable iter env x = pure x := by intro _; rfl)
    (hcell : ∀ y ∈ scope.names, y.2 ≠ .cell := by decide) (hx : scope.names.lookup x = some .local := by rfl) :
    T κ (eval (.ListComp elt [⟨.Name x px, iter, ifs, 0⟩] scope pos) env) Q h := by
  exact T_listcomp_core hclos hkind hnames hs (NewEnv.plain hcell hkind) (LCore_lro e hkind hx)
/-- the plain sieve: `[x for x in xs if …]` or `[f(x) for x in xs]` where nothing new stays -/
theorem LRo.pure {I : Addr} {dep : Ledger} {n : Nat} {P : Nat → Value → Prop} {h₁ h₂ : Heap} {scope : Scope} {cl : List (Str × Addr)} {x : Str} {elt : Expr} {ifs : List Expr} {Q : Value → Heap → Prop} (Inv : Nat → List Value → Prop)
    (hn : n ≤ 100000) (it : ItNew κ h₁ I dep n P h₂) (hd : Led h₁ dep) (top : TopIn κ.w h₁) (h0 : Inv 0 [])
    (turn : ∀ C i v ys l H' h', Keep h₁ H' → i < n → P i v → Inv i ys → St κ.w H' C ((x, v) :: l) [] [] h' →
      T κ (forIn ifs true fun c r => if r = true then do let ok ← isTrue c (compEnvC scope cl C env) (eval c (compEnvC scope cl C env)); pure (ForInStep.yield ok) else pure (ForInStep.yield r))
        (fun ok h₄ => if ok = true then T κ (eval elt (compEnvC scope cl C env)) (fun y h₅ => ∃ l X', St κ.w H' C l [] X' h₅ ∧ Inv (i + 1) (ys ++ [y])) h₄
          else ∃ l X', St κ.w H' C l [] X' h₄ ∧ Inv (i + 1) ys) h')
    (done : ∀ ys D o h', Inv n ys → LsO ys o → Nw h₁ D o h' → Q (.ref D) h') : LRo κ env scope cl x elt ifs Q (.ref I) h₂ := by
  refine ⟨I, dep, n, P, h₁, fun i ys N => N = [] ∧ Inv i ys, rfl, hn, it, hd, top, ⟨rfl, h0⟩, ?_, fun ys N D o h' ⟨hN, hI⟩ L _ _ c => done ys D o h' hI L c⟩
  rintro C i v ys N l X H' h' hk hlt hP ⟨rfl, hI⟩ S
  refine (turn C i v ys l H' h' hk hlt hP hI (S.dropX (X' := []) fun p hp => nomatch hp)).mono fun ok h₄ z => ?_
  cases ok with
  | true =>
    rw [if_pos rfl] at z ⊢
    refine z.mono fun y h₅ z => ?_
    obtain ⟨l, X', S, hI⟩ := z
    exact ⟨l, [], X', S, rfl, hI⟩
  | false =>
    rw [if_neg (by simp)] at z ⊢
    obtain ⟨l, X', S, hI⟩ := z
    exact ⟨l, [], X', S, rfl, hI⟩
end
end Mine
end
section
open PySem PySem.W PySem.Calls PyProof.Rows PyProof.V PySem.Spec PySem.SeqAt
set_option Elab.async false
set_option maxRecDepth 100000
set_option linter.all false
namespace Mine
def BoolsO (bs : List Bool) (o : Obj) : Prop := LsO (bs.map Value.bool) o
theorem readsAll_bools {h : Heap} : ∀ (bs : List Bool), ReadsAll h (bs.map Value.bool) (bs.map PyData.bool) []
  | [] => .nil
  | b :: r => by
    have := ReadsAll.cons (Reads.bool (h := h) b) (readsAll_bools (h := h) r)
    simpa using this
theorem canLay_bools : ∀ bs : List Bool, PyData.canLayAll0 (bs.map PyData.bool) = true
  | [] => by simp [PyData.canLayAll0]
  | n :: r => by simp [PyData.canLayAll0, PyData.canLay0, canLay_bools r]
theorem depth_bools : ∀ bs : List Bool, PyData.depthAll (bs.map PyData.bool) ≤ 1
  | [] => by simp [PyData.depthAll]
  | n :: r => by
    have := depth_bools r
    simp only [List.map_cons, PyData.depthAll, PyData.depth]
    omega
theorem shaped_bools (bs : List Bool) : shaped (.list (bs.map PyData.bool)) = true := by
  have h1 := depth_bools bs
  have h2 : PyData.depth (.list (bs.map PyData.bool)) ≤ 64 := by simp only [PyData.depth]; omega
  show (PyData.canLay0 (.list (bs.map PyData.bool)) && decide (PyData.depth (.list (bs.map PyData.bool)) ≤ 64)) = true
  rw [Bool.and_eq_true]
  exact ⟨by simp only [PyData.canLay0]; exact canLay_bools bs, decide_eq_true h2⟩
theorem noMix_bools : ∀ ns ms : List Bool, noMixAll (ns.map PyData.bool) (ms.map PyData.bool) = true
  | [], [] => by simp [noMixAll]
  | [], _ :: _ => by simp [noMixAll]
  | _ :: _, [] => by simp [noMixAll]
  | _ :: r, _ :: q => by simp [noMixAll, noMix, noMix_bools r q]
theorem same_bools : ∀ ns ms : List Bool, PySem.Spec.sameAll (ns.map PyData.bool) (ms.map PyData.bool) = decide (ns = ms)
  | [], [] => by simp [PySem.Spec.sameAll]
  | [], _ :: _ => by simp [PySem.Spec.sameAll]
  | _ :: _, [] => by simp [PySem.Spec.sameAll]
  | n :: r, k :: q => by
    simp only [List.map_cons, PySem.Spec.sameAll, PySem.Spec.same, same_bools r q]
    by_cases h : n = k
    · subst h; cases n <;> simp [PySem.Spec.same]
    · cases n <;> cases k <;> simp_all [PySem.Spec.same]
theorem same_boolL (xs ys : List Bool) : PySem.Spec.same (.list (xs.map PyData.bool)) (.list (ys.map PyData.bool)) = decide (xs = ys) := by
  simp only [PySem.Spec.same]; exact same_bools xs ys
def isv (n : Int) : Value → Bool
  | .int k _ => k == n
  | _ => false
theorem any_ints {vs : List Value} {ns : List Int} {n : Int} (i : IntsAre vs ns) : vs.toArray.any (isv n) = decide (n ∈ ns) := by
  rw [← Array.any_toList]
  show vs.any (isv n) = _
  induction i with
  | nil => rfl
  | cons k t i ih =>
    rw [List.any_cons, ih]
    show (k == n || _) = _
    rw [Bool.eq_iff_iff, Bool.or_eq_true, decide_eq_true_eq, decide_eq_true_eq, List.mem_cons, beq_iff_eq]
    exact or_congr ⟨Eq.symm, Eq.symm⟩ Iff.rfl
theorem reads_bools {h : Heap} {a : Addr} {o : Obj} {bs : List Bool} (e : h.get? a = some o) (B : BoolsO bs o) : Reads h (.ref a) (.list (bs.map PyData.bool)) [a] := by
  obtain ⟨n, rfl⟩ := B
  exact Reads.list e rfl rfl (by simpa using readsAll_bools bs)
section
variable {κ : Kx} {h : Heap} {a b : Addr} {oa ob : Obj} {m : Nat}
theorem T_ne_bools {xs ys : List Bool} {Q : Value → Heap → Prop} (R : Room κ m) (ea : h.get? a = some oa) (A : BoolsO xs oa) (eb : h.get? b = some ob) (B : BoolsO ys ob) (q : Q (.bool (!decide (xs = ys))) h) : T κ (compareOp .NotEq (.ref a) (.ref b)) Q h := fun d tk =>
  ne_dataH_same (s := ⟨h, κ.g, d, tk, κ.os⟩) (reads_bools ea A) (reads_bools eb B) (shaped_bools xs) (shaped_bools ys) (by have := R.units; omega) (by simp only [noMix]; exact noMix_bools xs ys) (by rw [same_boolL]; exact ⟨rfl, rfl, q⟩)
theorem T_eq_bools {xs ys : List Bool} {Q : Value → Heap → Prop} (R : Room κ m) (ea : h.get? a = some oa) (A : BoolsO xs oa) (eb : h.get? b = some ob) (B : BoolsO ys ob) (q : Q (.bool (decide (xs = ys))) h) : T κ (compareOp .Eq (.ref a) (.ref b)) Q h := fun d tk =>
  eq_dataH_same (s := ⟨h, κ.g, d, tk, κ.os⟩) (reads_bools ea A) (reads_bools eb B) (shaped_bools xs) (shaped_bools ys) (by have := R.units; omega) (by simp only [noMix]; exact noMix_bools xs ys) (by rw [same_boolL]; exact ⟨rfl, rfl, q⟩)
theorem T_ne_ints {ns ms : List Int} {Q : Value → Heap → Prop} (R : Room κ m) (ea : h.get? a = some oa) (A : IntsO ns oa) (eb : h.get? b = some ob) (B : IntsO ms ob)
    (q : Q (.bool (!decide (ns = ms))) h) : T κ (compareOp .NotEq (.ref a) (.ref b)) Q h := fun d tk => by
  obtain ⟨vs, L, i⟩ := A
  obtain ⟨us, L', i'⟩ := B
  exact ne_intsK (s := ⟨h, κ.g, d, tk, κ.os⟩) (L.is ea) i (L'.is eb) i' (by have := R.units; omega) ⟨rfl, rfl, q⟩
theorem T_eq_ints {ns ms : List Int} {Q : Value → Heap → Prop} (R : Room κ m) (ea : h.get? a = some oa) (A : IntsO ns oa) (eb : h.get? b = some ob) (B : IntsO ms ob)
    (q : Q (.bool (decide (ns = ms))) h) : T κ (compareOp .Eq (.ref a) (.ref b)) Q h := fun d tk => by
  obtain ⟨vs, L, i⟩ := A
  obtain ⟨us, L', i'⟩ := B
  exact eq_intsK (s := ⟨h, κ.g, d, tk, κ.os⟩) (L.is ea) i (L'.is eb) i' (by have := R.units; omega) ⟨rfl, rfl, q⟩
/-- a list against the empty list -/
theorem T_eq_nil {items : List Value} {Q : Value → Heap → Prop} (R : Room κ m) (ea : h.get? a = some oa) (A : LsO items oa) (eb : h.get? b = some ob) (B : LsO [] ob)
    (q : Q (.bool items.isEmpty) h) : T κ (compareOp .Eq (.ref a) (.ref b)) Q h := fun d tk => by
  have hu : κ.A.units < cLine := by have := R.units; omega
  cases items with
  | nil => exact PySem.SeqAt.eq_listAt (s := ⟨h, κ.g, d, tk, κ.os⟩) (e := fun _ => true) (A.is ea) (B.is eb) rfl hu (fun j h1 _ => absurd h1 (by simp)) ⟨rfl, rfl, by simpa using q⟩
  | cons x r => exact PySem.SeqAt.eq_list_lengthsAt (s := ⟨h, κ.g, d, tk, κ.os⟩) (A.is ea) (B.is eb) (by simp) hu ⟨rfl, rfl, by simpa using q⟩
theorem T_eq_pair {p q : Pair} {Q : Value → Heap → Prop} (R : Room κ m) (ea : h.get? a = some oa) (A : PairO p oa) (eb : h.get? b = some ob) (B : PairO q ob) (k : Q (.bool (decide (p = q))) h) : T κ (compareOp .Eq (.ref a) (.ref b)) Q h := fun d tk => by
  obtain ⟨t, u, rfl⟩ := A
  obtain ⟨t', u', rfl⟩ := B
  refine PySem.SeqAt.eq_tupleAt (s := ⟨h, κ.g, d, tk, κ.os⟩) (e := fun j => if j = 0 then p.1 == q.1 else p.2 == q.2) ⟨_, ea, rfl, _, rfl⟩ ⟨_, eb, rfl, _, rfl⟩ (by have := R.units; omega) (fun j h1 h2 => ?_) ⟨rfl, rfl, ?_⟩
  · match j, h1, h2 with
    | 0, _, _ => exact (MeetsSeq.EqGives.int _ _ _ _).at _ _
    | 1, _, _ => exact (MeetsSeq.EqGives.int _ _ _ _).at _ _
    | j + 2, h1, _ => exact absurd h1 (by simp)
  · have : ((List.range (min (#[Value.int p.1 t, Value.int p.2 u] : Array Value).size (#[Value.int q.1 t', Value.int q.2 u'] : Array Value).size)).all (fun j => if j = 0 then p.1 == q.1 else p.2 == q.2) && (#[Value.int p.1 t, Value.int p.2 u] : Array Value).size == (#[Value.int q.1 t', Value.int q.2 u'] : Array Value).size) = decide (p = q) := by
      have e : List.range (min 2 2) = [0, 1] := rfl
      simp only [List.size_toArray, List.length_cons, List.length_nil, e]
      rw [Bool.eq_iff_iff, decide_eq_true_eq, Prod.ext_iff]
      simp [List.range_succ]
    rw [this]; exact k
theorem T_in_ints {ns : List Int} {n : Int} {t : Tok} {Q : Value → Heap → Prop} (ea : h.get? a = some oa) (A : IntsO ns oa) (q : Q (.bool (decide (n ∈ ns))) h) : T κ (compareOp .In (.int n t) (.ref a)) Q h := fun d tk => by
  obtain ⟨vs, L, i⟩ := A
  refine PySem.SeqAt.in_listAt (s := ⟨h, κ.g, d, tk, κ.os⟩) (isv n) (L.is ea) (fun y hy => ?_) ⟨rfl, rfl, by rw [any_ints i]; exact q⟩
  obtain ⟨j, hj⟩ := List.mem_iff_getElem?.mp (by simpa using hy)
  obtain ⟨k, u, _, rfl⟩ := ints_of_at i hj
  exact (MeetsSeq.EqGives.int _ _ _ _).at _ _
theorem T_notIn_ints {ns : List Int} {n : Int} {t : Tok} {Q : Value → Heap → Prop} (ea : h.get? a = some oa) (A : IntsO ns oa) (q : Q (.bool (!decide (n ∈ ns))) h) : T κ (compareOp .NotIn (.int n t) (.ref a)) Q h := fun d tk => by
  obtain ⟨vs, L, i⟩ := A
  refine PySem.SeqAt.notIn_listAt (s := ⟨h, κ.g, d, tk, κ.os⟩) (isv n) (L.is ea) (fun y hy => ?_) ⟨rfl, rfl, by rw [any_ints i]; exact q⟩
  obtain ⟨j, hj⟩ := List.mem_iff_getElem?.mp (by simpa using hy)
  obtain ⟨k, u, _, rfl⟩ := ints_of_at i hj
  exact (MeetsSeq.EqGives.int _ _ _ _).at _ _
theorem T_truthy_list {items : List Value} {Q : Bool → Heap → Prop} (e : h.get? a = some oa) (L : LsO items oa) (hz : items.length ≤ 1000000) (q : Q (!items.isEmpty) h) : T κ (truthy (.ref a)) Q h := fun d tk =>
  wpAny_truthy_list (s := ⟨h, κ.g, d, tk, κ.os⟩) (L.is e) (by simp; omega) ⟨rfl, rfl, by simpa using q⟩
theorem T_truthy_int {n : Int} {t : Tok} {Q : Bool → Heap → Prop} (q : Q (n != 0) h) : T κ (truthy (.int n t)) Q h := fun d tk => PyProof.Rows.truthy_int ⟨rfl, rfl, q⟩
theorem T_ior_bool {p q : Bool} {Q : Value → Heap → Prop} (k : Q (.bool (p || q)) h) : T κ (inplaceOp .BitOr (.bool p) (.bool q)) Q h := fun d tk => PyProof.Rows.ior_bool ⟨rfl, rfl, k⟩
theorem T_isNot_bool {p q : Bool} {Q : Value → Heap → Prop} (k : Q (.bool (p != q)) h) : T κ (compareOp .IsNot (.bool p) (.bool q)) Q h := fun d tk =>
  wpAny_isNot_plain rfl ⟨rfl, rfl, by have : (!(Value.bool p == Value.bool q)) = (p != q) := by cases p <;> cases q <;> rfl
                                      rw [this]; exact k⟩
theorem T_isNot_same {Q : Value → Heap → Prop} (k : Q (.bool false) h) : T κ (compareOp .IsNot (.ref a) (.ref a)) Q h := fun d tk => wpAny_isNot_ref_self ⟨rfl, rfl, k⟩
theorem T_add_list {xs ys : List Value} {Q : Value → Heap → Prop} (ea : h.get? a = some oa) (A : LsO xs oa) (eb : h.get? b = some ob) (B : LsO ys ob) (hz : xs.length + ys.length ≤ 1000000) (q : ∀ r h' o', LsO (xs ++ ys) o' → Nw h r o' h' → Q (.ref r) h') :
    T κ (binaryOp .Add (.ref a) (.ref b)) Q h := fun d tk => by
  obtain ⟨n, rfl⟩ := A
  obtain ⟨n', rfl⟩ := B
  refine PySem.P.add_list (s := ⟨h, κ.g, d, tk, κ.os⟩) (items := xs.toArray) (items2 := ys.toArray) ea eb ⟨rfl, rfl, q _ _ (lso (xs ++ ys) 0) ⟨0, rfl⟩ ⟨get_size_none h, ?_, keep_push _ _⟩⟩ (by simp; rw [sizeLine_eq]; omega)
  have := Heap.get?_push_size h (o := lso (xs ++ ys) 0) rfl
  simpa [lso] using this
theorem T_len_range {x y : Int} {t u v : Tok} {Q : Value → Heap → Prop} (e : h.get? a = some (rangeO x y t u v)) (hx : -1000 ≤ x ∧ x ≤ 1000) (hy : -1000 ≤ y ∧ y ≤ 1000) (q : ∀ t, Q (.int ((y - x).toNat : Nat) t) h) : T κ (PySem.call (.builtin "len") [.ref a]) Q h := fun d tk => by
  exact call_len_range (s := ⟨h, κ.g, d, tk, κ.os⟩) (r := a) (a := x) (b := y) (c := 1) (n := (y - x).toNat) e (small_range hx hy).2 (by omega) ⟨rfl, rfl, q _⟩
theorem flat_rep {v : Value} (k : Nat) : List.foldl (fun (x1 x2 : Array Value) => x1 ++ x2) #[] (List.replicate k #[v]) = (List.replicate k v).toArray := by
  have : ∀ (k : Nat) (acc : List Value), List.foldl (fun (x1 x2 : Array Value) => x1 ++ x2) acc.toArray (List.replicate k #[v]) = (acc ++ List.replicate k v).toArray := fun k => by
    induction k with
    | zero => intro acc; simp
    | succ k ih =>
      intro acc
      rw [List.replicate_succ, List.foldl_cons, show acc.toArray ++ #[v] = (acc ++ [v]).toArray by simp, ih, List.replicate_succ]
      simp
  exact this k []
theorem T_mul_list1 {v : Value} {n : Int} {u : Tok} {Q : Value → Heap → Prop} (ea : h.get? a = some oa) (A : LsO [v] oa) (hn : 0 ≤ n ∧ n ≤ 1000) (q : ∀ r h' o', LsO (List.replicate n.toNat v) o' → Nw h r o' h' → Q (.ref r) h') :
    T κ (binaryOp .Mult (.ref a) (.int n u)) Q h := fun d tk => by
  obtain ⟨k, rfl⟩ := A
  have hx : ({ cls := Value.type "list", data := Data.seq (List.foldl (fun x1 x2 => x1 ++ x2) #[] (List.replicate (if (#[v] : Array Value).isEmpty = true then 0 else n.toNat) #[v])) } : Obj) = lso (List.replicate n.toNat v) 0 := by
    rw [if_neg (by simp), flat_rep]; rfl
  refine wpAny_binaryOp_repeat_ref (s := ⟨h, κ.g, d, tk, κ.os⟩) (T := "list") (U := "int") (by decide) ⟨_, ea, rfl⟩ (fun s' => typeIs_int s' n u) noFill_list_mul PySem.F.fills_int_mul PySem.F.slot_int_rmul repeat_list PySem.F.slot_int_index.lookup
    (call_meets PySem.F.slot_int_rmul (typeIs_int _ n u) PySem.F.entry_int_rmul (PySem.F.args_int_rmul_2 _ _) (int___rmul___int_list n u a #[v] k)
      ⟨ea, rfl, ⟨_, ea, rfl⟩, call_meets PySem.F.slot_list_mul ⟨_, ea, rfl⟩ PySem.F.entry_list_mul (PySem.F.args_list_mul_2 _ _)
        (AutoListH.list___mul___list_int_3 a #[v] k n u (by simp [Builtin.List.listFitsIndex]; omega) (by simp; omega) (by simp [Builtin.List.listTooLong, sizeLine]; omega))
        ⟨ea, ⟨rfl, rfl, ?_⟩⟩⟩)
  rw [hx]
  exact q _ _ _ ⟨0, rfl⟩ ⟨get_size_none h, Heap.get?_push_size _ rfl, keep_push _ _⟩
end
end Mine
end
section
open PySem PySem.W PySem.Calls PyProof.Rows
set_option Elab.async false
set_option maxRecDepth 100000
set_option linter.all false
namespace Mine
theorem none_of_ge {h : Heap} {a : Addr} (e : h.objs.size ≤ a) : h.get? a = none := by
  cases hc : h.get? a with
  | none => rfl
  | some o => exact absurd (Heap.lt_size hc) (Nat.not_lt.mpr e)
section
variable {κ : Kx} {env : Env} {h : Heap}
def PEnum (items : List Value) (i : Nat) (v : Value) (h h' : Heap) : Prop := ∃ T t x, v = .ref T ∧ items[i]? = some x ∧ h.get? T = none ∧ h'.IsTuple T #[.int i t, x]
theorem T_enum {l : Addr} {o : Obj} {items : List Value} {Q : Value → Heap → Prop} {m : Nat} (R : Room κ m) (L : LsO items o) (e : h.get? l = some o)
    (q : ∀ I it h', (∀ elts k p, ItNew2 κ (.Tuple elts k p) h I [I, it] [(l, o)] items.length (PEnum items) h') → Q (.ref I) h') : T κ (PySem.call (.type "enumerate") [.ref l]) Q h := fun d tk => by
  obtain ⟨n, rfl⟩ := L
  refine call_enumerate_1 (s := ⟨h, κ.g, d, tk, κ.os⟩) (l := l) (items := items.toArray) (n := n) e fun h' he hit hsz hk => ?_
  refine ⟨rfl, rfl, q (h.objs.size + 1) h.objs.size h' fun elts k p => ⟨fun b hb => ?_, hk, [], fun i h2 => (∃ old, IsEnum h2 (h.objs.size + 1) h.objs.size i old) ∧ h2.IsListIter h.objs.size l i ∧ h2.IsList l items.toArray, (fun p hp => nomatch hp), ?_, ⟨⟨.none, he⟩, hit, ⟨_, hk _ _ e, rfl, _, rfl⟩⟩⟩⟩
  · rcases List.mem_cons.mp hb with rfl | hb
    · exact none_of_ge (Nat.le_succ _)
    · rw [List.mem_singleton.mp hb]; exact get_size_none h
  · have hlt : l < h.objs.size := Heap.lt_size e
    have W := WalksT.enumerate (prog := PW) (w := κ.w) (A := κ.A) R.handled (h.objs.size + 1) h.objs.size l (Nat.succ_ne_self _) (Nat.ne_of_lt (Nat.lt_succ_of_lt hlt)) (Nat.ne_of_lt hlt) items.toArray
    refine ⟨fun i h h' z kk => W.frame i h h' z fun b hb o e => kk b o ?_ e, fun i h2 hi z d tk => ?_, fun h2 z d tk => ?_, fun i h2 z b hb => ?_, fun i h2 z Q' q' d tk => ?_, .head _⟩
    · rcases List.mem_cons.mp hb with rfl | hb
      · exact .inl (.head _)
      · rcases List.mem_cons.mp hb with rfl | hb
        · exact .inl (.tail _ (.head _))
        · rw [List.mem_singleton.mp hb]; exact .inr (by simp)
    · refine W.item i ⟨h2, κ.g, d, tk, κ.os⟩ _ _ (by simpa using hi) z fun T vals h3 tk3 hPt hT ht hM hk3 => ⟨rfl, rfl, _, rfl, fun d tk => ?_⟩
      obtain ⟨t, x, hx, rfl⟩ := hPt
      refine W.go elts k p i T ⟨h3, κ.g, d, tk, κ.os⟩ _ _ hM fun h4 z4 hk4 => ⟨rfl, rfl, z4, fun b o hb e => hk4 b o hb (hk3 b o hb e), T, t, x, rfl, by rw [List.getElem?_toArray] at hx; exact hx, none_of_ge hT, ?_⟩
      obtain ⟨oT, a1, a2⟩ := ht
      exact ⟨oT, hk4 _ _ (W.apart i T h3 hM) a1, a2⟩
    · exact W.done ⟨h2, κ.g, d, tk, κ.os⟩ _ _ (by simpa using z) fun h' tk' hk => ⟨rfl, rfl, rfl, hk⟩
    · obtain ⟨⟨old, z1⟩, ⟨oi, z2, _⟩, _⟩ := z
      rcases List.mem_cons.mp hb with rfl | hb
      · exact ⟨_, z1⟩
      · rw [List.mem_singleton.mp hb]; exact ⟨_, z2⟩
    · exact W.self i ⟨h2, κ.g, d, tk, κ.os⟩ _ _ z ⟨rfl, rfl, q'⟩
theorem T_assign_tuple2 {x y : Str} {px py p : Pos} {k : Nat} {t : Addr} {a b : Value} {Q : Unit → Heap → Prop} {m : Nat} (R : Room κ m) (ht : h.IsTuple t #[a, b])
    (q : ∀ h', Keep h h' → T κ (storeName env x a) (fun _ h₁ => T κ (storeName env y b) Q h₁) h') : T κ (assign (.Tuple [.Name x px, .Name y py] k p) env (.ref t)) Q h := fun d tk => by
  refine wpAny_assign_Tuple (s := ⟨h, κ.g, d, tk, κ.os⟩) R.handled ht rfl rfl fun h₃ hx₃ => ?_
  have hk : Keep h h₃ := fun b o e => hx₃ b o (Nat.ne_of_lt (Heap.lt_size e)) e
  show wpAny _ _ (do holding [b] (assign (.Name x px) env a); do holding [] (assign (.Name y py) env b); pure ()) _ _ _
  refine wpAny_bind (wpAny_holding (wpAny_assign_Name ((q h₃ hk).use (s := ⟨h₃, κ.g, d, tk, κ.os⟩) rfl rfl fun _ s₁ g1 o1 z => ?_)))
  refine wpAny_bind (wpAny_holding (wpAny_assign_Name (z.use g1 o1 fun _ s₂ g2 o2 z => ?_)))
  exact wpAny_pure ⟨g2, o2, z⟩
theorem base_ws {w : World} {H h h' : Heap} {L : Addr} {ws : List Addr} {l : List (Str × Value)} {N X : Ledger} (S : St w H L l N X h) (hw : ∀ b ∈ ws, h.get? b = none) (k : Keep h h') :
    ∃ H2, Keep H H2 ∧ St w H2 L l N X h' ∧ (∀ b ∈ ws, H2.get? b = none) ∧ (∀ b o, h.get? b = none → b ∉ ws → h'.get? b = some o → H2.get? b = some o) ∧ L ∉ ws ∧ (∀ p ∈ N, p.1 ∉ ws) ∧ (∀ p ∈ X, p.1 ∉ ws) := by
  have S' := S.keeps k
  let as := ws ++ (L :: (N.map (·.1) ++ X.map (·.1)))
  have hL : L ∉ ws := fun hb => by obtain ⟨o, ho⟩ := S.liveL; rw [hw _ hb] at ho; cases ho
  have hN : ∀ p ∈ N, p.1 ∉ ws := fun p hp hb => by have := S.gn hp; rw [hw _ hb] at this; cases this
  have hX : ∀ p ∈ X, p.1 ∉ ws := fun p hp hb => by have := S.gx hp; rw [hw _ hb] at this; cases this
  have sub : Keep H (hideAll h' as) := fun b o q => by
    refine hideAll_get _ (S'.keep b o q) fun m => ?_
    rcases List.mem_append.mp m with m | m
    · have := S.keep _ _ q; rw [hw _ m] at this; cases this
    · rcases List.mem_cons.mp m with rfl | m
      · rw [S.offL] at q; cases q
      · rcases List.mem_append.mp m with m | m
        · obtain ⟨p, hp, rfl⟩ := List.mem_map.mp m; rw [(S.n p hp).2.2] at q; cases q
        · obtain ⟨p, hp, rfl⟩ := List.mem_map.mp m; rw [(S.x p hp).2.2] at q; cases q
  refine ⟨hideAll h' as, sub, ⟨S.top.keep sub, S'.ns, fun b o q => of_hideAll _ q, hideAll_none _ (List.mem_append_right _ (.head _)), fun p hp => ⟨(S'.n p hp).1, (S'.n p hp).2.1, hideAll_none _ ?_⟩, fun p hp => ⟨(S'.x p hp).1, (S'.x p hp).2.1, hideAll_none _ ?_⟩, S.off⟩,
    fun b hb => hideAll_none _ (List.mem_append_left _ hb), fun b o f ne q => ?_, hL, hN, hX⟩
  · exact List.mem_append_right _ (.tail _ (List.mem_append_left _ (List.mem_map_of_mem hp)))
  · exact List.mem_append_right _ (.tail _ (List.mem_append_right _ (List.mem_map_of_mem hp)))
  · refine hideAll_get _ q fun m => ?_
    rcases List.mem_append.mp m with m | m
    · exact ne m
    · rcases List.mem_cons.mp m with m | m
      · obtain ⟨o, ho⟩ := S.liveL; rw [← m, f] at ho; cases ho
      · rcases List.mem_append.mp m with m | m
        · obtain ⟨p, hp, e⟩ := List.mem_map.mp m; have := S.gn hp; rw [e, f] at this; cases this
        · obtain ⟨p, hp, e⟩ := List.mem_map.mp m; have := S.gx hp; rw [e, f] at this; cases this
/-- for over any iterator -/
def ForAt2 (κ : Kx) (env : Env) (L : Addr) (target : Expr) (body : List Stmt) (Q : Flow → Heap → Prop) (it : Value) (h₂ : Heap) : Prop :=
  ∃ (H : Heap) (I : Addr) (ws : List Addr) (dep : Ledger) (n : Nat) (P : Nat → Value → Heap → Heap → Prop) (h₁ : Heap) (l : List (Str × Value)) (N X : Ledger) (Inv : Nat → List (Str × Value) → Ledger → Ledger → Prop),
    it = .ref I ∧ ItNew2 κ target h₁ I ws dep n P h₂ ∧ St κ.w H L l N X h₁ ∧ Inv 0 l N X ∧
    (∀ i l N X, Inv i l N X → ∀ p ∈ dep, p ∈ N ∨ p ∈ X ∨ H.get? p.1 = some p.2) ∧
    (∀ i v l N X H' h h', Keep H H' → i < n → P i v h h' → Inv i l N X → St κ.w H' L l N X h' → T κ (assign target env v) (fun _ h' => T κ (execs body env) (fun f h' => match f with
        | .next | .cont => ∃ l' N' X', St κ.w H' L l' N' X' h' ∧ Inv (i + 1) l' N' X'
        | .brk => Q .next h'
        | .ret v => Q (.ret v) h') h') h') ∧
    (∀ l N X h, Inv n l N X → St κ.w H L l N X h → Q .next h)
theorem T_for2 {target iter : Expr} {pos : Pos} {body : List Stmt} {Q : Flow → Heap → Prop} {L : Addr}
    (e : T κ (eval iter env) (fun xv h₁ => T κ (pyIter xv) (fun it h₂ => ForAt2 κ env L target body Q it h₂) h₁) h)
    (hs : ∀ y, foldedSetIterable iter env y = pure y := by intro _; rfl) : T κ (exec (.For target iter body [] pos) env) Q h := fun d tk => by
  refine wpAny_For (e.use (s := ⟨h, κ.g, d, tk, κ.os⟩) rfl rfl fun xv s₁ g1 o1 y => y.use g1 o1 fun it s₂ g2 o2 z => ?_) hs
  obtain ⟨H, I, ws, dep, n, P, h₁, l, N, X, Inv, rfl, ⟨hws, hk12, nd, Z, hnd, W, hz⟩, S, h0, hdep, turn, done⟩ := z
  obtain ⟨H2, sub2, S2, hH, hb2, hC, hN, hX⟩ := base_ws S hws hk12
  have hdep2 : ∀ i l N X, Inv i l N X → ∀ p ∈ dep ++ nd, p ∈ N ∨ p ∈ X ∨ H2.get? p.1 = some p.2 := fun i l N X hi p hp => by
    rcases List.mem_append.mp hp with hp | hp
    · rcases hdep i l N X hi p hp with q | q | q
      · exact .inl q
      · exact .inr (.inl q)
      · exact .inr (.inr (sub2 _ _ q))
    · exact .inr (.inr (hb2 _ _ (hnd p hp).1 (hnd p hp).2.2 (hnd p hp).2.1))
  refine codeAny_forLoop_any (fun k s' => s'.gens = κ.g ∧ s'.os = κ.os ∧ ∃ i l N X, Z i s'.heap ∧ St κ.w H2 L l N X s'.heap ∧ (∀ p ∈ N, p.1 ∉ ws) ∧ (∀ p ∈ X, p.1 ∉ ws) ∧ Inv i l N X ∧ i ≤ n ∧ k = n + 1 - i) ?_ (n + 1)
    ⟨g2, o2, 0, l, N, X, hz, S2, hN, hX, h0, Nat.zero_le _, rfl⟩
  rintro k s' ⟨g3, o3, i, l, N, X, hz, S, hN, hX, hI, hi, rfl⟩
  by_cases hlt : i < n
  · refine (W.item i _ hlt hz).use (s := s') g3 o3 fun r s₁ g4 o4 z => ?_
    obtain ⟨v, rfl, z⟩ := z
    refine z.use g4 o4 fun _ s₂ g5 o5 z => ?_
    obtain ⟨hz₂, hk, hP⟩ := z
    obtain ⟨H', sub, S', _, _, fin⟩ := turn_item W hH hC hdep2 S hN hX hI hz₂ hk
    refine (turn i v l N X H' _ _ (sub2.trans sub) hlt hP hI S').use g5 o5 fun _ s₅ g6 o6 z => z.use g6 o6 fun f s₆ g7 o7 z => ?_
    have step : (∃ l' N' X', St κ.w H' L l' N' X' s₆.heap ∧ Inv (i + 1) l' N' X') → ∃ m, m < n + 1 - i ∧ s₆.gens = κ.g ∧ s₆.os = κ.os ∧ ∃ i l N X, Z i s₆.heap ∧ St κ.w H2 L l N X s₆.heap ∧ (∀ p ∈ N, p.1 ∉ ws) ∧ (∀ p ∈ X, p.1 ∉ ws) ∧ Inv i l N X ∧ i ≤ n ∧ m = n + 1 - i := fun z => by
      obtain ⟨l', N', X', S'', hI'⟩ := z
      obtain ⟨b1, b2, b3, b4⟩ := fin l' N' X' _ S'' hI'
      exact ⟨n + 1 - (i + 1), by omega, g7, o7, i + 1, l', N', X', b1, b2, b3, b4, hI', hlt, rfl⟩
    cases f with
    | next => exact step z
    | cont => exact step z
    | brk => exact ⟨g7, o7, z⟩
    | ret v => exact ⟨g7, o7, z⟩
  · have hin : i = n := by omega
    subst hin
    refine (W.done _ hz).use (s := s') g3 o3 fun r s₁ g4 o4 z => ?_
    obtain ⟨rfl, hk⟩ := z
    exact wpAny_execs_nil ⟨g4, o4, done l N X _ hI ((keepBut_ws S hk hH hC hN hX).back sub2 (Mine.St.top ‹St κ.w H L _ _ _ _›))⟩
end
end Mine
end
section
open PySem PySem.W PySem.Calls PyProof.Rows
set_option Elab.async false
set_option maxRecDepth 100000
set_option linter.all false
namespace Mine
section
variable {κ : Kx} {env : Env} {h : Heap}
/-- the whole of a dict comprehension of one `for` -/
theorem T_dictcomp_core {kx vx target iter : Expr} {ifs : List Expr} {rest : List Comprehension} {scope : Scope} {pos : Pos} {cl : List (Str × Addr)} {F : List (Str × Addr) → Ledger → Prop} {Q : Value → Heap → Prop}
    (hclos : closureFor scope env = pure cl) (hkind : scope.kind = .function) (hnames : ∀ y ∈ scope.names, y.2 = .local → scope.names.lookup y.1 = some .local) (hs : ∀ x, foldedSetIterable iter env x = pure x)
    (hne : NewEnv κ scope env cl F)
    (e : T κ (eval iter env) (fun xv h₁ => T κ (pyIter xv) (fun it h₂ => ∃ I oI, it = .ref I ∧ h₂.get? I = some oI ∧
      (∀ h, Keep h₂ h → ∀ Qi : Value → Heap → Prop, Qi (.ref I) h → T κ (pyIter (.ref I)) Qi h) ∧
      ∀ D C cl' X0 h, F cl' X0 → h₂.get? D = none → h₂.get? C = none → D ≠ C → h.Ns C (look []) → Keep h₂ h → (∀ p ∈ X0, h₂.get? p.1 = none ∧ h.get? p.1 = some p.2 ∧ p.1 ≠ C ∧ p.1 ≠ D) → h.get? D = some (emptyDict) →
        CN κ (.compLoop (.DictComp kx vx (⟨target, iter, ifs, 0⟩ :: rest) scope pos) 0 (.ref I) (.ref D) (compEnvC scope cl' C env)) (fun h' => (∃ m, h'.Ns C m) ∧ ∀ h'', (∀ b, b ≠ C → h''.get? b = h'.get? b) → Q (.ref D) h'') h) h₁) h) :
    T κ (eval (.DictComp kx vx (⟨target, iter, ifs, 0⟩ :: rest) scope pos) env) Q h := fun d tk => by
  rw [arm_eval_DictComp]
  refine wpAny_comprehension_free (use := none) rfl hs hclos hkind hnames (e.use (s := ⟨h, κ.g, d, tk, κ.os⟩) rfl rfl fun xv s₁ g1 o1 z => z.use g1 o1 fun it s₂ g2 o2 z => ?_)
  obtain ⟨I, oI, rfl, hI, hself, body⟩ := z
  refine wpAny_newObj_type ?_
  have hD0 := get_size_none s₂.heap
  have hk1 := keep_push s₂.heap emptyDict
  refine (hne _ (fun cenv h' => ∃ C cl' X0, F cl' X0 ∧ { cenv with scope := relabel scope env } = compEnvC scope cl' C env ∧ cenv.locals = C ∧ (s₂.heap.push (emptyDict)).get? C = none ∧ h'.Ns C (look []) ∧ Keep (s₂.heap.push (emptyDict)) h' ∧
      (∀ p ∈ X0, (s₂.heap.push (emptyDict)).get? p.1 = none ∧ h'.get? p.1 = some p.2 ∧ p.1 ≠ C)) (fun C cl' X0 h' cenv a1 a2 a3 a4 a5 a6 a7 => ⟨C, cl', X0, a1, a2, a3, a4, a5, a6, a7⟩)).use (s := { s₂ with heap := s₂.heap.push (emptyDict) }) g2 o2 fun cenv s₄ g4 o4 z => ?_
  obtain ⟨C, cl', X0, a1, a2, a3, a4, a5, a6, a7⟩ := z
  have non : ∀ {b : Addr}, (s₂.heap.push (emptyDict)).get? b = none → s₂.heap.get? b = none ∧ b ≠ s₂.heap.objs.size := fun {b} q => by
    constructor
    · cases hc : s₂.heap.get? b with
      | none => rfl
      | some o => rw [keep_push _ _ _ _ hc] at q; cases q
    · intro e; rw [e, Heap.get?_push_size _ rfl] at q; cases q
  have hD4 : s₄.heap.get? s₂.heap.objs.size = some (emptyDict) := a6 _ _ (Heap.get?_push_size _ rfl)
  rw [a2]
  have key : CN κ (.compLoop (.DictComp kx vx (⟨target, iter, ifs, 0⟩ :: rest) scope pos) 0 (.ref I) (.ref s₂.heap.objs.size) (compEnvC scope cl' C env)) (fun h' => (∃ m, h'.Ns C m) ∧ ∀ h'', (∀ b, b ≠ C → h''.get? b = h'.get? b) → Q (.ref s₂.heap.objs.size) h'') s₄.heap :=
    body _ C cl' X0 s₄.heap a1 hD0 (non a4).1 (fun e => (non a4).2 e.symm) a5 ((keep_push _ _).trans a6) (fun p hp => ⟨(non (a7 p hp).1).1, (a7 p hp).2.1, (a7 p hp).2.2, (non (a7 p hp).1).2⟩) hD4
  have fin : ∀ s : Shared, s.heap = s₄.heap → s.gens = κ.g → s.os = κ.os → codeAny κ.M κ.A (.compLoop (.DictComp kx vx (⟨target, iter, ifs, 0⟩ :: rest) scope pos) 0 (.ref I) (.ref s₂.heap.objs.size) (compEnvC scope cl' C env))
      (compPost κ.M κ.A (fun _ _ => False) none (fun a s' => s'.gens = κ.g ∧ s'.os = κ.os ∧ Q a s'.heap) (.ref s₂.heap.objs.size) cenv.locals) s := fun s hh g o => by
    refine CN.use (s := s) (by rw [hh]; exact key) g o fun s' g o z => ?_
    obtain ⟨⟨m, hm⟩, z⟩ := z
    rw [a3]
    exact ⟨m, hm, fun h' hsb => ⟨g, o, z h' hsb.2⟩⟩
  refine codeAny_compStart_dict (fin s₄ rfl g4 o4) ?_
  exact (hself s₄.heap ((keep_push _ _).trans a6) (fun v h' => v = .ref I ∧ h' = s₄.heap) ⟨rfl, rfl⟩).use (s := s₄) g4 o4 fun v s₅ g5 o5 z => by
    obtain ⟨rfl, hh⟩ := z
    exact fin s₅ hh g5 o5
def restD (κ : Kx) (target kx vx : Expr) (ifs : List Expr) (cenv : Env) (D : Addr) (v : Value) (Q : Heap → Prop) (h : Heap) : Prop :=
  T κ (assign target cenv v) (fun _ h₃ => T κ (forIn ifs true fun c r => if r = true then do let ok ← isTrue c cenv (eval c cenv); pure (ForInStep.yield ok) else pure (ForInStep.yield r)) (fun ok h₄ =>
    if ok = true then T κ (eval kx cenv) (fun kv h₅ => T κ (eval vx cenv) (fun vv h₆ => T κ (dictSet D kv vv) (fun _ h₇ => Q h₇) h₆) h₅) h₄ else Q h₄) h₃) h
theorem restD_mono {target kx vx : Expr} {ifs : List Expr} {cenv : Env} {D : Addr} {v : Value} {Q Q' : Heap → Prop} {h : Heap} (k : ∀ h, Q h → Q' h) (x : restD κ target kx vx ifs cenv D v Q h) : restD κ target kx vx ifs cenv D v Q' h := by
  refine T.mono x fun _ h₃ z => z.mono fun ok h₄ z => ?_
  cases ok with
  | true => exact T.mono z fun y h₅ z => z.mono fun _ h₆ z => z.mono fun _ h₇ z => k _ z
  | false => exact k _ z
theorem T_holding {α : Type} {vs : List Value} {t : Sem α} {Q : α → Heap → Prop} (x : T κ t Q h) : T κ (holding vs t) Q h := fun d tk => wpAny_holding (x d tk)
theorem turn_dict {kx vx target iter : Expr} {ifs : List Expr} {scope : Scope} {pos : Pos} {I D : Addr} {cenv : Env} (h : Heap) (Qf : Fin → Heap → Prop)
    (x : T κ (pyNext (.ref I)) (fun r h₁ => match r with
      | none => Qf (.done .next) h₁
      | some v => T κ (letOwnedTupleGo target (.ref I) v) (fun _ h₁ => restD κ target kx vx ifs cenv D v (fun h₂ => Qf (.again (.compLoop (.DictComp kx vx [⟨target, iter, ifs, 0⟩] scope pos) 0 (.ref I) (.ref D) cenv)) h₂) h₁) h₁) h) :
    T κ (compTurn (.DictComp kx vx [⟨target, iter, ifs, 0⟩] scope pos) 0 (.ref I) (.ref D) cenv) Qf h := by
  rw [compTurn_dict]
  refine T_bind (T_standAt (T_bind (x.mono fun r h₁ z => ?_)))
  cases r with
  | none => exact T_pure z
  | some v =>
    refine T_bind (z.mono fun _ h₁ z => T_bind (T.mono z fun _ h₃ z => T_bind (z.mono fun ok h₄ z => ?_)))
    cases ok with
    | true => exact T_bind (T_bind (T.mono z fun kv h₅ z => T_bind (T_holding (z.mono fun vv h₆ z => T_bind (T_standAt (T_holding (z.mono fun _ h₇ z => T_pure z)))))))
    | false => exact T_pure z
/-- what one says of a dict comprehension behind its iterator -/
def DComp (κ : Kx) (env : Env) (scope : Scope) (F : List (Str × Addr) → Ledger → Prop) (target kx vx : Expr) (ifs : List Expr) (Q : Value → Heap → Prop) (it : Value) (h₂ : Heap) : Prop :=
  ∃ (I : Addr) (ws : List Addr) (dep : Ledger) (n : Nat) (P : Nat → Value → Heap → Heap → Prop) (h₁ : Heap) (N : Ledger) (Inv : List (Str × Addr) → Nat → (Int → Option Value) → Ledger → Ledger → Prop),
    it = .ref I ∧ n ≤ 100000 ∧ ItNew2 κ target h₁ I ws dep n P h₂ ∧ Led h₁ N ∧ TopIn κ.w (hid h₁ N) ∧ (∀ cl' X0, F cl' X0 → Inv cl' 0 (fun _ => none) N X0) ∧
    (∀ cl' i ys N' X', Inv cl' i ys N' X' → ∀ p ∈ dep, p ∈ N' ∨ (hid h₁ N).get? p.1 = some p.2) ∧
    (∀ C cl' i v ys l N' X' H' h h', Keep (hid h₁ N) H' → i < n → P i v h h' → Inv cl' i ys N' X' → St κ.w H' C l N' X' h' →
      T κ (assign target (compEnvC scope cl' C env) v) (fun _ h₃ => T κ (forIn ifs true fun c r => if r = true then do let ok ← isTrue c (compEnvC scope cl' C env) (eval c (compEnvC scope cl' C env)); pure (ForInStep.yield ok) else pure (ForInStep.yield r))
        (fun ok h₄ => if ok = true then T κ (eval kx (compEnvC scope cl' C env)) (fun kv h₅ => T κ (eval vx (compEnvC scope cl' C env)) (fun vv h₆ => ∃ k t l N' X', kv = .int k t ∧ St κ.w H' C l N' X' h₆ ∧ Inv cl' (i + 1) (fun x => if x = k then some vv else ys x) N' X') h₅) h₄
          else ∃ l N' X', St κ.w H' C l N' X' h₄ ∧ Inv cl' (i + 1) ys N' X') h₃) h') ∧
    (∀ cl' ys N' X' D o h', Inv cl' n ys N' X' → IntD ys n o → Led h' ((D, o) :: N') → h₁.get? D = none → (∀ p ∈ N', p.1 ≠ D) → KeepBut h₁ N h' → NewIn h₁ N ((D, o) :: N') → Q (.ref D) h')
theorem T_dictSet {d : Addr} {o : Obj} {f : Int → Option Value} {n : Nat} {k : Int} {t : Tok} {v : Value} {Q : Unit → Heap → Prop} (D : IntD f n o) (e : h.get? d = some o) (hn : n ≤ 1000000)
    (q : ∀ h' o', IntD (fun x => if x = k then some v else f x) (n + 1) o' → Ch h d o' h' → Q () h') : T κ (dictSet d (.int k t) v) Q h := fun dr tk =>
  wpAny_dictSet_int_le (s := ⟨h, κ.g, dr, tk, κ.os⟩) (D.is e).1 (D.is e).2 (Nat.le_trans hn (by decide)) fun h' m z s => by
    obtain ⟨o', e', D'⟩ := IntD.of m z
    exact ⟨rfl, rfl, q h' o' D' ⟨s.2, e'⟩⟩
theorem IntD.new : IntD (fun _ => none) 0 emptyDict := by
  refine ⟨rfl, #[], 0, rfl, (fun e h => by simp at h), fun k => rfl, Nat.le_refl _⟩
theorem IntD.le {f : Int → Option Value} {n m : Nat} {o : Obj} (x : IntD f n o) (k : n ≤ m) : IntD f m o := let ⟨a, es, ep, b, c, d, e⟩ := x; ⟨a, es, ep, b, c, d, Nat.le_trans e k⟩
theorem IntD.congr {f g : Int → Option Value} {n : Nat} {o : Obj} (x : IntD f n o) (e : ∀ y, f y = g y) : IntD g n o := let ⟨a, es, ep, b, c, d, z⟩ := x; ⟨a, es, ep, b, c, fun k => (d k).trans (e k), z⟩
theorem T_dcomp {kx vx target iter : Expr} {ifs : List Expr} {scope : Scope} {pos : Pos} {cl : List (Str × Addr)} {F : List (Str × Addr) → Ledger → Prop} {Q : Value → Heap → Prop}
    (hclos : closureFor scope env = pure cl) (hkind : scope.kind = .function) (hnames : ∀ y ∈ scope.names, y.2 = .local → scope.names.lookup y.1 = some .local) (hs : ∀ x, foldedSetIterable iter env x = pure x)
    (hne : NewEnv κ scope env cl F)
    (e : T κ (eval iter env) (fun xv h₁ => T κ (pyIter xv) (fun it h₂ => DComp κ env scope F target kx vx ifs Q it h₂) h₁) h) :
    T κ (eval (.DictComp kx vx [⟨target, iter, ifs, 0⟩] scope pos) env) Q h := by
  refine T_dictcomp_core hclos hkind hnames hs hne (e.mono fun xv h₁' z => z.mono fun it h₂ z => ?_)
  obtain ⟨I, ws, dep, n, P, h₁, N, Inv, rfl, hn, ⟨hws, hk12, nd, Z, hnd, W, hz⟩, led, top, h0, hdep, turn, done⟩ := z
  obtain ⟨oI, heI⟩ := W.live _ _ hz I W.mem
  refine ⟨I, oI, rfl, heI, fun h k Qi q => W.self 0 h (W.frame _ _ _ hz fun b o _ e => k b o e) Qi q, fun D C cl' X0 h₃ hF hD hC hDC hns hk23 hX0 hDo => ?_⟩
  have fr12 : ∀ {b : Addr}, h₂.get? b = none → h₁.get? b = none := fun {b} q => by
    cases hc : h₁.get? b with
    | none => rfl
    | some o => rw [hk12 _ _ hc] at q; cases q
  have hk13 := hk12.trans hk23
  let as : List Addr := D :: C :: (ws ++ (X0.map (·.1) ++ N.map (·.1)))
  have hCN : ∀ p ∈ N, p.1 ≠ C := fun p hp e => by have := hk12 _ _ (led p hp); rw [e, hC] at this; cases this
  have hDN : ∀ p ∈ N, p.1 ≠ D := fun p hp e => by have := hk12 _ _ (led p hp); rw [e, hD] at this; cases this
  have base : Keep (hid h₁ N) (hideAll h₃ as) := hid_keep_hide hk13 fun a ha => by
    rcases List.mem_cons.mp ha with rfl | ha
    · exact .inl (fr12 hD)
    · rcases List.mem_cons.mp ha with rfl | ha
      · exact .inl (fr12 hC)
      · rcases List.mem_append.mp ha with ha | ha
        · exact .inl (hws a ha)
        · rcases List.mem_append.mp ha with ha | ha
          · obtain ⟨p, hp, rfl⟩ := List.mem_map.mp ha; exact .inl (fr12 (hX0 p hp).1)
          · exact .inr ha
  have inD : D ∈ as := .head _
  have inC : C ∈ as := .tail _ (.head _)
  have inW : ∀ b ∈ ws, b ∈ as := fun b hb => .tail _ (.tail _ (List.mem_append_left _ hb))
  have inX : ∀ p ∈ X0, p.1 ∈ as := fun p hp => .tail _ (.tail _ (List.mem_append_right _ (List.mem_append_left _ (List.mem_map_of_mem hp))))
  have inN : ∀ p ∈ N, p.1 ∈ as := fun p hp => .tail _ (.tail _ (List.mem_append_right _ (List.mem_append_right _ (List.mem_map_of_mem hp))))
  have liveW : ∀ b ∈ ws, ∃ o, h₂.get? b = some o := fun b hb => W.live _ _ hz b hb
  have S : St κ.w (hideAll h₃ as) C [] N ((D, emptyDict) :: X0) h₃ := by
    refine ⟨top.keep base, hns, fun b o e => of_hideAll _ e, hideAll_none _ inC, fun p hp => ⟨hk13 _ _ (led p hp), hCN p hp, hideAll_none _ (inN p hp)⟩, fun p hp => ?_, fun p hp q hq e => ?_⟩
    · rcases List.mem_cons.mp hp with rfl | hp
      · exact ⟨hDo, hDC, hideAll_none _ inD⟩
      · exact ⟨(hX0 p hp).2.1, (hX0 p hp).2.2.1, hideAll_none _ (inX p hp)⟩
    · rcases List.mem_cons.mp hp with rfl | hp
      · exact hDN q hq e.symm
      · have := hk12 _ _ (led q hq); rw [← e, (hX0 p hp).1] at this; cases this
  have hCw : C ∉ ws := fun hb => by obtain ⟨o, ho⟩ := liveW _ hb; rw [hC] at ho; cases ho
  have hDw : D ∉ ws := fun hb => by obtain ⟨o, ho⟩ := liveW _ hb; rw [hD] at ho; cases ho
  refine CN_iter (κ := κ) (ws := ws) (target := target) (rest := restD κ target kx vx ifs (compEnvC scope cl' C env) D) (fun i l N' X' => ∃ ys o X'', X' = (D, o) :: X'' ∧ IntD ys i o ∧ i ≤ i ∧ i ≤ n ∧ (∀ p ∈ N', p.1 ≠ D) ∧ (∀ p ∈ X'', p.1 ≠ D) ∧ Inv cl' i ys N' X'')
    rfl rfl rfl (fun h Qf x => turn_dict h Qf x) (fun v Q Q' h k x => restD_mono k x) W (W.frame _ _ _ hz fun b o _ e => hk23 b o e) S (fun b hb => hideAll_none _ (inW b hb)) hCw
    (fun p hp hb => by have := hws _ hb; rw [led p hp] at this; cases this) (fun p hp hb => ?_) ⟨_, _, X0, rfl, IntD.new, Nat.le_refl _, Nat.zero_le _, hDN, fun p hp => (hX0 p hp).2.2.2, h0 cl' X0 hF⟩ (fun i l N' X' hi p hp => ?_) (fun i v l N' X' H' h h' sub hlt hP hI S S' => ?_) (fun l N' X' h' hI S => ?_)
  · rcases List.mem_cons.mp hp with rfl | hp
    · exact hDw hb
    · obtain ⟨o, ho⟩ := liveW _ hb; rw [(hX0 p hp).1] at ho; cases ho
  · obtain ⟨ys, o, X'', rfl, _, _, _, _, _, hI⟩ := hi
    rcases List.mem_append.mp hp with hp | hp
    · rcases hdep _ _ _ _ _ hI p hp with q | q
      · exact .inl q
      · exact .inr (.inr (base _ _ q))
    · refine .inr (.inr (hideAll_get _ (hk23 _ _ (hnd p hp).2.1) fun hm => ?_))
      rcases List.mem_cons.mp hm with q | hm
      · have := (hnd p hp).2.1; rw [q, hD] at this; cases this
      · rcases List.mem_cons.mp hm with q | hm
        · have := (hnd p hp).2.1; rw [q, hC] at this; cases this
        · rcases List.mem_append.mp hm with q | hm
          · exact (hnd p hp).2.2 q
          · rcases List.mem_append.mp hm with q | q
            · obtain ⟨r, hr, e⟩ := List.mem_map.mp q
              have := (hnd p hp).2.1; rw [← e, (hX0 r hr).1] at this; cases this
            · obtain ⟨r, hr, e⟩ := List.mem_map.mp q
              have := led r hr; rw [e, (hnd p hp).1] at this; cases this
  · obtain ⟨ys, o, X'', rfl, hL, hlen, hin, hND, hXD, hI⟩ := hI
    have S1 := S'.dropX (X' := X'') fun p hp => .tail _ hp
    have no : ∀ {N : Ledger}, (∀ p ∈ N, p.1 ≠ D) → D ∉ N.map (·.1) := fun h q => by obtain ⟨p, hp, e⟩ := List.mem_map.mp q; exact h p hp e
    have hDb : (St.reb C N' X'' h').get? D = some o := St.reb_get (S'.gx (.head _)) hDC (no hND) (no hXD)
    have hDH : H'.get? D = none := (S'.x _ (.head _)).2.2
    have s2 : Keep H' (St.reb C N' X'' h') := S1.sub_reb
    have fin : ∀ {ys' : Int → Option Value} {o' : Obj} {l2 : List (Str × Value)} {N2 X2 : Ledger} {h5 h6 : Heap}, St κ.w (St.reb C N' X'' h') C l2 N2 X2 h5 → Inv cl' (i + 1) ys' N2 X2 → IntD ys' (i + 1) o' → Ch h5 D o' h6 →
        ∃ l' N' X', St κ.w H' C l' N' X' h6 ∧ ∃ ys o X'', X' = (D, o) :: X'' ∧ IntD ys (i + 1) o ∧ i + 1 ≤ i + 1 ∧ i + 1 ≤ n ∧ (∀ p ∈ N', p.1 ≠ D) ∧ (∀ p ∈ X'', p.1 ≠ D) ∧ Inv cl' (i + 1) ys N' X'' := fun {ys' o' l2 N2 X2 h5 h6} S5 hI5 L5 c => by
      have n1 : ∀ p ∈ N2, p.1 ≠ D := fun p hp e => by have := (S5.n p hp).2.2; rw [e, hDb] at this; cases this
      have n2 : ∀ p ∈ X2, p.1 ≠ D := fun p hp e => by have := (S5.x p hp).2.2; rw [e, hDb] at this; cases this
      have S6 := ((S5.back s2 S'.top).addX (S5.keep _ _ hDb) hDC hDH n1).updX (.head _) c
      refine ⟨l2, N2, (D, o') :: X2, S6.dropX fun p hp => ?_, ys', o', X2, rfl, L5, Nat.le_refl _, hlt, n1, n2, hI5⟩
      rcases List.mem_cons.mp hp with rfl | hp
      · exact mem_upd_self (.head _)
      · exact mem_upd_of_ne (.tail _ hp) (n2 p hp)
    refine T.mono (turn C cl' i v ys l N' X'' _ h h' ((base.trans sub).trans s2) hlt hP hI S1.rebase) fun _ h₃ z => z.mono fun ok h₄ z => ?_
    cases ok with
    | true =>
      rw [if_pos rfl] at z ⊢
      refine T.mono z fun kv h₅ z => z.mono fun vv h₆ z => ?_
      obtain ⟨kk, tt, l2, N2, X2, rfl, S5, hI5⟩ := z
      exact T_dictSet hL (S5.keep _ _ hDb) (by omega) fun h6 o' L' c => fin S5 hI5 L' c
    | false =>
      rw [if_neg (by simp)] at z ⊢
      obtain ⟨l2, N2, X2, S5, hI5⟩ := z
      exact fin S5 hI5 (hL.le (Nat.le_succ _)) ⟨fun _ _ => rfl, S5.keep _ _ hDb⟩
  · obtain ⟨ys, o, X'', rfl, hL, hlen, _, hND, _, hI⟩ := hI
    refine ⟨⟨_, S.ns⟩, fun h'' hb => ?_⟩
    have up : ∀ {b : Addr} {o : Obj}, h'.get? b = some o → b ≠ C → h''.get? b = some o := fun e q => (hb _ q).trans e
    refine done cl' ys N' X'' D o h'' hI hL (fun p hp => ?_) (fr12 hD) hND (fun b o e q => ?_) (fun p hp => ?_)
    · rcases List.mem_cons.mp hp with rfl | hp
      · exact up (S.gx (.head _)) hDC
      · exact up (S.n p hp).1 (S.n p hp).2.1
    · have e2 := base _ _ (hid_get e q)
      exact up (S.keep _ _ e2) fun q => by rw [q, S.offL] at e2; cases e2
    · rcases List.mem_cons.mp hp with rfl | hp
      · exact .inr (fr12 hD)
      · by_cases q : p.1 ∈ N.map (·.1)
        · exact .inl q
        · right
          cases hc : h₁.get? p.1 with
          | none => rfl
          | some o => have := base _ _ (hid_get hc q); rw [(S.n p hp).2.2] at this; cases this
end
end Mine
end
section
open PySem PySem.W PySem.Calls PyProof.Rows
set_option Elab.async false
set_option maxRecDepth 100000
set_option linter.all false
namespace Mine
theorem weight_tc (C : Addr) (rest : List Value) (kw : List (Str × Value)) : (Code.builtin "type.__call__" ⟨.ref C :: rest, kw⟩).weight = 1 := by kernel_rfl
theorem units_tc (C : Addr) (rest : List Value) (kw : List (Str × Value)) : (Code.builtin "type.__call__" ⟨.ref C :: rest, kw⟩).cUnits = 1 := by kernel_rfl
def Kx.made (κ : Kx) (c : Code) : Kx := { κ with A := κ.A.under c }
section
variable {κ : Kx} {env : Env} {h : Heap}
theorem Room.made {n : Nat} {C : Addr} {rest : List Value} {kw : List (Str × Value)} (R : Room κ (n + 1)) : Room (κ.made (.builtin "type.__call__" ⟨.ref C :: rest, kw⟩)) n :=
  ⟨R.handled, by have := R.depth; show κ.A.depth + (Code.builtin "type.__call__" ⟨.ref C :: rest, kw⟩).weight + _ < _; rw [weight_tc]; omega,
    by have := R.units; show κ.A.units + (Code.builtin "type.__call__" ⟨.ref C :: rest, kw⟩).cUnits + 16 * n + 100 < _; rw [units_tc]; omega⟩
/-- a class called -/
theorem C_make {Cc fI : Addr} {rest : List Value} {kw : List (Str × Value)} {Q : Value → Heap → Prop} (X : (hd.heap_39 κ.w.params).In h) (hm : makesIn (hd.heap_39 κ.w.params) Cc = true)
    (hi : findIn (hd.heap_39 κ.w.params) (.ref Cc) "__init__" = some (some (.ref fI))) (hf : typeIn (hd.heap_39 κ.w.params) (.ref fI) = some (.type "function"))
    (q : ∀ x dx h', h.get? x = none → h.get? dx = none → x ≠ dx → Keep h h' → h'.get? x = some (instObj Cc dx) → h'.get? dx = some emptyDict →
      Mine.C (κ.made (.builtin "type.__call__" ⟨.ref Cc :: rest, kw⟩)) (.call (.ref fI) ⟨.ref x :: rest, kw⟩) (fun v h'' => v = .none ∧ Q (.ref x) h'') h') : Mine.C κ (.call (.ref Cc) ⟨rest, kw⟩) Q h := fun d tk => by
  refine make_core (makes_of X hm) (looks_findIn X hi) (fun self => bind_fn X self hf) (.inl rfl) ?_
  have hsz : (h.push emptyDict).objs.size = h.objs.size + 1 := Heap.size_push ..
  have hx := Heap.get?_push_size (h.push emptyDict) (o := instObj Cc h.objs.size) rfl
  rw [hsz] at hx
  refine (q (h.objs.size + 1) h.objs.size _ (none_of_ge (Nat.le_succ _)) (get_size_none h) (Nat.succ_ne_self _) ((keep_push _ _).trans (keep_push _ _)) hx (Heap.get?_push_of_some _ (Heap.get?_push_size _ rfl))).use (s := ⟨(h.push emptyDict).push (instObj Cc h.objs.size), κ.g, d, tk, κ.os⟩) rfl rfl fun v s' g o z => ?_
  exact ⟨z.1, g, o, z.2⟩
/-- place arguments and one word argument -/
theorem T_Call_kw1 {func e a : Expr} {k : Str} {pos kp : Pos} {Q : Value → Heap → Prop}
    (x : T κ (eval func env) (fun f h₁ => keepIn (hd.heap_39 κ.w.params) f = true ∧ Args κ env [a] (fun vs h₂ => T κ (eval e env) (fun u h₃ => (hd.heap_39 κ.w.params).In h₃ ∧ T κ (PySem.call f vs [(k, u)]) Q h₃) h₂) h₁) h)
    (hs : ([a].all fun e => !isStarred e) = true := by rfl)
    (he : eval (.Call func [a] [⟨some k, e, kp⟩] pos) env = (do callWith pos (← eval func env) [] (backTo pos (starEach [a] env)) (backToKw pos (keywordEach [⟨some k, e, kp⟩] env))) := by rfl) :
    T κ (eval (.Call func [a] [⟨some k, e, kp⟩] pos) env) Q h := fun d tk => by
  have hs' := hs
  rw [List.all_cons, Bool.and_eq_true] at hs'
  have hst := starEach_cons (env := env) [] (by simpa using hs'.1)
  rw [he]
  refine wpAny_bind (x.use (s := ⟨h, κ.g, d, tk, κ.os⟩) rfl rfl fun f s₁ g1 o1 ⟨hk, z⟩ => ?_)
  refine callWith_of (P := (hd.heap_39 κ.w.params).In) (by rw [hst]; rfl) (keeps_K hk) (evalArgs_kw2 rfl (Args.use hs z g1 o1 fun vs s₂ g2 o2 z => ?_) hst)
  refine evalAll_cons (wpAny_bind (z.use g2 o2 fun u s₃ g3 o3 z => wpAny_bind (wpAny_standAt (wpAny_pure (evalAll_nil ⟨z.1, ?_⟩)))))
  exact z.2.use g3 o3 fun v s₄ g4 o4 z => ⟨g4, o4, z⟩
/-- `xs[:k]` and `xs[k:]` -/
theorem T_slice {value : Expr} {lower upper : Option Expr} {p pos : Pos} {Q : Value → Heap → Prop}
    (x : T κ (eval value env) (fun o h₁ => T κ (evalPart lower env) (fun vl h₂ => T κ (evalPart upper env) (fun vu h₃ => ∃ l items ol lo hi, o = .ref l ∧ h₃.get? l = some ol ∧ LsO items ol ∧ items.length ≤ 1000000 ∧ IsPart vl lo ∧ IsPart vu hi ∧
      ∀ r h' o' ys, slicePick items.toArray lo hi none = ys.toArray → LsO ys o' → Nw h₃ r o' h' → Q (.ref r) h') h₂) h₁) h)
    (ht : ∀ o r, letTemporaryGo value o r = pure () := by intro _ _; rfl) : T κ (eval (.Subscript value (.Slice lower upper none p) pos) env) Q h := fun d tk => by
  refine wpAny_Subscript_list_slice (x.use (s := ⟨h, κ.g, d, tk, κ.os⟩) rfl rfl fun o s₁ g1 o1 z => z.use g1 o1 fun vl s₂ g2 o2 z => z.use g2 o2 fun vu s₃ g3 o3 z => ?_) ht
  obtain ⟨l, items, ol, lo, hi, rfl, el, L, hz, pl, pu, q⟩ := z
  refine ⟨l, items.toArray, lo, hi, rfl, L.is el, by simp only [List.size_toArray]; rw [sizeLine_eq]; omega, pl, pu, g3, o3, ?_⟩
  have hsz : ∀ o, (s₃.heap.push o).objs.size = s₃.heap.objs.size + 1 := fun o => Heap.size_push ..
  refine q _ _ (lso (slicePick items.toArray lo hi none).toList 0) _ (by rw [Array.toArray_toList]) ⟨0, rfl⟩ ⟨none_of_ge (Nat.le_succ _), ?_, (keep_push _ _).trans (keep_push _ _)⟩
  have := Heap.get?_push_size (s₃.heap.push { cls := .type "slice", data := .fields #[vl, vu, .none] }) (o := { cls := .type "list", data := .seq (slicePick items.toArray lo hi none) }) rfl
  rw [hsz] at this
  rw [this]; unfold lso; rw [Array.toArray_toList]
theorem T_part_none {Q : Value → Heap → Prop} (q : Q .none h) : T κ (evalPart none env) Q h := fun _ _ => evalPart_none_step ⟨rfl, rfl, q⟩
theorem T_part_some {e : Expr} {Q : Value → Heap → Prop} (q : T κ (eval e env) Q h) : T κ (evalPart (some e) env) Q h := fun d tk => evalPart_some_step (q d tk)
theorem T_dict0 {pos : Pos} {Q : Value → Heap → Prop} (q : ∀ a h', Nw h a emptyDict h' → Q (.ref a) h') : T κ (eval (.Dict [] [] pos) env) Q h := fun d tk =>
  wpAny_Dict_empty ⟨rfl, rfl, q _ _ ⟨get_size_none h, Heap.get?_push_size _ rfl, keep_push _ _⟩⟩
/-- iterating over a tuple -/
theorem T_iter_tuple {t : Addr} {o : Obj} {items : List Value} {Q : Value → Heap → Prop} {m : Nat} (R : Room κ m) (ho : o = { cls := .type "tuple", data := .seq items.toArray }) (e : h.get? t = some o)
    (q : ∀ I h', ItNew κ h I [(t, o)] items.length (fun i v => items[i]? = some v) h' → Q (.ref I) h') : T κ (pyIter (.ref t)) Q h := fun d tk => by
  subst ho
  refine wpAny_pyIter_tuple (s := ⟨h, κ.g, d, tk, κ.os⟩) (items := items.toArray) ⟨_, e, rfl, _, rfl⟩ ⟨rfl, rfl, q _ _ ⟨get_size_none h, keep_push _ _, [], fun i h' => h'.IsTupleIter h.objs.size t i ∧ h'.IsTuple t items.toArray, (fun p hp => nomatch hp), ⟨?_, ?_⟩, ?_⟩⟩
  · have W := Walks.tuple (prog := PW) (w := κ.w) (A := κ.A) R.handled h.objs.size t (Nat.ne_of_lt (Heap.lt_size e)) items.toArray
    simpa using W
  · rintro i h' ⟨⟨o, ho, _⟩, _⟩; exact ⟨o, ho⟩
  · exact ⟨⟨_, Heap.get?_push_size _ rfl, rfl, rfl⟩, ⟨_, Heap.get?_push_of_some _ e, rfl, _, rfl⟩⟩
end
end Mine
end
section
open PySem PySem.W PySem.Calls PyProof.Rows
set_option Elab.async false
set_option maxRecDepth 100000
set_option linter.all false
namespace Mine
section
variable {κ : Kx} {env : Env} {h : Heap}
theorem T_runOwn {c : Code} {env : Env} {Q : Heap → Prop} (x : CN κ c Q h) : T κ (runOwn c env) (fun f h' => f = .next ∧ Q h') h := fun d tk =>
  wpAny_runOwn (x.use (s := ⟨h, κ.g, d, tk, κ.os⟩) rfl rfl fun s' g o z => ⟨g, o, rfl, z⟩)
theorem turn_outer {elt t0 i0 t1 i1 : Expr} {scope : Scope} {pos : Pos} {I : Addr} {acc : Value} {cenv : Env} (h : Heap) (Qf : Fin → Heap → Prop) (hs1 : ∀ x, foldedSetIterable i1 cenv x = pure x)
    (x : T κ (pyNext (.ref I)) (fun r h₁ => match r with
      | none => Qf (.done .next) h₁
      | some v => T κ (letOwnedTupleGo t0 (.ref I) v) (fun _ h₁ => T κ (assign t0 cenv v) (fun _ h₂ => T κ (eval i1 cenv) (fun x h₃ => T κ (pyIter x) (fun it h₄ =>
        CN κ (.compStart (.ListComp elt [⟨t0, i0, [], 0⟩, ⟨t1, i1, [], 0⟩] scope pos) 1 it acc cenv) (fun h₅ => Qf (.again (.compLoop (.ListComp elt [⟨t0, i0, [], 0⟩, ⟨t1, i1, [], 0⟩] scope pos) 0 (.ref I) acc cenv)) h₅) h₄) h₃) h₂) h₁) h₁) h) :
    T κ (compTurn (.ListComp elt [⟨t0, i0, [], 0⟩, ⟨t1, i1, [], 0⟩] scope pos) 0 (.ref I) acc cenv) Qf h := by
  unfold compTurn
  refine T_bind (T_standAt (T_bind (x.mono fun r h₁ z => ?_)))
  cases r with
  | none => exact T_pure z
  | some v =>
    refine T_bind (z.mono fun _ h₁ z => T_bind (z.mono fun _ h₂ z => ?_))
    show T κ (pure true >>= _) Qf h₂
    refine T_bind (T_pure ?_)
    show T κ (eval i1 cenv >>= _) Qf h₂
    refine T_bind (z.mono fun x h₃ z => T_bind (T_standAt ?_))
    show T κ (foldedSetIterable i1 cenv x >>= _) Qf h₃
    rw [hs1]
    refine T_bind (T_pure ?_)
    show T κ (holding [x] (pyIter x) >>= _) Qf h₃
    refine T_bind (T_holding (z.mono fun it h₄ z => T_bind ((T_runOwn z).mono fun f h₅ z => ?_)))
    exact T_bind (T_pure (T_pure z.2))
theorem CN_start1 {elt t0 i0 t1 i1 : Expr} {scope : Scope} {pos : Pos} {it acc : Value} {cenv : Env} {Q : Heap → Prop}
    (h0 : CN κ (.compLoop (.ListComp elt [⟨t0, i0, [], 0⟩, ⟨t1, i1, [], 0⟩] scope pos) 1 it acc cenv) Q h)
    (h1 : T κ (pyIter it) (fun it' h' => CN κ (.compLoop (.ListComp elt [⟨t0, i0, [], 0⟩, ⟨t1, i1, [], 0⟩] scope pos) 1 it' acc cenv) Q h') h) :
    CN κ (.compStart (.ListComp elt [⟨t0, i0, [], 0⟩, ⟨t1, i1, [], 0⟩] scope pos) 1 it acc cenv) Q h := fun d tk => by
  refine codeAny_of_tree ?_
  show wpAny _ _ ((compStart (.ListComp elt [⟨t0, i0, [], 0⟩, ⟨t1, i1, [], 0⟩] scope pos) 1 it acc cenv).onRaise (fun x => do noteFrame x cenv; standAt theWindowsPlace)) _ _ _
  refine wpAny_notedAt ?_
  unfold compStart
  show wpAny _ _ (ask >>= _) _ _ _
  refine wpAny_bind (wpAny_askSetting ?_)
  dsimp only
  split
  · first
      | exact wpAny_bind (wpAny_pure (wpAny_pure (And.intro rfl (h0 d tk))))
      | exact wpAny_pure (And.intro rfl (h0 d tk))
  · have key := h1.use (s := ⟨h, κ.g, d, tk, κ.os⟩) (Q' := fun it' s' => s'.gens = κ.g ∧ s'.os = κ.os ∧ CN κ (.compLoop (.ListComp elt [⟨t0, i0, [], 0⟩, ⟨t1, i1, [], 0⟩] scope pos) 1 it' acc cenv) Q s'.heap) (E := notedBy κ.M κ.A cenv fun _ _ => False) rfl rfl fun it' s' g o z => ⟨g, o, z⟩
    have fin : ∀ it' s', (s'.gens = κ.g ∧ s'.os = κ.os ∧ CN κ (.compLoop (.ListComp elt [⟨t0, i0, [], 0⟩, ⟨t1, i1, [], 0⟩] scope pos) 1 it' acc cenv) Q s'.heap) → codeAny κ.M κ.A (.compLoop (.ListComp elt [⟨t0, i0, [], 0⟩, ⟨t1, i1, [], 0⟩] scope pos) 1 it' acc cenv) (fun r s' => match r with
      | .ok .next => s'.gens = κ.g ∧ s'.os = κ.os ∧ Q s'.heap
      | _ => False) s' := fun it' s' z => z.2.2.use z.1 z.2.1 fun s g o z => ⟨g, o, z⟩
    first
      | exact wpAny_bind (wpAny_rule (wpAny_bind (wpAny_standAt (wpAny_bind (wpAny_mono key (fun it' s' h' => wpAny_pure (And.intro rfl (fin it' s' h'))) fun _ _ x => x)))))
      | (refine wpAny_bind (wpAny_rule ?_); show wpAny _ _ (standAt i1.pos >>= _) _ _ _; exact wpAny_bind (wpAny_standAt (wpAny_bind (wpAny_mono key (fun it' s' h' => wpAny_pure (And.intro rfl (fin it' s' h'))) fun _ _ x => x))))
theorem turn_inner {elt t0 i0 t1 i1 : Expr} {scope : Scope} {pos : Pos} {I : Addr} {acc : Value} {cenv : Env} (h : Heap) (Qf : Fin → Heap → Prop)
    (x : T κ (pyNext (.ref I)) (fun r h₁ => match r with
      | none => Qf (.done .next) h₁
      | some v => T κ (letOwnedTupleGo t1 (.ref I) v) (fun _ h₁ => T κ (assign t1 cenv v) (fun _ h₂ => T κ (eval elt cenv) (fun y h₃ => T κ (call (.builtin "list.append") [acc, y]) (fun _ h₄ =>
        Qf (.again (.compLoop (.ListComp elt [⟨t0, i0, [], 0⟩, ⟨t1, i1, [], 0⟩] scope pos) 1 (.ref I) acc cenv)) h₄) h₃) h₂) h₁) h₁) h) :
    T κ (compTurn (.ListComp elt [⟨t0, i0, [], 0⟩, ⟨t1, i1, [], 0⟩] scope pos) 1 (.ref I) acc cenv) Qf h := by
  unfold compTurn
  show T κ (standAt i1.pos >>= _) Qf h
  refine T_bind (T_standAt ?_)
  show T κ (pyNext (.ref I) >>= _) Qf h
  refine T_bind (x.mono fun r h₁ z => ?_)
  cases r with
  | none => exact T_pure z
  | some v =>
    refine T_bind (z.mono fun _ h₁ z => T_bind (z.mono fun _ h₂ z => ?_))
    show T κ (pure true >>= _) Qf h₂
    refine T_bind (T_pure ?_)
    show T κ ((eval elt cenv >>= _) >>= _) Qf h₂
    exact T_bind (T_bind (z.mono fun y h₃ z => T_bind (z.mono fun _ h₄ z => T_pure (T_pure z))))
end
end Mine
end
section
open PySem PySem.W PySem.Calls PyProof.Rows
set_option Elab.async false
set_option maxRecDepth 100000
set_option linter.all false
namespace Mine
section
variable {κ : Kx} {env : Env} {h : Heap}
/-- `[elt for x0 in i0 for x1 in i1]`, the inner over a tuple made anew -/
theorem LCore_lcomp2 {elt i0 i1 : Expr} {x0 x1 : Str} {px0 px1 : Pos} {scope : Scope} {pos : Pos} {cl : List (Str × Addr)} {Q : Value → Heap → Prop} {m : Nat} (R : Room κ m) (kw : Nat) (hws : kw ≤ 100) (E : Nat → Value → Prop)
    (e : T κ (eval i0 env) (fun xv h₁ => T κ (pyIter xv) (fun it h₂ => ∃ (I : Addr) (dep : Ledger) (n : Nat) (P : Nat → Value → Prop) (h₁ : Heap) (Y : Nat → Nat → Value → Prop),
      it = .ref I ∧ n ≤ 1000 ∧ ItNew κ h₁ I dep n P h₂ ∧ Led h₁ dep ∧ TopIn κ.w h₁ ∧
      (∀ C l X H' h', Keep h₁ H' → St κ.w H' C l [] X h' → T κ (eval i1 (compEnvC scope cl C env)) (fun xv h'' => ∃ (t : Addr) (ws : List Value), xv = .ref t ∧ ws.length = kw ∧ (∀ j w, ws[j]? = some w → E j w) ∧ Nw h' t { cls := .type "tuple", data := .seq ws.toArray } h'') h') ∧
      (∀ C i j v w l X H' h', Keep h₁ H' → P i v → E j w → look l x0 = some v → look l x1 = some w → St κ.w H' C l [] X h' → T κ (eval elt (compEnvC scope cl C env)) (fun y h'' => h'' = h' ∧ Y i j y) h') ∧
      (∀ ys D o h', ys.length = n * kw → (∀ i j, i < n → j < kw → ∃ y, ys[i * kw + j]? = some y ∧ Y i j y) → LsO ys o → Nw h₁ D o h' → Q (.ref D) h')) h₁) h)
    (hkind : scope.kind = .function) (hs1 : ∀ C x, foldedSetIterable i1 (compEnvC scope cl C env) x = pure x) (hx0 : scope.names.lookup x0 = some .local) (hx1 : scope.names.lookup x1 = some .local) (hxx : x0 ≠ x1) :
    LCoreE κ env elt (.Name x0 px0) i0 [] [⟨.Name x1 px1, i1, [], 0⟩] scope pos (fun cl' X0 => cl' = cl ∧ X0 = []) Q h := by
  refine T.mono e fun xv h₁' z => z.mono fun it h₂ z => ?_
  obtain ⟨I, dep, n, P, h₁, Y, rfl, hn, ⟨hI1, hk12, nd, Z, hnd, W, hz⟩, hdep, top, hin, helt, done⟩ := z
  obtain ⟨oI, heI⟩ := W.live _ _ hz
  refine ⟨I, oI, rfl, heI, fun h k Qi q => (W.two x0 px0).self 0 h (W.walks.frame _ _ _ hz fun b _ o e => k b o e) Qi q, ?_⟩
  rintro D C cl' X0 h₃ ⟨rfl, rfl⟩ hD hC hDC hns hk23 - hDo
  have fr12 : ∀ {b : Addr}, h₂.get? b = none → h₁.get? b = none := fun {b} q => by
    cases hc : h₁.get? b with
    | none => rfl
    | some o => rw [hk12 _ _ hc] at q; cases q
  have hk13 := hk12.trans hk23
  let as : List Addr := [D, C, I]
  have base : Keep h₁ (hideAll h₃ as) := fun b o e => by
    refine hideAll_get _ (hk13 _ _ e) fun hm => ?_
    rcases List.mem_cons.mp hm with rfl | hm
    · rw [fr12 hD] at e; cases e
    · rcases List.mem_cons.mp hm with rfl | hm
      · rw [fr12 hC] at e; cases e
      · rw [List.mem_singleton.mp hm, hI1] at e; cases e
  have inD : D ∈ as := .head _
  have inC : C ∈ as := .tail _ (.head _)
  have inI : I ∈ as := .tail _ (.tail _ (.head _))
  have hCI : C ≠ I := fun q => by rw [q, heI] at hC; cases hC
  have hDI : D ≠ I := fun q => by rw [q, heI] at hD; cases hD
  have S : St κ.w (hideAll h₃ as) C [] [] [(D, lso [] 0)] h₃ :=
    ⟨top.keep base, hns, fun b o e => of_hideAll _ e, hideAll_none _ inC, (fun p hp => nomatch hp), fun p hp => by rw [List.mem_singleton.mp hp]; exact ⟨hDo, hDC, hideAll_none _ inD⟩, fun p hp q hq => nomatch hq⟩
  let Got (k : Nat) (ys : List Value) : Prop := ys.length = k ∧ ∀ i j, j < kw → i * kw + j < k → ∃ y, ys[i * kw + j]? = some y ∧ Y i j y
  refine CN_iter (κ := κ) (ws := [I]) (target := .Name x0 px0) (rest := fun v Qr h => T κ (assign (.Name x0 px0) (compEnvC scope cl' C env) v) (fun _ h₂ => T κ (eval i1 (compEnvC scope cl' C env)) (fun x h₃ => T κ (pyIter x) (fun it h₄ =>
        CN κ (.compStart (.ListComp elt [⟨.Name x0 px0, i0, [], 0⟩, ⟨.Name x1 px1, i1, [], 0⟩] scope pos) 1 it (.ref D) (compEnvC scope cl' C env)) Qr h₄) h₃) h₂) h)
    (fun i l N X => N = [] ∧ i ≤ n ∧ ∃ ys o X'', X = (D, o) :: X'' ∧ LsO ys o ∧ (∀ p ∈ X'', p.1 ≠ D) ∧ Got (i * kw) ys)
    rfl rfl rfl (fun h Qf x => turn_outer h Qf (hs1 C) x) (fun v Q Q' h k x => T.mono x fun _ _ z => z.mono fun _ _ z => z.mono fun _ h z d tk => codeAny_mono (z d tk) fun r s z => ?_) (W.two x0 px0) (W.walks.frame _ _ _ hz fun b _ o e => hk23 b o e) S (fun b hb => by rw [List.mem_singleton.mp hb]; exact hideAll_none _ inI)
    (by simpa using hCI) (fun p hp => nomatch hp) (fun p hp => by rw [List.mem_singleton.mp hp]; simpa using hDI) ⟨rfl, Nat.zero_le _, [], _, [], rfl, ⟨0, rfl⟩, (fun p hp => nomatch hp), by simp, fun i j _ h => absurd h (by omega)⟩ (fun i l N X hi p hp => ?_) (fun i v l N X H' h h' sub hlt hP hI S S' => ?_) (fun l N X h' hI S => ?_)
  · rcases r with e | (_ | _ | _ | v)
    · exact z.elim
    · exact ⟨z.1, z.2.1, k _ z.2.2⟩
    · exact z.elim
    · exact z.elim
    · exact z.elim
  · refine .inr (.inr ?_)
    rcases List.mem_append.mp hp with hp | hp
    · exact base _ _ (hdep p hp)
    · refine hideAll_get _ (hk23 _ _ (hnd p hp).2.1) fun hm => ?_
      rcases List.mem_cons.mp hm with q | hm
      · have := (hnd p hp).2.1; rw [q, hD] at this; cases this
      · rcases List.mem_cons.mp hm with q | hm
        · have := (hnd p hp).2.1; rw [q, hC] at this; cases this
        · exact (hnd p hp).2.2 (List.mem_singleton.mp hm)
  · obtain ⟨rfl, hin', ys, o, X'', rfl, hL, hXD, hG⟩ := hI
    refine T_assign_name (T_store S' (fun h₅ S₅ => ?_) rfl hkind (lookup_relabel_local hx0))
    refine (hin C _ _ H' h₅ (base.trans sub) S₅).mono fun xv h₆ z => ?_
    obtain ⟨t, ws, rfl, hwl, hwE, c⟩ := z
    have S₆ := S₅.new c
    refine T_iter_tuple R rfl c.at_ fun I1 h₇ it7 => ?_
    rw [hwl] at it7
    obtain ⟨f1, k67, nd1, Z1, hnd1, W1, hz1⟩ := it7
    have none5 : ∀ {b : Addr}, h₆.get? b = none → h₅.get? b = none := fun {b} q => by
      cases hc : h₅.get? b with
      | none => rfl
      | some o => rw [c.keep _ _ hc] at q; cases q
    have htI : t ≠ I1 := fun q => by rw [← q, c.at_] at f1; cases f1
    obtain ⟨H2, sub2, S2, hH2, hb2, hC2, hN2, hX2⟩ := base_ws S₅ (ws := [I1]) (fun b hb => by rw [List.mem_singleton.mp hb]; exact none5 f1) (c.keep.trans k67)
    have htH : H2.get? t = some { cls := .type "tuple", data := .seq ws.toArray } := hb2 _ _ c.fresh (by simpa using htI) (k67 _ _ c.at_)
    have loop : CN κ (.compLoop (.ListComp elt [⟨.Name x0 px0, i0, [], 0⟩, ⟨.Name x1 px1, i1, [], 0⟩] scope pos) 1 (.ref I1) (.ref D) (compEnvC scope cl' C env))
        (fun h' => ∃ l' N' X', St κ.w H' C l' N' X' h' ∧ N' = [] ∧ i + 1 ≤ n ∧ ∃ ys o X'', X' = (D, o) :: X'' ∧ LsO ys o ∧ (∀ p ∈ X'', p.1 ≠ D) ∧ Got ((i + 1) * kw) ys) h₇ := by
      refine CN_iter (κ := κ) (ws := [I1]) (target := .Name x1 px1) (rest := fun v Qr h => T κ (assign (.Name x1 px1) (compEnvC scope cl' C env) v) (fun _ h₂ => T κ (eval elt (compEnvC scope cl' C env)) (fun y h₃ => T κ (call (.builtin "list.append") [.ref D, y]) (fun _ h₄ => Qr h₄) h₃) h₂) h)
        (fun j l N X => N = [] ∧ j ≤ kw ∧ look l x0 = some v ∧ ∃ ys o X'', X = (D, o) :: X'' ∧ LsO ys o ∧ (∀ p ∈ X'', p.1 ≠ D) ∧ Got (i * kw + j) ys)
        rfl rfl rfl (fun h Qf x => turn_inner h Qf x) (fun v Q Q' h k x => T.mono x fun _ _ z => z.mono fun _ _ z => z.mono fun _ h z => k _ z) (W1.two x1 px1) hz1 S2 hH2 hC2 hN2 hX2
        ⟨rfl, Nat.zero_le _, by simp [look], ys, o, X'', rfl, hL, hXD, hG⟩ (fun j l N X _ p hp => ?_) (fun j w l N X H3 ha hb sub3 hlt3 hP3 hI3 S3 S3' => ?_) (fun l N X h' hI S => ?_)
      · refine .inr (.inr ?_)
        rcases List.mem_append.mp hp with hp | hp
        · rw [List.mem_singleton.mp hp]; exact htH
        · exact hb2 _ _ (none5 (hnd1 p hp).1) (by simpa using (hnd1 p hp).2.2) (hnd1 p hp).2.1
      · obtain ⟨rfl, hj, hl0, ys, o, X'', rfl, hL, hXD, hG⟩ := hI3
        refine T_assign_name (T_store S3' (fun h₅ S₅ => ?_) rfl hkind (lookup_relabel_local hx1))
        refine (helt C i j v w _ _ H3 h₅ (((base.trans sub).trans sub2).trans sub3) hP (hwE _ _ hP3) (by simp [look, hxx, hl0]) (by simp [look]) S₅).mono fun y h₆ ⟨rfl, hY⟩ => ?_
        have hle : i * kw ≤ 1000 * 100 := Nat.mul_le_mul (by omega) hws
        refine T_append hL (S₅.gx (.head _)) (by rw [hG.1]; omega) fun h₇ o' L' ch => ?_
        refine ⟨_, [], (D, o') :: X'', ((S₅.updX (.head _) ch).dropX fun p hp => ?_), rfl, hlt3, by simp [look, hxx, hl0], ys ++ [y], o', X'', rfl, L', hXD, by simp [hG.1]; omega, fun a b hb' hab => ?_⟩
        · rcases List.mem_cons.mp hp with rfl | hp
          · exact mem_upd_self (.head _)
          · exact mem_upd_of_ne (.tail _ hp) (hXD p hp)
        · by_cases hnew : a * kw + b < i * kw + j
          · obtain ⟨y', e1, e2⟩ := hG.2 a b hb' hnew
            exact ⟨y', by rw [List.getElem?_append_left (by rw [hG.1]; exact hnew)]; exact e1, e2⟩
          · have heq : a * kw + b = i * kw + j := by omega
            have hab : a = i ∧ b = j := by
              rcases Nat.lt_trichotomy a i with q | q | q
              · have : a * kw + kw ≤ i * kw := by rw [← Nat.succ_mul]; exact Nat.mul_le_mul_right _ q
                omega
              · subst q; exact ⟨rfl, by omega⟩
              · have : i * kw + kw ≤ a * kw := by rw [← Nat.succ_mul]; exact Nat.mul_le_mul_right _ q
                omega
            obtain ⟨rfl, rfl⟩ := hab
            exact ⟨y, by rw [← hG.1]; simp, hY⟩
      · obtain ⟨rfl, _, _, ys, o, X'', rfl, hL, hXD, hG⟩ := hI
        refine ⟨l, [], (D, o) :: X'', S.back sub2 S₅.top, rfl, hlt, ys, o, X'', rfl, hL, hXD, ?_⟩
        have : i * kw + kw = (i + 1) * kw := by rw [Nat.add_mul]; simp
        rw [this] at hG; exact hG
    refine CN_start1 loop ((W1.two x1 px1).self 0 h₇ hz1 _ loop)
  · obtain ⟨rfl, _, ys, o, X'', rfl, hL, hXD, hG⟩ := hI
    refine ⟨⟨_, S.ns⟩, fun h'' hb => ?_⟩
    have up : ∀ {b : Addr} {o : Obj}, h'.get? b = some o → b ≠ C → h''.get? b = some o := fun e q => (hb _ q).trans e
    refine done ys D o h'' hG.1 (fun i j hi hj => hG.2 i j hj ?_) hL ⟨fr12 hD, up (S.gx (.head _)) hDC, fun b o e => ?_⟩
    · calc i * kw + j < i * kw + kw := by omega
        _ = (i + 1) * kw := by rw [Nat.add_mul]; simp
        _ ≤ n * kw := Nat.mul_le_mul_right _ hi
    · have e2 := base _ _ e
      exact up (S.keep _ _ e2) fun q => by rw [q, S.offL] at e2; cases e2
theorem T_lcomp2 {elt i0 i1 : Expr} {x0 x1 : Str} {px0 px1 : Pos} {scope : Scope} {pos : Pos} {cl : List (Str × Addr)} {Q : Value → Heap → Prop} {m : Nat} (R : Room κ m) (kw : Nat) (hws : kw ≤ 100) (E : Nat → Value → Prop)
    (e : T κ (eval i0 env) (fun xv h₁ => T κ (pyIter xv) (fun it h₂ => ∃ (I : Addr) (dep : Ledger) (n : Nat) (P : Nat → Value → Prop) (h₁ : Heap) (Y : Nat → Nat → Value → Prop),
      it = .ref I ∧ n ≤ 1000 ∧ ItNew κ h₁ I dep n P h₂ ∧ Led h₁ dep ∧ TopIn κ.w h₁ ∧
      (∀ C l X H' h', Keep h₁ H' → St κ.w H' C l [] X h' → T κ (eval i1 (compEnvC scope cl C env)) (fun xv h'' => ∃ (t : Addr) (ws : List Value), xv = .ref t ∧ ws.length = kw ∧ (∀ j w, ws[j]? = some w → E j w) ∧ Nw h' t { cls := .type "tuple", data := .seq ws.toArray } h'') h') ∧
      (∀ C i j v w l X H' h', Keep h₁ H' → P i v → E j w → look l x0 = some v → look l x1 = some w → St κ.w H' C l [] X h' → T κ (eval elt (compEnvC scope cl C env)) (fun y h'' => h'' = h' ∧ Y i j y) h') ∧
      (∀ ys D o h', ys.length = n * kw → (∀ i j, i < n → j < kw → ∃ y, ys[i * kw + j]? = some y ∧ Y i j y) → LsO ys o → Nw h₁ D o h' → Q (.ref D) h')) h₁) h)
    (hclos : closureFor scope env = pure cl := by rfl) (hkind : scope.kind = .function := by rfl) (hnames : ∀ y ∈ scope.names, y.2 = .local → scope.names.lookup y.1 = some .local := by decide) (hs : ∀ x, foldedSetIterable i0 env x = pure x := by intro _; rfl)
    (hs1 : ∀ C x, foldedSetIterable i1 (compEnvC scope cl C env) x = pure x := by intro _ _; rfl)
    (hcell : ∀ y ∈ scope.names, y.2 ≠ .cell := by decide) (hx0 : scope.names.lookup x0 = some .local := by rfl) (hx1 : scope.names.lookup x1 = some .local := by rfl) (hxx : x0 ≠ x1 := by decide) :
    T κ (eval (.ListComp elt [⟨.Name x0 px0, i0, [], 0⟩, ⟨.Name x1 px1, i1, [], 0⟩] scope pos) env) Q h := by
  exact T_listcomp_core hclos hkind hnames hs (NewEnv.plain hcell hkind) (LCore_lcomp2 R kw hws E e hkind hs1 hx0 hx1 hxx)
end
end Mine
end
section
open PySem PySem.W PySem.Calls PyProof.Rows
set_option Elab.async false
set_option maxRecDepth 100000
set_option linter.all false
namespace Mine
theorem lookup_mem {α β : Type} [BEq α] [LawfulBEq α] {x : α} {c : β} : ∀ {l : List (α × β)}, l.lookup x = some c → (x, c) ∈ l
  | [], h => by simp at h
  | (a, b) :: r, h => by
    rw [List.lookup_cons] at h
    by_cases e : x = a
    · subst e; simp at h; subst h; exact .head _
    · rw [beq_eq_false_iff_ne.mpr e] at h; exact .tail _ (lookup_mem h)
section
variable {κ : Kx} {h : Heap} {n : Nat} {N : Ledger} {Post : Value → Ledger → Prop}
/-- into a def with captured names -/
theorem C_defC {name qual : Str} {params : Arguments} {body : List Stmt} {scope : Scope} {dV kV doc pm cdv ct oc : Value} {an od : Option Addr} {osl : Array (Option Value)} {f : Addr} {vals : List Value} (binds l0 : List (Str × Value)) (cm : Str → Option Value)
    (R : Room κ (n + 1)) (top : TopIn κ.w (hid h N)) (led : Led h N)
    (ho : (hd.heap_39 κ.w.params).lookup f = some ⟨oc, od, .func (fnOf name qual params body scope dV kV doc pm an cdv ct), osl⟩) (hcd : codeIn (hd.heap_39 κ.w.params) cdv qual = true)
    (hbind : bindArgs (fnOf name qual params body scope dV kV doc pm an cdv ct) ⟨vals, []⟩ = pure binds)
    (hkind : ∀ m, ∀ y ∈ binds, scope.names.lookup y.1 = some .local ∨ (scope.names.lookup y.1 = some .cell ∧ ((cellsFrom m scope.names []).lookup y.1).isSome = true))
    (hl : ∀ L cl, bindL (envX qual scope L f cdv cl).kindOf binds (fun _ => none) = look l0)
    (hc : ∀ L cl, bindC (envX qual scope L f cdv cl).kindOf binds (fun _ => none) = cm)
    (hb : ∀ (κ' : Kx) (L' : Addr) (h₁ : Heap) (X0 : Ledger), κ'.w = κ.w → (∀ x c, (cellsFrom (L' + 1) scope.names []).lookup x = some c → ∃ o, (c, o) ∈ X0 ∧ o.data = .cell (cm x)) → St κ'.w (hid h N) L' l0 N X0 h₁ → Room κ' n →
      T κ' (execs body (envX qual scope L' f cdv (cellsFrom (L' + 1) scope.names []))) (fun fl h' => ∃ l' N' X', St κ'.w (hid h N) L' l' N' X' h' ∧ Post (retOf fl) N') h₁)
    (hco : scope.isCoroutine = false := by rfl) (hgen : scope.isGenerator = false := by rfl) (hk : scope.kind = .function := by rfl) : C κ (.call (.ref f) ⟨vals, []⟩) (Out h N Post) h := by
  intro d tk
  have topK := (top.keep hid_sub).k
  refine codeAny_call_cells (s := ⟨h, κ.g, d, tk, κ.os⟩) (fd := fnOf name qual params body scope dV kV doc pm an cdv ct) (body := body) (vals := vals) (binds := binds) (by have := R.depth; omega) (topK _ _ ho) rfl (top.keep hid_sub).nolimit (codeRec_of topK hcd) rfl
    hbind rfl (hkind _) (fun s₁ X => ?_) hco hgen hk
  have henv : callEnvC (fnOf name qual params body scope dV kV doc pm an cdv ct) h.objs.size f = envX qual scope h.objs.size f cdv (cellsFrom (h.objs.size + 1) scope.names []) := rfl
  obtain ⟨⟨⟨h₁, tk₁, rfl⟩, hns, hkp, _⟩, hcell, hap, hab⟩ := X
  dsimp only at hns hkp hcell hap hab ⊢
  have hns' : h₁.Ns h.objs.size (look l0) := by rw [← hl h.objs.size (cellsFrom (h.objs.size + 1) scope.names [])]; exact hns
  let X0 : Ledger := (cellsFrom (h.objs.size + 1) scope.names []).filterMap fun p => (h₁.get? p.2).map fun o => (p.2, o)
  have hX0 : ∀ p ∈ X0, h₁.get? p.1 = some p.2 ∧ h.objs.size < p.1 := fun p hp => by
    obtain ⟨q, hq, e⟩ := List.mem_filterMap.mp hp
    cases hg : h₁.get? q.2 with
    | none => rw [hg] at e; cases e
    | some o =>
      rw [hg] at e; cases e
      exact ⟨hg, hab q.1 q.2 hq⟩
  have S : St κ.w (hid h N) h.objs.size l0 N X0 h₁ := by
    refine ⟨top, hns', fun b o e => hkp b o (hid_sub b o e), hid_mono_none (get_size_none h), fun p hp => ⟨hkp _ _ (led p hp), fun e => ?_, hid_none hp⟩, fun p hp => ⟨(hX0 p hp).1, Nat.ne_of_gt (hX0 p hp).2, hid_mono_none (none_of_ge (Nat.le_of_lt (hX0 p hp).2))⟩, fun p hp q hq e => ?_⟩
    · have := led p hp; rw [e, get_size_none] at this; cases this
    · have := led q hq; rw [← e, none_of_ge (Nat.le_of_lt (hX0 p hp).2)] at this; cases this
  refine (hb (κ.deep (envX qual scope h.objs.size f cdv (cellsFrom (h.objs.size + 1) scope.names []))) _ h₁ X0 rfl (fun x c hxc => ?_) S (R.deep _)).use (s := ⟨h₁, κ.g, d, tk₁, κ.os⟩) rfl rfl fun fl s' hg' ho' z => ?_
  · obtain ⟨o, ho', hd'⟩ := hcell x c hxc
    refine ⟨o, List.mem_filterMap.mpr ⟨(x, c), lookup_mem hxc, by show (h₁.get? c).map _ = _; rw [ho']; rfl⟩, ?_⟩
    rw [← hc h.objs.size (cellsFrom (h.objs.size + 1) scope.names [])]; exact hd'
  · obtain ⟨l', N', X', S', p⟩ := z
    exact ⟨hg', ho', by cases fl <;> exact out_of rfl S' p⟩
end
section
variable {κ : Kx} {h : Heap}
/-- the frame of a comprehension with one name of its own that is captured -/
theorem NewEnv.one {scope : Scope} {env : Env} {cl : List (Str × Addr)} {k : Str} (hkind : scope.kind = .function) (hc : ∀ n, cellsFrom n scope.names cl = (k, n) :: cl) (hc0 : ∀ n, cellsFrom n scope.names [] = [(k, n)]) :
    NewEnv κ scope env cl (fun cl' X0 => ∃ ck o, cl' = (k, ck) :: cl ∧ X0 = [(ck, o)] ∧ o.data = .cell none) := fun h Q q d tk => by
  simp only [newFunctionEnv, Option.isSome_some, if_true]
  refine wpAny_bind (wpAny_alloc ?_)
  refine wpAny_bind (wpAny_layCells _ (fun name kind cells => by cases hkc : kind == NameKind.cell <;> simp [hkc]) _ _ _ _ ?_)
  have hok : CellsOk (pushCells (h.push { cls := .type "dict", data := .dict #[] }) scope.names) (h.objs.size + 1) (cellsFrom (h.objs.size + 1) scope.names []) := by
    have := cellsFrom_ok scope.names (h.push { cls := .type "dict", data := .dict #[] }) (h.objs.size + 1) [] ⟨fun _ _ hm => (nomatch hm), List.Pairwise.nil⟩ (by rw [Heap.size_push]; exact Nat.le_refl _)
    rwa [Heap.size_push] at this
  rw [show ({ (⟨h, κ.g, d, tk, κ.os⟩ : Shared) with heap := h.push { cls := .type "dict", data := .dict #[] } } : Shared).heap.objs.size = h.objs.size + 1 from Heap.size_push ..]
  rw [hc]
  rw [hc0] at hok
  obtain ⟨⟨o, ho, hd⟩, _⟩ := hok.empty k (h.objs.size + 1) (.head _)
  have hkeep : Keep h (pushCells (h.push { cls := .type "dict", data := .dict #[] }) scope.names) := fun b o e => pushCells_keeps _ _ b o (Heap.get?_push_of_some _ e)
  refine wpAny_bind (wpAny_pure (wpAny_pure ⟨rfl, rfl, q h.objs.size _ [(h.objs.size + 1, o)] _ _ ⟨_, o, rfl, rfl, hd⟩ rfl rfl (get_size_none h) ?_ hkeep fun p hp => ?_⟩))
  · have := (Heap.Ns.new h (.type "dict")).keeps (pushCells_keeps scope.names _)
    exact this
  · rw [List.mem_singleton.mp hp]; exact ⟨none_of_ge (Nat.le_succ _), ho, Nat.succ_ne_self _⟩
theorem T_store_cell {env : Env} {H : Heap} {L c : Addr} {l : List (Str × Value)} {N X : Ledger} {x : Str} {v : Value} {o : Obj} {v0 : Option Value} {Q : Unit → Heap → Prop} (S : St κ.w H L l N X h) (hc : env.cells.lookup x = some c) (hm : (c, o) ∈ X) (ho : o.data = .cell v0)
    (q : ∀ h' o', o'.data = .cell (some v) → St κ.w H L l N (upd X c o') h' → Q () h') (hk : env.scope.kind = .function := by rfl) (hx : env.kindOf x = some .cell := by rfl) : T κ (storeName env x v) Q h := fun d tk => by
  refine wpAny_storeName_cell hk hx hc ⟨o, S.gx hm, ho⟩ fun h' ⟨o', e', d'⟩ hs => ⟨rfl, rfl, q h' o' d' (S.updX hm ⟨hs.2, e'⟩)⟩
end
end Mine
end
section
open PySem PySem.W PySem.Calls PyProof.Rows
set_option Elab.async false
set_option maxRecDepth 100000
set_option linter.all false
namespace Mine
theorem ns_unique {h h' : Heap} {a : Addr} {m m' : Str → Option Value} (x : h.Ns a m) (y : h'.Ns a m') (e : h.get? a = h'.get? a) : m = m' := by
  obtain ⟨o, es, ep, e1, d1, _, f1⟩ := x
  obtain ⟨o', es', ep', e2, d2, _, f2⟩ := y
  rw [e1, e2] at e
  cases e
  rw [d1] at d2
  cases d2
  funext n
  rw [← f1, ← f2]
section
variable {κ : Kx} {env : Env} {h : Heap}
/-- `y = [… for …]` on one line: the store comes ahead of the frame's end -/
theorem T_assign_comp {elt target iter : Expr} {ifs : List Expr} {rest : List Comprehension} {scope : Scope} {pos spos : Pos} {y : Str} {py : Pos} {cl : List (Str × Addr)} {F : List (Str × Addr) → Ledger → Prop} {Q : Flow → Heap → Prop}
    (hne : NewEnv κ scope env cl F)
    (e : LCoreE κ env elt target iter ifs rest scope pos F (fun v h' => ∃ H l N X, St κ.w H env.locals l N X h' ∧ ∀ h₃, St κ.w H env.locals ((y, v) :: l) N X h₃ → Q .next h₃) h)
    (hsw : swapsWith (.ListComp elt (⟨target, iter, ifs, 0⟩ :: rest) scope pos) (some (.Name y py)) spos.line env = pure true := by rfl)
    (hclos : closureFor scope env = pure cl := by rfl) (hkind : scope.kind = .function := by rfl) (hnames : ∀ y ∈ scope.names, y.2 = .local → scope.names.lookup y.1 = some .local := by decide) (hs : ∀ x, foldedSetIterable iter env x = pure x := by intro _; rfl)
    (hk : env.scope.kind = .function := by rfl) (hy : env.kindOf y = some .local := by rfl) :
    T κ (exec (.Assign [.Name y py] (.ListComp elt (⟨target, iter, ifs, 0⟩ :: rest) scope pos) spos) env) Q h := fun d tk => by
  have e : T κ (eval iter env) _ h := e
  rw [exec_Assign_Name_used _ _ _ _ hsw]
  refine wpAny_bind (wpAny_standAt (wpAny_bind ?_))
  show wpAny _ κ.A (do let _ ← comprehension (.ListComp elt (⟨target, iter, ifs, 0⟩ :: rest) scope pos) scope env _ (newList []) false (eval iter env) (some (assign (.Name y py) env))) _ _ _
  refine wpAny_bind (wpAny_mono (wpAny_comprehension_free (use := some (assign (.Name y py) env)) (Q := fun _ s' => s'.gens = κ.g ∧ s'.os = κ.os ∧ Q .next s'.heap) rfl hs hclos hkind hnames
    (e.use (s := ⟨h, κ.g, d, tk, κ.os⟩) rfl rfl fun xv s₁ g1 o1 z => z.use g1 o1 fun it s₂ g2 o2 z => ?_)) (fun _ s' hq => wpAny_pure (wpAny_pure hq)) fun _ _ e => e)
  obtain ⟨I, oI, rfl, hI, hself, body⟩ := z
  refine wpAny_newObj_type ?_
  have hD0 := get_size_none s₂.heap
  refine (hne _ (fun cenv h' => ∃ C cl' X0, F cl' X0 ∧ { cenv with scope := relabel scope env } = compEnvC scope cl' C env ∧ cenv.locals = C ∧ (s₂.heap.push (lso [] 0)).get? C = none ∧ h'.Ns C (look []) ∧ Keep (s₂.heap.push (lso [] 0)) h' ∧
      (∀ p ∈ X0, (s₂.heap.push (lso [] 0)).get? p.1 = none ∧ h'.get? p.1 = some p.2 ∧ p.1 ≠ C)) (fun C cl' X0 h' cenv a1 a2 a3 a4 a5 a6 a7 => ⟨C, cl', X0, a1, a2, a3, a4, a5, a6, a7⟩)).use (s := { s₂ with heap := s₂.heap.push (lso [] 0) }) g2 o2 fun cenv s₄ g4 o4 z => ?_
  obtain ⟨C, cl', X0, a1, a2, a3, a4, a5, a6, a7⟩ := z
  have non : ∀ {b : Addr}, (s₂.heap.push (lso [] 0)).get? b = none → s₂.heap.get? b = none ∧ b ≠ s₂.heap.objs.size := fun {b} q => by
    constructor
    · cases hc : s₂.heap.get? b with
      | none => rfl
      | some o => rw [keep_push _ _ _ _ hc] at q; cases q
    · intro e; rw [e, Heap.get?_push_size _ rfl] at q; cases q
  have hD4 : s₄.heap.get? s₂.heap.objs.size = some (lso [] 0) := a6 _ _ (Heap.get?_push_size _ rfl)
  rw [a2]
  have key := body _ C cl' X0 s₄.heap a1 hD0 (non a4).1 (fun e => (non a4).2 e.symm) a5 ((keep_push _ _).trans a6) (fun p hp => ⟨(non (a7 p hp).1).1, (a7 p hp).2.1, (a7 p hp).2.2, (non (a7 p hp).1).2⟩) hD4
  have fin : ∀ s : Shared, s.heap = s₄.heap → s.gens = κ.g → s.os = κ.os → codeAny κ.M κ.A (.compLoop (.ListComp elt (⟨target, iter, ifs, 0⟩ :: rest) scope pos) 0 (.ref I) (.ref s₂.heap.objs.size) (compEnvC scope cl' C env))
      (compPost κ.M κ.A (fun _ _ => False) (some (assign (.Name y py) env)) (fun _ s' => s'.gens = κ.g ∧ s'.os = κ.os ∧ Q .next s'.heap) (.ref s₂.heap.objs.size) cenv.locals) s := fun s hh g o => by
    refine CN.use (s := s) (by rw [hh]; exact key) g o fun s' g o z => ?_
    obtain ⟨⟨m, hm⟩, z⟩ := z
    rw [a3]
    show wpAny _ κ.A (assign (.Name y py) env (.ref s₂.heap.objs.size)) _ _ _
    obtain ⟨H, l, N, X, S, _⟩ := z s'.heap fun _ _ => rfl
    have hLC : env.locals ≠ C := fun q => by
      obtain ⟨H, l, N, X, S, _⟩ := z (hideAll s'.heap [C]) fun b hb => by
        cases hc : s'.heap.get? b with
        | some o => exact hideAll_get _ hc (by simpa using hb)
        | none =>
          cases hc2 : (hideAll s'.heap [C]).get? b with
          | none => rfl
          | some o => rw [of_hideAll _ hc2] at hc; cases hc
      obtain ⟨o, ho⟩ := S.liveL
      rw [q, hideAll_none _ (.head _)] at ho; cases ho
    refine wpAny_assign_Name (wpAny_storeName_local hy S.ns (fun h₂ hn₂ hs₂ => ?_) (by rw [hk]; rfl))
    refine ⟨m, hm.sameBut hs₂ (Ne.symm hLC), fun h₃ hs₃ => ⟨g, o, ?_⟩⟩
    obtain ⟨oL, hoL⟩ := S.liveL
    obtain ⟨o3, ho3⟩ : ∃ o3, h₃.get? env.locals = some o3 := by
      obtain ⟨o2, _, _, e2, _⟩ := hn₂
      exact ⟨o2, (hs₃.2 _ hLC).trans e2⟩
    have hoth : ∀ b, b ≠ env.locals → (h₃.update env.locals fun _ => oL).get? b = h₃.get? b := fun b hb => Heap.get?_update_other _ _ (Ne.symm hb)
    have hself3 : (h₃.update env.locals fun _ => oL).get? env.locals = some oL := Heap.get?_update_self (fun _ => oL) ho3 (Heap.get?_some_iff.mp hoL).2
    obtain ⟨H, l', N', X', S', fin⟩ := z (h₃.update env.locals fun _ => oL) fun b hb => by
      by_cases q : b = env.locals
      · subst q; rw [hself3, hoL]
      · rw [hoth b q, hs₃.2 b hb, hs₂.2 b q]
    have hm' : look l = look l' := ns_unique S.ns S'.ns (by rw [hoL, hself3])
    have hn₃ : h₃.Ns env.locals (look ((y, .ref s₂.heap.objs.size) :: l')) := by
      have := hn₂.sameBut hs₃ hLC
      rw [hm'] at this; exact this
    have off : ∀ {b : Addr} {o : Obj}, H.get? b = some o → b ≠ env.locals := fun e q => by rw [q, S'.offL] at e; cases e
    refine fin h₃ ⟨S'.top, hn₃, fun b o e => ?_, S'.offL, fun p hp => ⟨?_, (S'.n p hp).2⟩, fun p hp => ⟨?_, (S'.x p hp).2⟩, S'.off⟩
    · rw [← hoth b (off e)]; exact S'.keep b o e
    · rw [← hoth _ (S'.n p hp).2.1]; exact (S'.n p hp).1
    · rw [← hoth _ (S'.x p hp).2.1]; exact (S'.x p hp).1
  refine codeAny_compStart_list (fin s₄ rfl g4 o4) ?_
  exact (hself s₄.heap ((keep_push _ _).trans a6) (fun v h' => v = .ref I ∧ h' = s₄.heap) ⟨rfl, rfl⟩).use (s := s₄) g4 o4 fun v s₅ g5 o5 z => by
    obtain ⟨rfl, hh⟩ := z
    exact fin s₅ hh g5 o5
end
end Mine
end
section
open PySem PySem.W PySem.Calls PyProof.Rows
set_option Elab.async false
set_option maxRecDepth 100000
set_option linter.all false
namespace Mine
theorem fill_frag : (PySem.Challenge.rw_at6042_01, Mine.hd.heap_39) = (PySem.Challenge.rw_at6042_01, Mine.hd.heap_39) := by k_fill; rfl
section
variable {κ : Kx}
theorem A_vs : AttrOk (hd.heap_39 κ.w.params) 207 "var_settings" := ⟨by k_is, by k_is, ⟨none, by k_is, by k_is⟩, by k_is, by k_is, by k_is⟩
theorem A_bad : AttrOk (hd.heap_39 κ.w.params) 207 "is_unsatisfied" := ⟨by k_is, by k_is, ⟨none, by k_is, by k_is⟩, by k_is, by k_is, by k_is⟩
theorem A_q : AttrOk (hd.heap_39 κ.w.params) 207 "_unit_prop_queue" := ⟨by k_is, by k_is, ⟨none, by k_is, by k_is⟩, by k_is, by k_is, by k_is⟩
theorem A_sd : AttrOk (hd.heap_39 κ.w.params) 207 "sentinels" := ⟨by k_is, by k_is, ⟨none, by k_is, by k_is⟩, by k_is, by k_is, by k_is⟩
theorem A_vset : AttrOk (hd.heap_39 κ.w.params) 207 "variable_set" := ⟨by k_is, by k_is, ⟨none, by k_is, by k_is⟩, by k_is, by k_is, by k_is⟩
theorem A_cl : AttrOk (hd.heap_39 κ.w.params) 207 "clauses" := ⟨by k_is, by k_is, ⟨none, by k_is, by k_is⟩, by k_is, by k_is, by k_is⟩
theorem A_hp : AttrOk (hd.heap_39 κ.w.params) 207 "lit_heap" := ⟨by k_is, by k_is, ⟨none, by k_is, by k_is⟩, by k_is, by k_is, by k_is⟩
theorem A_sc : AttrOk (hd.heap_39 κ.w.params) 207 "lit_scores" := ⟨by k_is, by k_is, ⟨none, by k_is, by k_is⟩, by k_is, by k_is, by k_is⟩
theorem A_lv : AttrOk (hd.heap_39 κ.w.params) 207 "levels" := ⟨by k_is, by k_is, ⟨none, by k_is, by k_is⟩, by k_is, by k_is, by k_is⟩
theorem L_dec : AttrOk (hd.heap_39 κ.w.params) 229 "decision" := ⟨by k_is, by k_is, ⟨none, by k_is, by k_is⟩, by k_is, by k_is, by k_is⟩
theorem L_vs : AttrOk (hd.heap_39 κ.w.params) 229 "var_settings" := ⟨by k_is, by k_is, ⟨none, by k_is, by k_is⟩, by k_is, by k_is, by k_is⟩
theorem L_flip : AttrOk (hd.heap_39 κ.w.params) 229 "flipped" := ⟨by k_is, by k_is, ⟨none, by k_is, by k_is⟩, by k_is, by k_is, by k_is⟩
theorem K_level : PropOk (hd.heap_39 κ.w.params) 207 "_current_level" 100 := ⟨by k_is, by k_is, ⟨101, _, by k_is, by k_is, by k_is, by k_is⟩⟩
theorem K_sat : MethOk (hd.heap_39 κ.w.params) 207 "_clause_sat" 108 := ⟨by k_is, by k_is, by k_is⟩
theorem K_issent : MethOk (hd.heap_39 κ.w.params) 207 "_is_sentinel" 115 := ⟨by k_is, by k_is, by k_is⟩
theorem K_assign : MethOk (hd.heap_39 κ.w.params) 207 "_assign_literal" 122 := ⟨by k_is, by k_is, by k_is⟩
theorem K_undo : MethOk (hd.heap_39 κ.w.params) 207 "_undo" 129 := ⟨by k_is, by k_is, by k_is⟩
theorem K_simplify : MethOk (hd.heap_39 κ.w.params) 207 "_simplify" 136 := ⟨by k_is, by k_is, by k_is⟩
theorem K_uprop : MethOk (hd.heap_39 κ.w.params) 207 "_unit_prop" 143 := ⟨by k_is, by k_is, by k_is⟩
theorem K_pure : MethOk (hd.heap_39 κ.w.params) 207 "_pure_literal" 150 := ⟨by k_is, by k_is, by k_is⟩
theorem K_calc : MethOk (hd.heap_39 κ.w.params) 207 "_vsids_calculate" 164 := ⟨by k_is, by k_is, by k_is⟩
theorem K_lassigned : MethOk (hd.heap_39 κ.w.params) 207 "_vsids_lit_assigned" 171 := ⟨by k_is, by k_is, by k_is⟩
theorem K_lunset : MethOk (hd.heap_39 κ.w.params) 207 "_vsids_lit_unset" 178 := ⟨by k_is, by k_is, by k_is⟩
theorem K_conflict : MethOk (hd.heap_39 κ.w.params) 207 "_simple_compute_conflict" 197 := ⟨by k_is, by k_is, by k_is⟩
end
theorem make_t (p : Params) : makesIn (hd.heap_39 p) 207 = true := by k_is
theorem make_i (p : Params) : findIn (hd.heap_39 p) (.ref 207) "__init__" = some (some (.ref 78)) := by k_is
theorem make_f (p : Params) : typeIn (hd.heap_39 p) (.ref 78) = some (.type "function") := by k_is
end Mine
end
section
open PySem PySem.W PySem.Calls PyProof.Rows
set_option Elab.async false
set_option maxRecDepth 100000
set_option linter.all false
namespace Mine
theorem St.relook {w : World} {H : Heap} {L : Addr} {l l' : List (Str × Value)} {N X : Ledger} {h : Heap} (S : St w H L l N X h) (e : ∀ y, look l y = look l' y) : St w H L l' N X h :=
  ⟨S.top, by rw [← funext e]; exact S.ns, S.keep, S.offL, S.n, S.x, S.off⟩
/-- for: the other names stay -/
theorem ForAt.mk2 {κ : Kx} {env : Env} {x : Str} {body : List Stmt} {Q : Flow → Heap → Prop} {H h h' : Heap} {L I : Addr} {l : List (Str × Value)} {N X dep : Ledger} {n : Nat} {P : Nat → Value → Prop} (S : St κ.w H L l N X h) (it : ItNew κ h I dep n P h')
    (Inv : Nat → Ledger → Ledger → Prop) (h0 : Inv 0 N X) (hdep : ∀ i N X, Inv i N X → ∀ p ∈ dep, p ∈ N ∨ p ∈ X ∨ H.get? p.1 = some p.2)
    (turn : ∀ i v N X H' h, Keep H H' → i < n → P i v → Inv i N X → St κ.w H' L ((x, v) :: l) N X h → T κ (execs body env) (fun f h' => match f with
        | .next | .cont => ∃ l' N' X', St κ.w H' L l' N' X' h' ∧ (∀ y, y ≠ x → look l' y = look l y) ∧ Inv (i + 1) N' X'
        | .brk => Q .next h'
        | .ret v => Q (.ret v) h') h)
    (done : ∀ l' N X h, Inv n N X → (∀ y, y ≠ x → look l' y = look l y) → St κ.w H L l' N X h → Q .next h) : ForAt κ env L x body Q (.ref I) h' := by
  refine ForAt.mk S it (fun i l' N X => (∀ y, y ≠ x → look l' y = look l y) ∧ Inv i N X) ⟨fun _ _ => rfl, h0⟩ (fun i l' N X hi => hdep i N X hi.2) (fun i v l' N X H' h hk hi hP hI S => ?_) (fun l' N X h hI S => done l' N X h hI.2 hI.1 S)
  refine (turn i v N X H' h hk hi hP hI.2 (S.relook fun y => ?_)).mono fun f h' z => ?_
  · by_cases e : y = x
    · simp [look, e]
    · simp only [look, if_neg e]; exact hI.1 y e
  · cases f with
    | next => exact z
    | cont => exact z
    | brk => exact z
    | ret v => exact z
inductive Role
  | inst | dict | cl | row (i : Nat) | sd | sent (l : Int) | vs | vset | q | hp | sc | lv | lvI (k : Nat) | lvD (k : Nat) | lvS (k : Nat)
deriving DecidableEq
structure Lev where
  dec : Int
  set : List Int
  flip : Bool
structure SS where
  vs : List Int
  vset : Nat → Bool
  sent : Int → List Int
  q : List Int
  bad : Bool
  hp : List Pair
  lev : List Lev
structure Fix where
  rows : List (List Int)
  many : Nat
  sc : Int → Int
def IsLit (F : Fix) (l : Int) : Prop := l ≠ 0 ∧ l.natAbs ≤ F.many
def live (F : Fix) (st : SS) : Role → Prop
  | .row i => i < F.rows.length
  | .sent l => IsLit F l
  | .lvI k => k < st.lev.length
  | .lvD k => k < st.lev.length
  | .lvS k => k < st.lev.length
  | _ => True
structure DictOk (adr : Role → Addr) (bad : Bool) (f : Str → Option Value) : Prop where
  vs : f "var_settings" = some (.ref (adr .vs))
  bad : f "is_unsatisfied" = some (.bool bad)
  q : f "_unit_prop_queue" = some (.ref (adr .q))
  sd : f "sentinels" = some (.ref (adr .sd))
  vset : f "variable_set" = some (.ref (adr .vset))
  cl : f "clauses" = some (.ref (adr .cl))
  hp : f "lit_heap" = some (.ref (adr .hp))
  sc : f "lit_scores" = some (.ref (adr .sc))
  lv : f "levels" = some (.ref (adr .lv))
  m1 : f "_clause_sat" = none
  m2 : f "_is_sentinel" = none
  m3 : f "_assign_literal" = none
  m4 : f "_undo" = none
  m5 : f "_simplify" = none
  m6 : f "_unit_prop" = none
  m7 : f "_pure_literal" = none
  m8 : f "_vsids_calculate" = none
  m9 : f "_vsids_lit_assigned" = none
  m10 : f "_vsids_lit_unset" = none
  m11 : f "_simple_compute_conflict" = none
def lev0 : Lev := ⟨0, [], false⟩
def P (w : World) (F : Fix) (adr : Role → Addr) (st : SS) : Role → Obj → Prop
  | .inst, o => o = instObj 207 (adr .dict)
  | .dict, o => ∃ f n, n ≤ 100 ∧ DictA f n o ∧ DictOk adr st.bad f
  | .cl, o => LsO ((List.range F.rows.length).map fun i => .ref (adr (.row i))) o
  | .row i, o => IntsO (F.rows.getD i []) o
  | .sd, o => ∃ f n, n ≤ 1000 ∧ IntD f n o ∧ ∀ l, IsLit F l → f l = some (.ref (adr (.sent l)))
  | .sent l, o => SetO w (st.sent l) o
  | .vs, o => SetO w st.vs o
  | .vset, o => BoolsO ((List.range (F.many + 1)).map st.vset) o
  | .q, o => IntsO st.q o
  | .hp, _ => True
  | .sc, o => ∃ f n, n ≤ 1000 ∧ IntD f n o ∧ ∀ l, IsLit F l → ∃ t, f l = some (.int (F.sc l) t)
  | .lv, o => LsO ((List.range st.lev.length).map fun k => .ref (adr (.lvI k))) o
  | .lvI k, o => o = instObj 229 (adr (.lvD k))
  | .lvD k, o => ∃ f n, n ≤ 100 ∧ DictA f n o ∧ (∃ t, f "decision" = some (.int (st.lev.getD k lev0).dec t)) ∧ f "var_settings" = some (.ref (adr (.lvS k))) ∧ f "flipped" = some (.bool (st.lev.getD k lev0).flip)
  | .lvS k, o => SetO w (st.lev.getD k lev0).set o
structure Sol (w : World) (F : Fix) (N : Ledger) (adr : Role → Addr) (st : SS) : Prop where
  has : ∀ r, live F st r → ∃ o, (adr r, o) ∈ N ∧ P w F adr st r o
  inj : ∀ r r', live F st r → live F st r' → adr r = adr r' → r = r'
  hp : ∃ vs o, (adr .hp, o) ∈ N ∧ LsO vs o ∧ vs.length = st.hp.length ∧ ∀ (i : Nat) v, vs[i]? = some v → ∃ T oT, v = .ref T ∧ (T, oT) ∈ N ∧ PairO (gp st.hp i) oT ∧ ∀ r, live F st r → adr r ≠ T
  heap : IsHeap st.hp
/-- one object of a role changed -/
theorem Sol.upd {w : World} {F : Fix} {N : Ledger} {adr : Role → Addr} {st st' : SS} (S : Sol w F N adr st) (r : Role) (hr : live F st r) (hne : r ≠ .hp) {o' : Obj} (hlive : ∀ r, live F st' r → live F st r)
    (hP' : P w F adr st' r o') (hP : ∀ r' o, live F st' r' → r' ≠ r → P w F adr st r' o → P w F adr st' r' o) (hhp : st'.hp = st.hp) : Sol w F (Mine.upd N (adr r) o') adr st' := by
  refine ⟨fun r' hl => ?_, fun r1 r2 h1 h2 => S.inj r1 r2 (hlive _ h1) (hlive _ h2), ?_, by rw [hhp]; exact S.heap⟩
  · by_cases e : r' = r
    · subst e
      obtain ⟨o, hm, _⟩ := S.has r' hr
      exact ⟨o', mem_upd_self hm, hP'⟩
    · obtain ⟨o, hm, hp⟩ := S.has r' (hlive _ hl)
      exact ⟨o, mem_upd_of_ne hm fun q => e (S.inj _ _ (hlive _ hl) hr q), hP r' o hl e hp⟩
  · obtain ⟨vs, o, hm, L, hlen, ht⟩ := S.hp
    refine ⟨vs, o, mem_upd_of_ne hm fun q => hne (S.inj .hp r trivial hr q).symm, L, by rw [hhp]; exact hlen, fun i v hv => ?_⟩
    obtain ⟨T, oT, e1, e2, e3, e4⟩ := ht i v hv
    exact ⟨T, oT, e1, mem_upd_of_ne e2 (Ne.symm (e4 r hr)), by rw [hhp]; exact e3, fun r' hl => e4 r' (hlive _ hl)⟩
section
variable {κ : Kx} {F : Fix} {h H : Heap} {L : Addr} {l : List (Str × Value)} {N X : Ledger} {adr : Role → Addr} {st : SS}
theorem T_sat {name : Str} {v : Value} {expr : Bool} {Q : Value → Heap → Prop} (S : St κ.w H L l N X h) (So : Sol κ.w F N adr st) (ok : AttrOk (hd.heap_39 κ.w.params) 207 name) (hv : ∀ f, DictOk adr st.bad f → f name = some v) (hh : handedIn v = true) (q : Q v h) :
    T κ (getAttr (.ref (adr .inst)) name expr) Q h := by
  obtain ⟨o1, m1, rfl⟩ := So.has .inst trivial
  obtain ⟨o2, m2, f, n, hn, D, ok'⟩ := So.has .dict trivial
  exact T_getAttr S.kin ok (S.gn m1) D (S.gn m2) (hv f ok') hh q
theorem T_smeth {name : Str} {Fa : Addr} {pl : Sem Bool} {Q : Value × List Value → Heap → Prop} (S : St κ.w H L l N X h) (So : Sol κ.w F N adr st) (ok : MethOk (hd.heap_39 κ.w.params) 207 name Fa) (hv : ∀ f, DictOk adr st.bad f → f name = none) (q : Q (.ref Fa, [.ref (adr .inst)]) h) :
    T κ (getMethod (.ref (adr .inst)) name pl) Q h := by
  obtain ⟨o1, m1, rfl⟩ := So.has .inst trivial
  obtain ⟨o2, m2, f, n, hn, D, ok'⟩ := So.has .dict trivial
  exact T_getMethod S.kin ok (S.gn m1) D (S.gn m2) (hv f ok') q
end
end Mine
end
section
open PySem PySem.W PySem.Calls PyProof.Rows
set_option Elab.async false
set_option maxRecDepth 100000
set_option linter.all false
namespace Mine
theorem Sol.more {w : World} {F : Fix} {N N' : Ledger} {adr : Role → Addr} {st : SS} (S : Sol w F N adr st) (k : ∀ p ∈ N, p ∈ N') : Sol w F N' adr st := by
  refine ⟨fun r hl => let ⟨o, a, b⟩ := S.has r hl; ⟨o, k _ a, b⟩, S.inj, ?_, S.heap⟩
  obtain ⟨vs, o, a, L, b, c⟩ := S.hp
  exact ⟨vs, o, k _ a, L, b, fun i v hv => let ⟨T, oT, e1, e2, e3, e4⟩ := c i v hv; ⟨T, oT, e1, k _ e2, e3, e4⟩⟩
theorem Sol.hpAt {w : World} {F : Fix} {N : Ledger} {adr : Role → Addr} {st : SS} {h : Heap} (S : Sol w F N adr st) (led : Led h N) : ∃ vs o, (adr .hp, o) ∈ N ∧ HpAt h (adr .hp) vs st.hp o ∧
    ∀ v ∈ vs, ∃ T oT, v = .ref T ∧ (T, oT) ∈ N ∧ ∀ r, live F st r → adr r ≠ T := by
  obtain ⟨vs, o, a, L, b, c⟩ := S.hp
  refine ⟨vs, o, a, ⟨led _ a, L, b, fun i v hv => ?_⟩, fun v hv => ?_⟩
  · obtain ⟨T, oT, e1, e2, e3, e4⟩ := c i v hv
    exact ⟨T, oT, e1, led _ e2, e3⟩
  · obtain ⟨i, hi⟩ := List.mem_iff_getElem?.mp hv
    obtain ⟨T, oT, e1, e2, e3, e4⟩ := c i v hi
    exact ⟨T, oT, e1, e2, e4⟩
theorem Sol.updHp {w : World} {F : Fix} {N : Ledger} {adr : Role → Addr} {st : SS} {h h' : Heap} {vs' : List Value} {ps' : List Pair} {o' : Obj} (S : Sol w F N adr st) (led : Led h N)
    (hv : ∀ v ∈ vs', ∃ T oT, v = .ref T ∧ (T, oT) ∈ N ∧ ∀ r, live F st r → adr r ≠ T) (H : HpAt h' (adr .hp) vs' ps' o') (c : Ch h (adr .hp) o' h') (hh : IsHeap ps') :
    Sol w F (Mine.upd N (adr .hp) o') adr { st with hp := ps' } := by
  obtain ⟨vs, o, a, L, b, c'⟩ := S.hp
  refine ⟨fun r' hl => ?_, S.inj, ⟨vs', o', mem_upd_self a, H.ls, H.hp.1, fun i v hi => ?_⟩, hh⟩
  · by_cases e : r' = .hp
    · subst e; exact ⟨o', mem_upd_self a, trivial⟩
    · obtain ⟨o, hm, hp⟩ := S.has r' hl
      refine ⟨o, mem_upd_of_ne hm fun q => e (S.inj _ _ hl trivial q), ?_⟩
      cases r' <;> first | exact hp | exact absurd rfl e
  · obtain ⟨T, oT, e1, e2, e3⟩ := hv v (List.mem_of_getElem? hi)
    obtain ⟨T', oT', f1, f2, f3⟩ := H.hp.2 i v hi
    rw [e1] at f1; cases f1
    rw [c.but T (Ne.symm (e3 .hp trivial)), led _ e2] at f2; cases f2
    exact ⟨T, oT, e1, mem_upd_of_ne e2 (Ne.symm (e3 .hp trivial)), f3, e3⟩
section
variable {κ : Kx} {env : Env} {H h : Heap} {L : Addr} {l : List (Str × Value)} {N X : Ledger} {pos : Pos}
theorem N_len {Q : Value → Heap → Prop} (S : St κ.w H L l N X h) (e : nsIn (hd.heap_39 κ.w.params) mainGlobals "len" = some none) (q : Q (.builtin "len") h)
    (hG : env.globals = mainGlobals := by rfl) (hB : env.builtins = builtinsNs := by rfl) (hk : env.scope.kind = .function := by rfl) (hx : env.kindOf "len" = some .globalImplicit := by rfl) : T κ (eval (.Name "len" pos) env) Q h :=
  T_bi S e (by rfl) (by decide) q hG hB hk hx (by decide)
theorem N_abs {Q : Value → Heap → Prop} (S : St κ.w H L l N X h) (e : nsIn (hd.heap_39 κ.w.params) mainGlobals "abs" = some none) (q : Q (.builtin "abs") h)
    (hG : env.globals = mainGlobals := by rfl) (hB : env.builtins = builtinsNs := by rfl) (hk : env.scope.kind = .function := by rfl) (hx : env.kindOf "abs" = some .globalImplicit := by rfl) : T κ (eval (.Name "abs" pos) env) Q h :=
  T_bi S e (by rfl) (by decide) q hG hB hk hx (by decide)
theorem N_sorted {Q : Value → Heap → Prop} (S : St κ.w H L l N X h) (e : nsIn (hd.heap_39 κ.w.params) mainGlobals "sorted" = some none) (q : Q (.builtin "sorted") h)
    (hG : env.globals = mainGlobals := by rfl) (hB : env.builtins = builtinsNs := by rfl) (hk : env.scope.kind = .function := by rfl) (hx : env.kindOf "sorted" = some .globalImplicit := by rfl) : T κ (eval (.Name "sorted" pos) env) Q h :=
  T_bi S e (by rfl) (by decide) q hG hB hk hx (by decide)
theorem N_list {Q : Value → Heap → Prop} (S : St κ.w H L l N X h) (e : nsIn (hd.heap_39 κ.w.params) mainGlobals "list" = some none) (q : Q (.type "list") h)
    (hG : env.globals = mainGlobals := by rfl) (hB : env.builtins = builtinsNs := by rfl) (hk : env.scope.kind = .function := by rfl) (hx : env.kindOf "list" = some .globalImplicit := by rfl) : T κ (eval (.Name "list" pos) env) Q h :=
  T_bi S e (by rfl) (by decide) q hG hB hk hx (by decide)
theorem N_range {Q : Value → Heap → Prop} (S : St κ.w H L l N X h) (e : nsIn (hd.heap_39 κ.w.params) mainGlobals "range" = some none) (q : Q (.type "range") h)
    (hG : env.globals = mainGlobals := by rfl) (hB : env.builtins = builtinsNs := by rfl) (hk : env.scope.kind = .function := by rfl) (hx : env.kindOf "range" = some .globalImplicit := by rfl) : T κ (eval (.Name "range" pos) env) Q h :=
  T_bi S e (by rfl) (by decide) q hG hB hk hx (by decide)
theorem N_set {Q : Value → Heap → Prop} (S : St κ.w H L l N X h) (e : nsIn (hd.heap_39 κ.w.params) mainGlobals "set" = some none) (q : Q (.type "set") h)
    (hG : env.globals = mainGlobals := by rfl) (hB : env.builtins = builtinsNs := by rfl) (hk : env.scope.kind = .function := by rfl) (hx : env.kindOf "set" = some .globalImplicit := by rfl) : T κ (eval (.Name "set" pos) env) Q h :=
  T_bi S e (by rfl) (by decide) q hG hB hk hx (by decide)
theorem N_enumerate {Q : Value → Heap → Prop} (S : St κ.w H L l N X h) (e : nsIn (hd.heap_39 κ.w.params) mainGlobals "enumerate" = some none) (q : Q (.type "enumerate") h)
    (hG : env.globals = mainGlobals := by rfl) (hB : env.builtins = builtinsNs := by rfl) (hk : env.scope.kind = .function := by rfl) (hx : env.kindOf "enumerate" = some .globalImplicit := by rfl) : T κ (eval (.Name "enumerate" pos) env) Q h :=
  T_bi S e (by rfl) (by decide) q hG hB hk hx (by decide)
end
section
variable {κ : Kx} {h : Heap}
theorem T_item_pair1 {ve ie : PySem.Expr} {a : Addr} {o : Obj} {p : Pair} {t : Tok} {Q : Value → Heap → Prop} (P : PairO p o) (e : h.get? a = some o) (q : ∀ t, Q (.int p.2 t) h)
    (hs : subscripted ie false (.ref a) (.int 1 t) = operate [.ref a, .int 1 t] (getItem (.ref a) (.int 1 t)) := by with_unfolding_all rfl) : T κ (subscriptTail ve ie (.ref a) (.int 1 t)) Q h := fun d tk => by
  obtain ⟨u, v, rfl⟩ := P
  refine tail_any (s := ⟨h, κ.g, d, tk, κ.os⟩) (T := "tuple") ⟨_, e, rfl⟩ PySem.F.slot_tuple_getitem.lookup ?_ hs
  exact PyProof.Rows.getItem_tuple (j := 1) (x := .int p.2 v) ⟨_, e, rfl, _, rfl⟩ (by decide) (by decide) (by rfl) rfl ⟨rfl, rfl, q v⟩
end
section
variable {κ : Kx} {env : Env} {h : Heap}
theorem T_expr' {e : Expr} {pos : Pos} {Q : Flow → Heap → Prop} (x : T κ (eval e env) (fun _ h₁ => Q .next h₁) h)
    (hi : interactive env = false := by rfl) (hs : swapsWith e none pos.line env = pure false := by rfl) : T κ (exec (.Expr e pos) env) Q h :=
  fun d tk => wpAny_Expr_any (x.use (s := ⟨h, κ.g, d, tk, κ.os⟩) rfl rfl fun v s' g1 o1 y => ⟨g1, o1, y⟩) hi hs
end
/-- only the heap may differ -/
structure ButHp (st st' : SS) : Prop where
  vs : st'.vs = st.vs
  vset : st'.vset = st.vset
  sent : st'.sent = st.sent
  q : st'.q = st.q
  bad : st'.bad = st.bad
  lev : st'.lev = st.lev
theorem ButHp.refl (st : SS) : ButHp st st := ⟨rfl, rfl, rfl, rfl, rfl, rfl⟩
theorem ButHp.eq {st st' : SS} (x : ButHp st st') : st' = { st with hp := st'.hp } := by
  obtain ⟨a, b, c, d, e, f, g⟩ := st
  obtain ⟨a', b', c', d', e', f', g'⟩ := st'
  obtain ⟨h1, h2, h3, h4, h5, h6⟩ := x
  dsimp only at *
  subst h1 h2 h3 h4 h5 h6
  rfl
theorem ButHp.set {st st' : SS} (x : ButHp st st') (ps : List Pair) : ButHp st { st' with hp := ps } := ⟨x.vs, x.vset, x.sent, x.q, x.bad, x.lev⟩
end Mine
end
section
open PySem PySem.W PySem.Calls PyProof.Rows
set_option Elab.async false
set_option maxRecDepth 100000
set_option linter.all false
namespace Mine
def pushr (adr : Role → Addr) (k : Nat) (x dx s : Addr) : Role → Addr
  | .lvI j => if j = k then x else adr (.lvI j)
  | .lvD j => if j = k then dx else adr (.lvD j)
  | .lvS j => if j = k then s else adr (.lvS j)
  | r => adr r
def isNew (k : Nat) : Role → Prop
  | .lvI j => j = k
  | .lvD j => j = k
  | .lvS j => j = k
  | _ => False
theorem pushr_old {adr : Role → Addr} {k : Nat} {x dx s : Addr} {r : Role} (h : ¬ isNew k r) : pushr adr k x dx s r = adr r := by
  cases r <;> first | rfl | exact if_neg h
theorem live_push {F : Fix} {st : SS} {v : Lev} {r : Role} (hr : live F { st with lev := st.lev ++ [v] } r) (h : ¬ isNew st.lev.length r) : live F st r := by
  cases r <;> first
    | exact hr
    | (rename_i j
       have hr : j < (st.lev ++ [v]).length := hr
       have h : j ≠ st.lev.length := h
       show j < st.lev.length
       simp at hr; omega)
/-- a level pushed -/
theorem Sol.push {w : World} {F : Fix} {N N1 : Ledger} {adr : Role → Addr} {st : SS} {x dx s : Addr} {os od olv : Obj} {f : Str → Option Value} {m : Nat} {dec : Int} {b : Bool} (S : Sol w F N adr st)
    (hx : (x, instObj 229 dx) ∈ N1) (hs : (s, os) ∈ N1) (Ds : SetO w [] os) (hd : (dx, od) ∈ N1) (hm : m ≤ 100) (D : DictA f m od) (f1 : ∃ t, f "decision" = some (.int dec t)) (f2 : f "var_settings" = some (.ref s)) (f3 : f "flipped" = some (.bool b))
    (old : ∀ p ∈ N, p ∈ N1) (fr : ∀ p ∈ N, p.1 ≠ x ∧ p.1 ≠ dx ∧ p.1 ≠ s) (n1 : x ≠ dx) (n2 : x ≠ s) (n3 : dx ≠ s) (Llv : LsO (((List.range st.lev.length).map fun k => Value.ref (adr (.lvI k))) ++ [.ref x]) olv) :
    Sol w F (Mine.upd N1 (adr .lv) olv) (pushr adr st.lev.length x dx s) { st with lev := st.lev ++ [⟨dec, [], b⟩] } := by
  have hadr : ∀ {r}, live F st r → adr r ≠ x ∧ adr r ≠ dx ∧ adr r ≠ s := fun {r} hr => by obtain ⟨o, hm, _⟩ := S.has r hr; exact fr _ hm
  have hlv := hadr (r := .lv) trivial
  refine ⟨fun r hr => ?_, fun r1 r2 h1 h2 e => ?_, ?_, S.heap⟩
  · have hlen : ∀ k, k ≠ st.lev.length → (st.lev ++ [(⟨dec, [], b⟩ : Lev)]).getD k lev0 = st.lev.getD k lev0 := fun k hk => by
      rw [List.getD_eq_getElem?_getD, List.getD_eq_getElem?_getD]
      rcases Nat.lt_or_ge k st.lev.length with q | q
      · rw [List.getElem?_append_left q]
      · rw [List.getElem?_eq_none (by simp; omega), List.getElem?_eq_none (by omega)]
    have hnew : (st.lev ++ [(⟨dec, [], b⟩ : Lev)]).getD st.lev.length lev0 = ⟨dec, [], b⟩ := by simp
    by_cases hn : isNew st.lev.length r
    · cases r <;> first
        | exact absurd hn id
        | (have hn : _ = st.lev.length := hn
           subst hn
           simp only [pushr, if_true]
           first
           | exact ⟨_, mem_upd_of_ne hx (Ne.symm hlv.1), by simp [P, pushr]⟩
           | exact ⟨_, mem_upd_of_ne hs (Ne.symm hlv.2.2), by unfold P; dsimp only; rw [hnew]; exact Ds⟩
           | exact ⟨_, mem_upd_of_ne hd (Ne.symm hlv.2.1), f, m, hm, D, by dsimp only; rw [hnew]; exact f1, by simp only [pushr, if_true]; exact f2, by dsimp only; rw [hnew]; exact f3⟩)
    · rw [pushr_old hn]
      have hl := live_push hr hn
      by_cases e : r = .lv
      · subst e
        obtain ⟨o, hmo, _⟩ := S.has .lv trivial
        refine ⟨olv, mem_upd_self (old _ hmo), ?_⟩
        show LsO _ olv
        have : (List.range (st.lev ++ [(⟨dec, [], b⟩ : Lev)]).length).map (fun k => Value.ref (pushr adr st.lev.length x dx s (.lvI k))) = ((List.range st.lev.length).map fun k => Value.ref (adr (.lvI k))) ++ [.ref x] := by
          rw [List.length_append, List.length_singleton, List.range_succ, List.map_append]
          congr 1
          · apply List.map_congr_left
            intro k hk
            have : k ≠ st.lev.length := by have := List.mem_range.mp hk; omega
            simp [pushr, this]
          · simp [pushr]
        rw [this]; exact Llv
      · obtain ⟨o, hmo, hp⟩ := S.has r hl
        refine ⟨o, mem_upd_of_ne (old _ hmo) fun q => e (S.inj _ _ hl trivial q), ?_⟩
        cases r <;> first
          | exact hp
          | exact absurd rfl e
          | (have hn : ¬ _ = st.lev.length := hn
             unfold P at hp ⊢; dsimp only at hp ⊢
             try simp only [pushr, if_neg hn]
             first | exact hp | (rw [hlen _ hn]; exact hp))
          | (obtain ⟨f, n, a1, a2, a3⟩ := hp
             exact ⟨f, n, a1, a2, ⟨a3.vs, a3.bad, a3.q, a3.sd, a3.vset, a3.cl, a3.hp, a3.sc, a3.lv, a3.m1, a3.m2, a3.m3, a3.m4, a3.m5, a3.m6, a3.m7, a3.m8, a3.m9, a3.m10, a3.m11⟩⟩)
  · have key : ∀ r, isNew st.lev.length r → (r = .lvI st.lev.length ∧ pushr adr st.lev.length x dx s r = x) ∨ (r = .lvD st.lev.length ∧ pushr adr st.lev.length x dx s r = dx) ∨ (r = .lvS st.lev.length ∧ pushr adr st.lev.length x dx s r = s) := fun r hn => by
      cases r <;> first
        | exact absurd hn id
        | (have hn : _ = st.lev.length := hn
           subst hn
           simp [pushr])
    by_cases hn1 : isNew st.lev.length r1
    · by_cases hn2 : isNew st.lev.length r2
      · rcases key r1 hn1 with ⟨a, b⟩ | ⟨a, b⟩ | ⟨a, b⟩ <;> rcases key r2 hn2 with ⟨c, d⟩ | ⟨c, d⟩ | ⟨c, d⟩ <;> rw [b, d] at e <;> first
          | (rw [a, c]; done)
          | exact absurd e n1 | exact absurd e n2 | exact absurd e n3 | exact absurd e.symm n1 | exact absurd e.symm n2 | exact absurd e.symm n3
      · rw [pushr_old hn2] at e
        have h := hadr (live_push h2 hn2)
        rcases key r1 hn1 with ⟨_, b⟩ | ⟨_, b⟩ | ⟨_, b⟩ <;> rw [b] at e <;> first | exact absurd e.symm h.1 | exact absurd e.symm h.2.1 | exact absurd e.symm h.2.2
    · by_cases hn2 : isNew st.lev.length r2
      · rw [pushr_old hn1] at e
        have h := hadr (live_push h1 hn1)
        rcases key r2 hn2 with ⟨_, b⟩ | ⟨_, b⟩ | ⟨_, b⟩ <;> rw [b] at e <;> first | exact absurd e h.1 | exact absurd e h.2.1 | exact absurd e h.2.2
      · rw [pushr_old hn1, pushr_old hn2] at e
        exact S.inj _ _ (live_push h1 hn1) (live_push h2 hn2) e
  · obtain ⟨vs, o4, m4, L4, hlen, ht⟩ := S.hp
    refine ⟨vs, o4, mem_upd_of_ne (old _ m4) (fun q => by have := S.inj .hp .lv trivial trivial q; cases this), L4, hlen, fun i v hv => ?_⟩
    obtain ⟨T, oT, e1, e2, e3, e4⟩ := ht i v hv
    refine ⟨T, oT, e1, mem_upd_of_ne (old _ e2) (Ne.symm (e4 .lv trivial)), e3, fun r hr => ?_⟩
    by_cases hn : isNew st.lev.length r
    · obtain ⟨a1, a2, a3⟩ := fr _ e2
      cases r <;> first
        | exact absurd hn id
        | (have hn : _ = st.lev.length := hn; subst hn; simp only [pushr, if_true]; first | exact Ne.symm a1 | exact Ne.symm a2 | exact Ne.symm a3)
    · rw [pushr_old hn]; exact e4 r (live_push hr hn)
end Mine
end
section
open PySem PySem.W PySem.Calls PyProof.Rows
set_option Elab.async false
set_option maxRecDepth 100000
set_option linter.all false
namespace Mine

set_option hygiene false in
local macro_rules | `(tactic| walk_at "e") => `(tactic| ((with_reducible show T _ (eval _ _) _ _); first
  | ((with_reducible show T _ (eval (Expr.Name _ _) _) _ _); first
    | ((with_reducible show T _ (eval (Expr.Name "len" _) _) _ _); refine N_len S (by k_is) ?_)
    | ((with_reducible show T _ (eval (Expr.Name "abs" _) _) _ _); refine N_abs S (by k_is) ?_)
    | ((with_reducible show T _ (eval (Expr.Name "sorted" _) _) _ _); refine N_sorted S (by k_is) ?_)
    | ((with_reducible show T _ (eval (Expr.Name "list" _) _) _ _); refine N_list S (by k_is) ?_)
    | ((with_reducible show T _ (eval (Expr.Name "range" _) _) _ _); refine N_range S (by k_is) ?_)
    | ((with_reducible show T _ (eval (Expr.Name "set" _) _) _ _); refine N_set S (by k_is) ?_)
    | ((with_reducible show T _ (eval (Expr.Name "enumerate" _) _) _ _); refine N_enumerate S (by k_is) ?_)
    | refine T_loc S (by first | rfl | exact hn1 | exact hn2 | exact hn3 | exact hn4 | exact hn5) ?_
    | refine T_glob S (by k_is) ?_)
  | ((with_reducible show T _ (eval (Expr.Constant (Const.int _) _ _) _) _ _); refine T_int (fun t => ?_))
  | ((with_reducible show T _ (eval (Expr.Attribute _ _ _) _) _ _); refine T_attr ?_)
  | ((with_reducible show T _ (eval (Expr.Subscript _ _ _) _) _ _); refine T_item ?_)
  | ((with_reducible show T _ (eval (Expr.Call (Expr.Attribute _ _ _) _ [] _) _) _ _); refine T_Method ?_)
  | ((with_reducible show T _ (eval (Expr.Call _ _ [] _) _) _ _); refine T_Call ?_)
  | ((with_reducible show T _ (eval (Expr.BinOp _ _ _ _) _) _ _); refine T_binop ?_)
  | ((with_reducible show T _ (eval (Expr.UnaryOp _ _ _) _) _ _); refine T_unop ?_)
  | ((with_reducible show T _ (eval (Expr.Compare _ _ _ _) _) _ _); refine T_cmp ?_)
  | ((with_reducible show T _ (eval (Expr.Constant Const.none _ _) _) _ _); refine T_none ?_)
  | ((with_reducible show T _ (eval (Expr.Constant (Const.bool _) _ _) _) _ _); refine T_bool ?_)
  | ((with_reducible show T _ (eval (Expr.Constant (Const.str _) _ _) _) _ _); refine T_str (fun t => ?_))
  | ((with_reducible show T _ (eval (Expr.Dict [] [] _) _) _ _); refine T_dict0 (fun a h c => ?_))
  | ((with_reducible show T _ (eval (Expr.List _ _) _) _ _); refine T_list ?_)
  | ((with_reducible show T _ (eval (Expr.Tuple _ _ _) _) _ _); refine T_tuple ?_)
  | ((with_reducible show T _ (eval (Expr.BoolOp BoolOp.Or [_, _] _) _) _ _); refine T_or2 ?_)
  | ((with_reducible show T _ (eval (Expr.IfExp _ _ _ _) _) _ _); refine T_ifexp ?_)))
set_option hygiene false in
local macro_rules | `(tactic| walk_at "s") => `(tactic| first
  | ((with_reducible show T _ (execs (_ :: _) _) _ _); refine T_seq ?_)
  | ((with_reducible show T _ (execs [] _) _ _); refine T_nil ?_)
  | ((with_reducible show T _ (exec _ _) _ _); first
    | ((with_reducible show T _ (exec (Stmt.Assign [Expr.Name _ _] _ _) _) _ _); refine T_assign ?_)
    | ((with_reducible show T _ (exec (Stmt.If _ _ _ _) _) _ _); refine T_if ?_)
    | ((with_reducible show T _ (exec (Stmt.Return (some _) _) _) _ _); refine T_return ?_)
    | ((with_reducible show T _ (exec (Stmt.Return none _) _) _ _); refine T_return0 ?_)
    | ((with_reducible show T _ (exec (Stmt.Expr _ _) _) _ _); refine T_expr' ?_)
    | ((with_reducible show T _ (exec (Stmt.Assign [Expr.Attribute _ _ _] _ _) _) _ _); refine T_setattr_stmt ?_)
    | ((with_reducible show T _ (exec (Stmt.Assign [Expr.Subscript _ _ _] _ _) _) _ _); refine T_setitem_stmt ?_)
    | ((with_reducible show T _ (exec (Stmt.For (Expr.Name _ _) _ _ [] _) _) _ _); refine T_for ?_)
    | ((with_reducible show T _ (exec (Stmt.AugAssign (Expr.Name _ _) _ _ _) _) _ _); refine T_aug_name ?_)
    | ((with_reducible show T _ (exec (Stmt.AugAssign (Expr.Subscript _ _ _) _ _ _) _) _ _); refine T_aug_item ?_)
    | ((with_reducible show T _ (exec (Stmt.Pass _) _) _ _); refine T_pass ?_)
    | ((with_reducible show T _ (exec (Stmt.Break _) _) _ _); refine T_break ?_)
    | ((with_reducible show T _ (exec (Stmt.Continue _) _) _ _); refine T_continue ?_))
  | ((with_reducible show T _ (storeName _ _ _) _ _); refine T_store S (fun h S => ?_))
  | ((with_reducible show T _ (isTrue _ _ _) _ _); first
    | ((with_reducible show T _ (isTrue (Expr.Compare _ _ _ _) _ _) _ _); refine T_isTrue_cmp ?_)
    | ((with_reducible show T _ (isTrue (Expr.UnaryOp UnaryOp.Not _ _) _ _) _ _); refine T_isTrue_not ?_)
    | ((with_reducible show T _ (isTrue (Expr.BoolOp BoolOp.Or [_, _] _) _ _) _ _); refine T_isTrue_or2 ?_)
    | ((with_reducible show T _ (isTrue (Expr.BoolOp BoolOp.And [_, _] _) _ _) _ _); refine T_isTrue_and2 ?_)
    | ((with_reducible show T _ (isTrue (Expr.BoolOp BoolOp.And [_, _, _] _) _ _) _ _); refine T_isTrue_and3 ?_)
    | (refine T_isTrue_val ?_))
  | ((with_reducible show T _ (truthy (Value.bool _)) _ _); refine T_truthy_bool ?_)
  | ((with_reducible show T _ (truthy (Value.int _ _)) _ _); refine T_truthy_int ?_)
  | ((with_reducible show T _ (truthy Value.none) _ _); refine T_truthy_none ?_)
  | ((with_reducible show T _ (PySem.call (Value.builtin "abs") ([] ++ [Value.int _ _])) _ _); refine T_abs (fun t => ?_))
  | ((with_reducible show Args _ _ (_ :: _) _ _); refine Args_cons ?_)
  | ((with_reducible show Args _ _ [] _ _); refine Args_nil ?_)
  | ((with_reducible show T _ (callWith _ (Value.builtin _) _ _ _) _ _); refine CW_bi ?_)
  | ((with_reducible show T _ (callWith _ (Value.type _) _ _ _) _ _); refine CW_ty ?_)
  | ((with_reducible show T _ (binaryOp Operator.Add (Value.int _ _) (Value.int _ _)) _ _); refine T_add (fun t => ?_))
  | ((with_reducible show T _ (binaryOp Operator.Sub (Value.int _ _) (Value.int _ _)) _ _); refine T_sub (fun t => ?_))
  | ((with_reducible show T _ (unaryOp UnaryOp.USub (Value.int _ _)) _ _); refine T_neg (fun t => ?_))
  | ((with_reducible show T _ (compareOp CmpOp.Eq (Value.int _ _) (Value.int _ _)) _ _); refine T_eq ?_)
  | ((with_reducible show T _ (compareOp CmpOp.NotEq (Value.int _ _) (Value.int _ _)) _ _); refine T_ne ?_)
  | ((with_reducible show T _ (compareOp CmpOp.Lt (Value.int _ _) (Value.int _ _)) _ _); refine T_lt ?_)
  | ((with_reducible show T _ (compareOp CmpOp.Gt (Value.int _ _) (Value.int _ _)) _ _); refine T_gt ?_)
  | ((with_reducible show T _ (compareOp CmpOp.Is _ Value.none) _ _); refine T_is_none ?_)
  | ((with_reducible show T _ (compareOp CmpOp.IsNot _ Value.none) _ _); refine T_isnot_none ?_)
  | walk_at "e")
set_option hygiene false in
local macro_rules | `(tactic| walk_at "w") => `(tactic| repeat (walk_at "s"))
theorem fill_frag1 : (PySem.Challenge.rw_at6042_01, Mine.hd.heap_39) = (PySem.Challenge.rw_at6042_01, Mine.hd.heap_39) := by k_fill; rfl

structure DrawAt (N : Ledger) (da la : Addr) (xs : List Int) (seed : Int) : Prop where
  d : ∃ od t, (da, od) ∈ N ∧ LsO [.ref la, .int seed t] od
  l : ∃ ol, (la, ol) ∈ N ∧ IntsO xs ol
  ne : da ≠ la

def nextSeed (seed : Int) : Int := (seed * 48271).fmod 2147483647
def takeX : List Int → Int → Int
  | x :: _, _ => x
  | [], seed => (nextSeed seed).fdiv 7
def takeL : List Int → List Int
  | _ :: r => r
  | [] => []
def takeS : List Int → Int → Int
  | _ :: _, seed => seed
  | [], seed => nextSeed seed

set_option maxHeartbeats 4000000 in
theorem take_spec {κ : Kx} {n : Nat} {h : Heap} {N : Ledger} {da la : Addr} {xs : List Int} {seed k : Int} {tk : Tok} (R : Room κ (n + 5)) (top : TopIn κ.w (hid h N)) (led : Led h N) (D : DrawAt N da la xs seed)
    (hx : xs.length ≤ 1000) (hs : 0 ≤ seed ∧ seed < 2147483647) (hk : k ≠ 0) :
    C κ (.call (.ref 245) ⟨[.ref da, .int k tk], []⟩) (Out h N fun v N' => ∃ t, v = .int ((takeX xs seed).fmod k) t ∧ DrawAt N' da la (takeL xs) (takeS xs seed)) h := by
  refine C_def [("draw", .ref da), ("many", .int k tk)] _ (n := n + 4) R top led (by k_is) (by k_is) (fun s _ => BindsTo.of_eq rfl) (locs rfl) rfl (fun κ L h₁ ew S R => ?_)
  clear led
  obtain ⟨⟨od, t0, hmd, hLd⟩, ⟨ol, hml, vs, hLl, hi⟩, hne⟩ := D
  walk_at "w"
  refine T_item_list hLd (S.gn hmd) (by decide) (by decide) rfl ?_
  walk_at "w"
  refine ⟨by decide, fun a h c => ?_⟩
  have S := S.new c
  refine T_ne_ints R (S.gn hml) ⟨vs, hLl, hi⟩ (S.gx (.head _)) ⟨[], LsO.new [], .nil⟩ ?_
  walk_at "w"
  refine ⟨fun hb => ?_, fun hb => ?_⟩
  · cases hi with
    | nil => simp at hb
    | cons x t hi =>
      walk_at "w"
      refine T_item_list hLd (S.gn hmd) (by decide) (by decide) rfl ?_
      refine T_m_pop hLl (S.gn hml) ?_
      walk_at "w"
      refine T_pop0 hLl (S.gn hml) ?_ (fun h o' hL' c => ?_)
      · have := hi.length; simp at hx; omega
      have S := S.updN hml c
      walk_at "w"
      refine T_mod hk (fun t => ?_)
      exact ⟨_, _, _, S, t, rfl, ⟨od, t0, mem_upd_of_ne hmd hne, hLd⟩, ⟨o', mem_upd_self hml, _, hL', hi⟩, hne⟩
  · cases hi with
    | cons x t hi => simp at hb
    | nil =>
      walk_at "w"
      refine T_item_list hLd (S.gn hmd) (by decide) (by decide) rfl ?_
      walk_at "w"
      refine T_mul (IntMulOk.of_right (by decide)) (fun t => ?_)
      walk_at "w"
      refine T_mod (by decide) (fun t => ?_)
      walk_at "w"
      refine T_setItem_list hLd (S.gn hmd) (by decide) (by decide) (by simp) (fun h o' hL' c => ?_)
      have S := S.updN hmd c
      have hmd := mem_upd_self (o := o') hmd
      have hml := mem_upd_of_ne (d := da) (o := o') hml (Ne.symm hne)
      walk_at "w"
      refine T_item_list hL' (S.gn hmd) (by decide) (by decide) rfl ?_
      walk_at "w"
      refine T_div (by decide) ?_ (fun t => ?_)
      · exact PyProof.noPylong_of_log2 (by decide +kernel)
      walk_at "w"
      refine T_mod hk (fun t => ?_)
      exact ⟨_, _, _, S, t, rfl, ⟨o', _, hmd, hL'⟩, ⟨ol, hml, _, hLl, .nil⟩, hne⟩
end Mine
end
section
open PySem PySem.W PySem.Calls PyProof.Rows
set_option Elab.async false
set_option maxRecDepth 100000
set_option linter.all false
namespace Mine

set_option hygiene false in
local macro_rules | `(tactic| walk_at "e") => `(tactic| ((with_reducible show T _ (eval _ _) _ _); first
  | ((with_reducible show T _ (eval (Expr.Name _ _) _) _ _); first
    | ((with_reducible show T _ (eval (Expr.Name "len" _) _) _ _); refine N_len S (by k_is) ?_)
    | ((with_reducible show T _ (eval (Expr.Name "abs" _) _) _ _); refine N_abs S (by k_is) ?_)
    | ((with_reducible show T _ (eval (Expr.Name "sorted" _) _) _ _); refine N_sorted S (by k_is) ?_)
    | ((with_reducible show T _ (eval (Expr.Name "list" _) _) _ _); refine N_list S (by k_is) ?_)
    | ((with_reducible show T _ (eval (Expr.Name "range" _) _) _ _); refine N_range S (by k_is) ?_)
    | ((with_reducible show T _ (eval (Expr.Name "set" _) _) _ _); refine N_set S (by k_is) ?_)
    | ((with_reducible show T _ (eval (Expr.Name "enumerate" _) _) _ _); refine N_enumerate S (by k_is) ?_)
    | refine T_loc S (by rfl) ?_
    | refine T_glob S (by k_is) ?_)
  | ((with_reducible show T _ (eval (Expr.Constant (Const.int _) _ _) _) _ _); refine T_int (fun t => ?_))
  | ((with_reducible show T _ (eval (Expr.Attribute _ _ _) _) _ _); refine T_attr ?_)
  | ((with_reducible show T _ (eval (Expr.Subscript _ _ _) _) _ _); refine T_item ?_)
  | ((with_reducible show T _ (eval (Expr.Call (Expr.Attribute _ _ _) _ [] _) _) _ _); refine T_Method ?_)
  | ((with_reducible show T _ (eval (Expr.Call _ _ [] _) _) _ _); refine T_Call ?_)
  | ((with_reducible show T _ (eval (Expr.BinOp _ _ _ _) _) _ _); refine T_binop ?_)
  | ((with_reducible show T _ (eval (Expr.UnaryOp _ _ _) _) _ _); refine T_unop ?_)
  | ((with_reducible show T _ (eval (Expr.Compare _ _ _ _) _) _ _); refine T_cmp ?_)
  | ((with_reducible show T _ (eval (Expr.Constant Const.none _ _) _) _ _); refine T_none ?_)
  | ((with_reducible show T _ (eval (Expr.Constant (Const.bool _) _ _) _) _ _); refine T_bool ?_)
  | ((with_reducible show T _ (eval (Expr.Constant (Const.str _) _ _) _) _ _); refine T_str (fun t => ?_))
  | ((with_reducible show T _ (eval (Expr.Dict [] [] _) _) _ _); refine T_dict0 (fun a h c => ?_))
  | ((with_reducible show T _ (eval (Expr.List _ _) _) _ _); refine T_list ?_)
  | ((with_reducible show T _ (eval (Expr.Tuple _ _ _) _) _ _); refine T_tuple ?_)
  | ((with_reducible show T _ (eval (Expr.BoolOp BoolOp.Or [_, _] _) _) _ _); refine T_or2 ?_)
  | ((with_reducible show T _ (eval (Expr.IfExp _ _ _ _) _) _ _); refine T_ifexp ?_)))
set_option hygiene false in
local macro_rules | `(tactic| walk_at "s") => `(tactic| first
  | ((with_reducible show T _ (execs (_ :: _) _) _ _); refine T_seq ?_)
  | ((with_reducible show T _ (execs [] _) _ _); refine T_nil ?_)
  | ((with_reducible show T _ (exec _ _) _ _); first
    | ((with_reducible show T _ (exec (Stmt.Assign [Expr.Name _ _] _ _) _) _ _); refine T_assign ?_)
    | ((with_reducible show T _ (exec (Stmt.If _ _ _ _) _) _ _); refine T_if ?_)
    | ((with_reducible show T _ (exec (Stmt.Return (some _) _) _) _ _); refine T_return ?_)
    | ((with_reducible show T _ (exec (Stmt.Return none _) _) _ _); refine T_return0 ?_)
    | ((with_reducible show T _ (exec (Stmt.Expr _ _) _) _ _); refine T_expr' ?_)
    | ((with_reducible show T _ (exec (Stmt.Assign [Expr.Attribute _ _ _] _ _) _) _ _); refine T_setattr_stmt ?_)
    | ((with_reducible show T _ (exec (Stmt.Assign [Expr.Subscript _ _ _] _ _) _) _ _); refine T_setitem_stmt ?_)
    | ((with_reducible show T _ (exec (Stmt.For (Expr.Name _ _) _ _ [] _) _) _ _); refine T_for ?_)
    | ((with_reducible show T _ (exec (Stmt.AugAssign (Expr.Name _ _) _ _ _) _) _ _); refine T_aug_name ?_)
    | ((with_reducible show T _ (exec (Stmt.AugAssign (Expr.Subscript _ _ _) _ _ _) _) _ _); refine T_aug_item ?_)
    | ((with_reducible show T _ (exec (Stmt.Pass _) _) _ _); refine T_pass ?_)
    | ((with_reducible show T _ (exec (Stmt.Break _) _) _ _); refine T_break ?_)
    | ((with_reducible show T _ (exec (Stmt.Continue _) _) _ _); refine T_continue ?_))
  | ((with_reducible show T _ (storeName _ _ _) _ _); refine T_store S (fun h S => ?_))
  | ((with_reducible show T _ (isTrue _ _ _) _ _); first
    | ((with_reducible show T _ (isTrue (Expr.Compare _ _ _ _) _ _) _ _); refine T_isTrue_cmp ?_)
    | ((with_reducible show T _ (isTrue (Expr.UnaryOp UnaryOp.Not _ _) _ _) _ _); refine T_isTrue_not ?_)
    | ((with_reducible show T _ (isTrue (Expr.BoolOp BoolOp.Or [_, _] _) _ _) _ _); refine T_isTrue_or2 ?_)
    | ((with_reducible show T _ (isTrue (Expr.BoolOp BoolOp.And [_, _] _) _ _) _ _); refine T_isTrue_and2 ?_)
    | ((with_reducible show T _ (isTrue (Expr.BoolOp BoolOp.And [_, _, _] _) _ _) _ _); refine T_isTrue_and3 ?_)
    | (refine T_isTrue_val ?_))
  | ((with_reducible show T _ (truthy (Value.bool _)) _ _); refine T_truthy_bool ?_)
  | ((with_reducible show T _ (truthy (Value.int _ _)) _ _); refine T_truthy_int ?_)
  | ((with_reducible show T _ (PySem.call (Value.builtin "abs") ([] ++ [Value.int _ _])) _ _); refine T_abs (fun t => ?_))
  | ((with_reducible show Args _ _ (_ :: _) _ _); refine Args_cons ?_)
  | ((with_reducible show Args _ _ [] _ _); refine Args_nil ?_)
  | ((with_reducible show T _ (callWith _ (Value.builtin _) _ _ _) _ _); refine CW_bi ?_)
  | ((with_reducible show T _ (callWith _ (Value.type _) _ _ _) _ _); refine CW_ty ?_)
  | ((with_reducible show T _ (binaryOp Operator.Add (Value.int _ _) (Value.int _ _)) _ _); refine T_add (fun t => ?_))
  | ((with_reducible show T _ (binaryOp Operator.Sub (Value.int _ _) (Value.int _ _)) _ _); refine T_sub (fun t => ?_))
  | ((with_reducible show T _ (unaryOp UnaryOp.USub (Value.int _ _)) _ _); refine T_neg (fun t => ?_))
  | ((with_reducible show T _ (compareOp CmpOp.Eq (Value.int _ _) (Value.int _ _)) _ _); refine T_eq ?_)
  | ((with_reducible show T _ (compareOp CmpOp.NotEq (Value.int _ _) (Value.int _ _)) _ _); refine T_ne ?_)
  | ((with_reducible show T _ (compareOp CmpOp.Lt (Value.int _ _) (Value.int _ _)) _ _); refine T_lt ?_)
  | ((with_reducible show T _ (compareOp CmpOp.Gt (Value.int _ _) (Value.int _ _)) _ _); refine T_gt ?_)
  | ((with_reducible show T _ (compareOp CmpOp.Is _ Value.none) _ _); refine T_is_none ?_)
  | ((with_reducible show T _ (compareOp CmpOp.IsNot _ Value.none) _ _); refine T_isnot_none ?_)
  | walk_at "e")
set_option hygiene false in
local macro_rules | `(tactic| walk_at "w") => `(tactic| repeat (walk_at "s"))
theorem fill_frag2 : (PySem.Challenge.rw_at6042_01, Mine.hd.heap_39) = (PySem.Challenge.rw_at6042_01, Mine.hd.heap_39) := by k_fill; rfl
section
variable {κ : Kx} {F : Fix} {h : Heap} {N : Ledger} {adr : Role → Addr} {st : SS} {n : Nat}
set_option maxHeartbeats 4000000 in
theorem sat_spec (R : Room κ (n + 3)) (top : TopIn κ.w (hid h N)) (led : Led h N) (So : Sol κ.w F N adr st) {i : Nat} (hi : i < F.rows.length) (hi2 : F.rows.length ≤ 1000) {tk : Tok} :
    C κ (.call (.ref 108) ⟨[.ref (adr .inst), .int i tk], []⟩) (Out h N fun v N' => N' = N ∧ v = .bool ((F.rows.getD i []).any fun l => decide (l ∈ st.vs))) h := by
  refine C_def [("self", .ref (adr .inst)), ("cls", .int i tk)] _ (n := n + 2) R top led (by k_is) (by k_is) (fun s _ => BindsTo.of_eq rfl) (locs rfl) rfl (fun κ L h₁ ew S R => ?_)
  clear led
  rw [← ew] at So top
  walk_at "w"
  refine T_sat S So A_cl (fun f ok => ok.cl) rfl ?_
  walk_at "w"
  obtain ⟨ocl, mcl, Lcl⟩ := So.has .cl trivial
  refine T_item_list Lcl (S.gn mcl) (by omega) (by omega) (x := .ref (adr (.row i))) (by simp [hi]) ?_
  obtain ⟨orow, mrow, vs, Lrow, irow⟩ := So.has (.row i) hi
  refine T_iter_list R Lrow (S.gn mrow) fun I h' it => ForAt.mk2 S it (fun j N' X' => N' = N ∧ ∀ k, k < j → ∀ a, (F.rows.getD i [])[k]? = some a → a ∉ st.vs) ⟨rfl, fun k hk => absurd hk (Nat.not_lt_zero _)⟩
    (fun j N' X' hI p hp => by rw [List.mem_singleton.mp hp, hI.1]; exact .inl mrow) (fun j v N' X' H' h hk hj hP hI S => ?_) (fun l' N' X' h hI hl S => ?_)
  · obtain ⟨rfl, hI⟩ := hI
    obtain ⟨a, ta, ha, rfl⟩ := ints_of_at irow hP
    walk_at "w"
    refine T_sat S So A_vs (fun f ok => ok.vs) rfl ?_
    obtain ⟨ovs, mvs, Dvs⟩ := So.has .vs trivial
    refine T_in_set Dvs (S.gn mvs) ?_
    walk_at "w"
    refine ⟨fun hb => ?_, fun hb => ?_⟩
    · walk_at "w"
      refine ⟨_, _, _, S.back hk top, rfl, ?_⟩
      have : (F.rows.getD i []).any (fun l => decide (l ∈ st.vs)) = true := List.any_eq_true.mpr ⟨a, List.mem_of_getElem? ha, hb⟩
      rw [this]; rfl
    · walk_at "w"
      refine ⟨_, _, _, S, fun y hy => by simp [look, hy], rfl, fun k hk b hb' => ?_⟩
      rcases Nat.lt_succ_iff_lt_or_eq.mp hk with hk | rfl
      · exact hI k hk b hb'
      · rw [ha] at hb'; cases hb'; exact of_decide_eq_false hb
  · walk_at "w"
    refine ⟨_, _, _, S, hI.1, ?_⟩
    have : (F.rows.getD i []).any (fun l => decide (l ∈ st.vs)) = false := by
      rw [List.any_eq_false]
      intro a ha
      obtain ⟨k, hk⟩ := List.mem_iff_getElem?.mp ha
      have hkl : k < (F.rows.getD i []).length := by
        rcases Nat.lt_or_ge k (F.rows.getD i []).length with q | q
        · exact q
        · rw [List.getElem?_eq_none q] at hk; cases hk
      simpa using hI.2 k (by rw [irow.length]; exact hkl) a hk
    rw [this]; rfl
set_option maxHeartbeats 4000000 in
theorem issent_spec (R : Room κ (n + 2)) (top : TopIn κ.w (hid h N)) (led : Led h N) (So : Sol κ.w F N adr st) {i l : Int} (hl : IsLit F l) {tk tl : Tok} :
    C κ (.call (.ref 115) ⟨[.ref (adr .inst), .int l tl, .int i tk], []⟩) (Out h N fun v N' => N' = N ∧ v = .bool (decide (i ∈ st.sent l))) h := by
  refine C_def [("self", .ref (adr .inst)), ("lit", .int l tl), ("cls", .int i tk)] _ (n := n + 1) R top led (by k_is) (by k_is) (fun s _ => BindsTo.of_eq rfl) (locs rfl) rfl (fun κ L h₁ ew S R => ?_)
  clear led
  rw [← ew] at So top
  walk_at "w"
  refine T_sat S So A_sd (fun f ok => ok.sd) rfl ?_
  walk_at "w"
  obtain ⟨osd, msd, f, m, hm, Dsd, hsd⟩ := So.has .sd trivial
  refine T_item_int Dsd (S.gn msd) (hsd l hl) ?_
  obtain ⟨ose, mse, Dse⟩ := So.has (.sent l) hl
  refine T_in_set Dse (S.gn mse) ?_
  exact ⟨_, _, _, S, rfl, rfl⟩
set_option maxHeartbeats 4000000 in
theorem level_spec (R : Room κ (n + 2)) (top : TopIn κ.w (hid h N)) (led : Led h N) (So : Sol κ.w F N adr st) (hne : st.lev ≠ []) :
    C κ (.call (.ref 100) ⟨[.ref (adr .inst)], []⟩) (Out h N fun v N' => N' = N ∧ v = .ref (adr (.lvI (st.lev.length - 1)))) h := by
  refine C_def [("self", .ref (adr .inst))] _ (n := n + 1) R top led (by k_is) (by k_is) (fun s _ => BindsTo.of_eq rfl) (locs rfl) rfl (fun κ L h₁ ew S R => ?_)
  clear led
  rw [← ew] at So top
  walk_at "w"
  refine T_sat S So A_lv (fun f ok => ok.lv) rfl ?_
  obtain ⟨olv, mlv, Llv⟩ := So.has .lv trivial
  have hpos : 0 < st.lev.length := List.length_pos_iff.mpr hne
  obtain ⟨k, hk⟩ : ∃ k, st.lev.length = k + 1 := ⟨st.lev.length - 1, by omega⟩
  have Llv : LsO ((List.range st.lev.length).map fun k => .ref (adr (.lvI k))) olv := Llv
  rw [hk, List.range_succ, List.map_append] at Llv
  walk_at "w"
  refine T_item_last (p := (List.range k).map fun k => .ref (adr (.lvI k))) (y := .ref (adr (.lvI k))) Llv (S.gn mlv) ?_
  refine ⟨_, _, _, S, rfl, ?_⟩
  rw [hk]; rfl
end
end Mine
end
section
open PySem PySem.W PySem.Calls PyProof.Rows
set_option Elab.async false
set_option maxRecDepth 100000
set_option linter.all false
namespace Mine

set_option hygiene false in
local macro_rules | `(tactic| walk_at "e") => `(tactic| ((with_reducible show T _ (eval _ _) _ _); first
  | ((with_reducible show T _ (eval (Expr.Name _ _) _) _ _); first
    | ((with_reducible show T _ (eval (Expr.Name "len" _) _) _ _); refine N_len S (by k_is) ?_)
    | ((with_reducible show T _ (eval (Expr.Name "abs" _) _) _ _); refine N_abs S (by k_is) ?_)
    | ((with_reducible show T _ (eval (Expr.Name "sorted" _) _) _ _); refine N_sorted S (by k_is) ?_)
    | ((with_reducible show T _ (eval (Expr.Name "list" _) _) _ _); refine N_list S (by k_is) ?_)
    | ((with_reducible show T _ (eval (Expr.Name "range" _) _) _ _); refine N_range S (by k_is) ?_)
    | ((with_reducible show T _ (eval (Expr.Name "set" _) _) _ _); refine N_set S (by k_is) ?_)
    | ((with_reducible show T _ (eval (Expr.Name "enumerate" _) _) _ _); refine N_enumerate S (by k_is) ?_)
    | refine T_loc S (by rfl) ?_
    | refine T_glob S (by k_is) ?_)
  | ((with_reducible show T _ (eval (Expr.Constant (Const.int _) _ _) _) _ _); refine T_int (fun t => ?_))
  | ((with_reducible show T _ (eval (Expr.Attribute _ _ _) _) _ _); refine T_attr ?_)
  | ((with_reducible show T _ (eval (Expr.Subscript _ _ _) _) _ _); refine T_item ?_)
  | ((with_reducible show T _ (eval (Expr.Call (Expr.Attribute _ _ _) _ [] _) _) _ _); refine T_Method ?_)
  | ((with_reducible show T _ (eval (Expr.Call _ _ [] _) _) _ _); refine T_Call ?_)
  | ((with_reducible show T _ (eval (Expr.BinOp _ _ _ _) _) _ _); refine T_binop ?_)
  | ((with_reducible show T _ (eval (Expr.UnaryOp _ _ _) _) _ _); refine T_unop ?_)
  | ((with_reducible show T _ (eval (Expr.Compare _ _ _ _) _) _ _); refine T_cmp ?_)
  | ((with_reducible show T _ (eval (Expr.Constant Const.none _ _) _) _ _); refine T_none ?_)
  | ((with_reducible show T _ (eval (Expr.Constant (Const.bool _) _ _) _) _ _); refine T_bool ?_)
  | ((with_reducible show T _ (eval (Expr.Constant (Const.str _) _ _) _) _ _); refine T_str (fun t => ?_))
  | ((with_reducible show T _ (eval (Expr.Dict [] [] _) _) _ _); refine T_dict0 (fun a h c => ?_))
  | ((with_reducible show T _ (eval (Expr.List _ _) _) _ _); refine T_list ?_)
  | ((with_reducible show T _ (eval (Expr.Tuple _ _ _) _) _ _); refine T_tuple ?_)
  | ((with_reducible show T _ (eval (Expr.BoolOp BoolOp.Or [_, _] _) _) _ _); refine T_or2 ?_)
  | ((with_reducible show T _ (eval (Expr.IfExp _ _ _ _) _) _ _); refine T_ifexp ?_)))
set_option hygiene false in
local macro_rules | `(tactic| walk_at "s") => `(tactic| first
  | ((with_reducible show T _ (execs (_ :: _) _) _ _); refine T_seq ?_)
  | ((with_reducible show T _ (execs [] _) _ _); refine T_nil ?_)
  | ((with_reducible show T _ (exec _ _) _ _); first
    | ((with_reducible show T _ (exec (Stmt.Assign [Expr.Name _ _] _ _) _) _ _); refine T_assign ?_)
    | ((with_reducible show T _ (exec (Stmt.If _ _ _ _) _) _ _); refine T_if ?_)
    | ((with_reducible show T _ (exec (Stmt.Return (some _) _) _) _ _); refine T_return ?_)
    | ((with_reducible show T _ (exec (Stmt.Return none _) _) _ _); refine T_return0 ?_)
    | ((with_reducible show T _ (exec (Stmt.Expr _ _) _) _ _); refine T_expr' ?_)
    | ((with_reducible show T _ (exec (Stmt.Assign [Expr.Attribute _ _ _] _ _) _) _ _); refine T_setattr_stmt ?_)
    | ((with_reducible show T _ (exec (Stmt.Assign [Expr.Subscript _ _ _] _ _) _) _ _); refine T_setitem_stmt ?_)
    | ((with_reducible show T _ (exec (Stmt.For (Expr.Name _ _) _ _ [] _) _) _ _); refine T_for ?_)
    | ((with_reducible show T _ (exec (Stmt.AugAssign (Expr.Name _ _) _ _ _) _) _ _); refine T_aug_name ?_)
    | ((with_reducible show T _ (exec (Stmt.AugAssign (Expr.Subscript _ _ _) _ _ _) _) _ _); refine T_aug_item ?_)
    | ((with_reducible show T _ (exec (Stmt.Pass _) _) _ _); refine T_pass ?_)
    | ((with_reducible show T _ (exec (Stmt.Break _) _) _ _); refine T_break ?_)
    | ((with_reducible show T _ (exec (Stmt.Continue _) _) _ _); refine T_continue ?_))
  | ((with_reducible show T _ (storeName _ _ _) _ _); refine T_store S (fun h S => ?_))
  | ((with_reducible show T _ (isTrue _ _ _) _ _); first
    | ((with_reducible show T _ (isTrue (Expr.Compare _ _ _ _) _ _) _ _); refine T_isTrue_cmp ?_)
    | ((with_reducible show T _ (isTrue (Expr.UnaryOp UnaryOp.Not _ _) _ _) _ _); refine T_isTrue_not ?_)
    | ((with_reducible show T _ (isTrue (Expr.BoolOp BoolOp.Or [_, _] _) _ _) _ _); refine T_isTrue_or2 ?_)
    | ((with_reducible show T _ (isTrue (Expr.BoolOp BoolOp.And [_, _] _) _ _) _ _); refine T_isTrue_and2 ?_)
    | ((with_reducible show T _ (isTrue (Expr.BoolOp BoolOp.And [_, _, _] _) _ _) _ _); refine T_isTrue_and3 ?_)
    | (refine T_isTrue_val ?_))
  | ((with_reducible show T _ (truthy (Value.bool _)) _ _); refine T_truthy_bool ?_)
  | ((with_reducible show T _ (truthy (Value.int _ _)) _ _); refine T_truthy_int ?_)
  | ((with_reducible show T _ (PySem.call (Value.builtin "abs") ([] ++ [Value.int _ _])) _ _); refine T_abs (fun t => ?_))
  | ((with_reducible show Args _ _ (_ :: _) _ _); refine Args_cons ?_)
  | ((with_reducible show Args _ _ [] _ _); refine Args_nil ?_)
  | ((with_reducible show T _ (callWith _ (Value.builtin _) _ _ _) _ _); refine CW_bi ?_)
  | ((with_reducible show T _ (callWith _ (Value.type _) _ _ _) _ _); refine CW_ty ?_)
  | ((with_reducible show T _ (binaryOp Operator.Add (Value.int _ _) (Value.int _ _)) _ _); refine T_add (fun t => ?_))
  | ((with_reducible show T _ (binaryOp Operator.Sub (Value.int _ _) (Value.int _ _)) _ _); refine T_sub (fun t => ?_))
  | ((with_reducible show T _ (unaryOp UnaryOp.USub (Value.int _ _)) _ _); refine T_neg (fun t => ?_))
  | ((with_reducible show T _ (compareOp CmpOp.Eq (Value.int _ _) (Value.int _ _)) _ _); refine T_eq ?_)
  | ((with_reducible show T _ (compareOp CmpOp.NotEq (Value.int _ _) (Value.int _ _)) _ _); refine T_ne ?_)
  | ((with_reducible show T _ (compareOp CmpOp.Lt (Value.int _ _) (Value.int _ _)) _ _); refine T_lt ?_)
  | ((with_reducible show T _ (compareOp CmpOp.Gt (Value.int _ _) (Value.int _ _)) _ _); refine T_gt ?_)
  | ((with_reducible show T _ (compareOp CmpOp.Is _ Value.none) _ _); refine T_is_none ?_)
  | ((with_reducible show T _ (compareOp CmpOp.IsNot _ Value.none) _ _); refine T_isnot_none ?_)
  | walk_at "e")
set_option hygiene false in
local macro_rules | `(tactic| walk_at "w") => `(tactic| repeat (walk_at "s"))
theorem fill_frag3 : (PySem.Challenge.rw_at6042_01, Mine.hd.heap_39) = (PySem.Challenge.rw_at6042_01, Mine.hd.heap_39) := by k_fill; rfl
section
variable {κ : Kx} {F : Fix} {h : Heap} {N : Ledger} {adr : Role → Addr} {st : SS} {n : Nat}
structure Calc (vset : Nat → Bool) (hp hp' : List Pair) (lit : Int) : Prop where
  sub : ∀ p ∈ hp', p ∈ hp
  len : hp'.length ≤ hp.length
  keep : ∀ p ∈ hp, vset p.2.natAbs = false → p.2 = lit ∨ p ∈ hp'
  ans : (lit = 0 ∧ ∀ p ∈ hp, vset p.2.natAbs = true) ∨ (∃ s, (s, lit) ∈ hp ∧ vset lit.natAbs = false ∧ ∀ p ∈ hp, vset p.2.natAbs = false → PLe (s, lit) p)
set_option maxHeartbeats 4000000 in
theorem calc_spec (R : Room κ (n + 3)) (top : TopIn κ.w (hid h N)) (led : Led h N) (So : Sol κ.w F N adr st) (hl : ∀ p ∈ st.hp, IsLit F p.2) (hz : st.hp.length ≤ 10000) (hm : F.many ≤ 1000) :
    C κ (.call (.ref 164) ⟨[.ref (adr .inst)], []⟩) (Out h N fun v N' => ∃ lit t st', v = .int lit t ∧ Sol κ.w F N' adr st' ∧ ButHp st st' ∧ Calc st.vset st.hp st'.hp lit) h := by
  refine C_def [("self", .ref (adr .inst))] _ (n := n + 2) R top led (by k_is) (by k_is) (fun s _ => BindsTo.of_eq rfl) (locs rfl) rfl (fun κ L h₁ ew S R => ?_)
  clear led
  rw [← ew] at So top ⊢
  generalize hid h N = G at S top ⊢
  walk_at "w"
  refine T_sat S So A_hp (fun f ok => ok.hp) rfl ?_
  walk_at "w"
  obtain ⟨vs, ohp, mhp, Hhp, tv⟩ := So.hpAt S.ledN
  have hvl : vs.length = st.hp.length := Hhp.hp.1
  refine T_len_list Hhp.ls (S.gn mhp) (by omega) (fun t => ?_)
  walk_at "w"
  refine ⟨fun hb => ?_, fun hb => ?_⟩
  · walk_at "w"
    have h0 : st.hp = [] := by
      have : st.hp.length = 0 := by rw [← hvl]; simpa using hb
      exact List.length_eq_zero_iff.mp this
    refine ⟨_, _, _, S, 0, _, st, rfl, So, .refl _, fun p hp => hp, Nat.le_refl _, fun p hp _ => .inr hp, .inl ⟨rfl, fun p hp => by rw [h0] at hp; cases hp⟩⟩
  walk_at "w"
  have hne : st.hp ≠ [] := fun h0 => by rw [hvl, h0] at hb; simp at hb
  clear hb Hhp tv hvl mhp
  refine T_while (fun k h => ∃ st1 N', St κ.w G L [("self", .ref (adr .inst))] N' [] h ∧ Sol κ.w F N' adr st1 ∧ ButHp st st1 ∧ st1.hp ≠ [] ∧ st1.hp.length = k ∧ (∀ p ∈ st1.hp, p ∈ st.hp) ∧ st1.hp.length ≤ st.hp.length ∧ (∀ p ∈ st.hp, st.vset p.2.natAbs = false → p ∈ st1.hp)) st.hp.length
    ⟨st, _, S, So, .refl _, hne, rfl, fun p hp => hp, Nat.le_refl _, fun p hp _ => hp⟩ (fun k h z => ?_)
  clear S So hne
  obtain ⟨st1, N', S, So, hbut, hne, hlen, hsub, hle, hkeep⟩ := z
  obtain ⟨p0, pr, hpe⟩ : ∃ p0 pr, st1.hp = p0 :: pr := by
    cases hc : st1.hp with
    | nil => exact absurd hc hne
    | cons a b => exact ⟨a, b, rfl⟩
  have hg0 : gp st1.hp 0 = p0 := by rw [hpe]; rfl
  have heap1 := So.heap
  have hl0 : IsLit F p0.2 := hl p0 (hsub _ (by rw [hpe]; exact .head _))
  walk_at "w"
  refine T_sat S So A_vset (fun f ok => ok.vset) rfl ?_
  walk_at "w"
  refine T_sat S So A_hp (fun f ok => ok.hp) rfl ?_
  walk_at "w"
  obtain ⟨vs, ohp, mhp, Hhp, tv⟩ := So.hpAt S.ledN
  obtain ⟨T0, o0, e0, g0, P0⟩ := Hhp.hp.at (i := 0) (by rw [hpe]; simp)
  rw [hg0] at P0
  refine T_item_list Hhp.ls (S.gn mhp) (by decide) (by decide) (x := .ref T0) e0 ?_
  walk_at "w"
  refine T_item_pair1 (p := p0) P0 g0 (fun t => ?_)
  walk_at "w"
  have habs : (if p0.2 < 0 then -p0.2 else p0.2) = (p0.2.natAbs : Int) := by split <;> omega
  rw [habs]
  obtain ⟨ovs, mvs, Bvs⟩ := So.has .vset trivial
  have hnm : p0.2.natAbs < F.many + 1 := by have := hl0.2; omega
  have Bvs : LsO (((List.range (F.many + 1)).map st1.vset).map Value.bool) ovs := Bvs
  refine T_item_list (x := .bool (st1.vset p0.2.natAbs)) Bvs (S.gn mvs) (by omega) (by omega) (by simp [hnm]) ?_
  walk_at "w"
  refine ⟨fun hb => ?_, fun hb => ?_⟩
  · walk_at "w"
    refine T_sat S So A_hp (fun f ok => ok.hp) rfl ?_
    walk_at "w"
    refine T_heappop R Hhp So.heap (by omega) hne (fun h2 vs2 ps2 o2 T2 oT2 hh2 hp2 hv2 H2 c2 hT2 hT2a hP2 => ?_)
    have S2 := S.updN mhp c2
    have So2 := So.updHp S.ledN (fun v hv => tv v (hv2.mem_iff.mp (.tail _ hv))) H2 c2 hh2
    have hbut2 : ButHp st { st1 with hp := ps2 } := hbut.set ps2
    have e1 : ({ st1 with hp := ps2 } : SS).hp = ps2 := rfl
    generalize { st1 with hp := ps2 } = st2 at So2 hbut2 e1
    subst e1
    rw [hg0] at hp2
    have hsub2 : ∀ p ∈ st2.hp, p ∈ st.hp := fun p hp => hsub p (hp2.mem_iff.mp (.tail _ hp))
    have hlen2 : st2.hp.length + 1 = st1.hp.length := by have := hp2.length_eq; simpa using this
    have hkeep2 : ∀ p ∈ st.hp, st.vset p.2.natAbs = false → p ∈ st2.hp := fun p hp hv => by
      rcases List.mem_cons.mp (hp2.mem_iff.mpr (hkeep p hp hv)) with rfl | q
      · rw [hbut.vset, hv] at hb; cases hb
      · exact q
    clear S So Hhp tv
    have S := S2; have So := So2
    walk_at "w"
    refine T_sat S So A_hp (fun f ok => ok.hp) rfl ?_
    walk_at "w"
    obtain ⟨vs, ohp, mhp, Hhp, tv⟩ := So.hpAt S.ledN
    have hvl : vs.length = st2.hp.length := Hhp.hp.1
    refine T_len_list Hhp.ls (S.gn mhp) (by omega) (fun t => ?_)
    walk_at "w"
    refine ⟨fun hb => ?_, fun hb => ?_⟩
    · walk_at "w"
      have h0 : st2.hp = [] := by
        have : st2.hp.length = 0 := by rw [← hvl]; simpa using hb
        exact List.length_eq_zero_iff.mp this
      refine ⟨_, _, _, S, 0, _, st2, rfl, So, hbut2, hsub2, by omega, fun p hp hv => .inr (hkeep2 p hp hv), .inl ⟨rfl, fun p hp => ?_⟩⟩
      cases hv : st.vset p.2.natAbs with
      | true => rfl
      | false => have := hkeep2 p hp hv; rw [h0] at this; cases this
    · walk_at "w"
      have hne2 : st2.hp ≠ [] := fun h0 => by rw [hvl, h0] at hb; simp at hb
      exact ⟨st2.hp.length, by omega, st2, _, S, So, hbut2, hne2, rfl, hsub2, by omega, hkeep2⟩
  · walk_at "w"
    refine T_sat S So A_hp (fun f ok => ok.hp) rfl ?_
    walk_at "w"
    refine T_heappop R Hhp So.heap (by omega) hne (fun h2 vs2 ps2 o2 T2 oT2 hh2 hp2 hv2 H2 c2 hT2 hT2a hP2 => ?_)
    have S2 := S.updN mhp c2
    have So2 := So.updHp S.ledN (fun v hv => tv v (hv2.mem_iff.mp (.tail _ hv))) H2 c2 hh2
    have hbut2 : ButHp st { st1 with hp := ps2 } := hbut.set ps2
    have e1 : ({ st1 with hp := ps2 } : SS).hp = ps2 := rfl
    generalize { st1 with hp := ps2 } = st2 at So2 hbut2 e1
    subst e1
    rw [hg0] at hp2 hP2
    clear S So
    have S := S2; have So := So2
    walk_at "w"
    refine T_item_pair1 (p := p0) hP2 ((c2.but T2 hT2a).trans hT2) (fun t => ?_)
    have hsub2 : ∀ p ∈ st2.hp, p ∈ st.hp := fun p hp => hsub p (hp2.mem_iff.mp (.tail _ hp))
    have hlen2 : st2.hp.length + 1 = st1.hp.length := by have := hp2.length_eq; simpa using this
    refine ⟨_, _, _, S, p0.2, t, st2, rfl, So, hbut2, hsub2, by omega, fun p hp hv => ?_, .inr ⟨p0.1, hsub _ (by rw [hpe]; exact .head _), by rw [← hbut.vset]; exact hb, fun p hp hv => ?_⟩⟩
    · rcases List.mem_cons.mp (hp2.mem_iff.mpr (hkeep p hp hv)) with rfl | q
      · exact .inl rfl
      · exact .inr q
    · obtain ⟨i, hi⟩ := List.mem_iff_getElem?.mp (hkeep p hp hv)
      have hil : i < st1.hp.length := by
        rcases Nat.lt_or_ge i st1.hp.length with q | q
        · exact q
        · rw [List.getElem?_eq_none q] at hi; cases hi
      have := heap1.least i hil
      rw [hg0] at this
      have e : gp st1.hp i = p := by simp [gp, hi]
      rw [e] at this; exact this
end
end Mine
end
section
open PySem PySem.W PySem.Calls PyProof.Rows
set_option Elab.async false
set_option maxRecDepth 100000
set_option linter.all false
namespace Mine

set_option hygiene false in
local macro_rules | `(tactic| walk_at "e") => `(tactic| ((with_reducible show T _ (eval _ _) _ _); first
  | ((with_reducible show T _ (eval (Expr.Name _ _) _) _ _); first
    | ((with_reducible show T _ (eval (Expr.Name "len" _) _) _ _); refine N_len S (by k_is) ?_)
    | ((with_reducible show T _ (eval (Expr.Name "abs" _) _) _ _); refine N_abs S (by k_is) ?_)
    | ((with_reducible show T _ (eval (Expr.Name "sorted" _) _) _ _); refine N_sorted S (by k_is) ?_)
    | ((with_reducible show T _ (eval (Expr.Name "list" _) _) _ _); refine N_list S (by k_is) ?_)
    | ((with_reducible show T _ (eval (Expr.Name "range" _) _) _ _); refine N_range S (by k_is) ?_)
    | ((with_reducible show T _ (eval (Expr.Name "set" _) _) _ _); refine N_set S (by k_is) ?_)
    | ((with_reducible show T _ (eval (Expr.Name "enumerate" _) _) _ _); refine N_enumerate S (by k_is) ?_)
    | refine T_loc S (by rfl) ?_
    | refine T_glob S (by k_is) ?_)
  | ((with_reducible show T _ (eval (Expr.Constant (Const.int _) _ _) _) _ _); refine T_int (fun t => ?_))
  | ((with_reducible show T _ (eval (Expr.Attribute _ _ _) _) _ _); refine T_attr ?_)
  | ((with_reducible show T _ (eval (Expr.Subscript _ _ _) _) _ _); refine T_item ?_)
  | ((with_reducible show T _ (eval (Expr.Call (Expr.Attribute _ _ _) _ [] _) _) _ _); refine T_Method ?_)
  | ((with_reducible show T _ (eval (Expr.Call _ _ [] _) _) _ _); refine T_Call ?_)
  | ((with_reducible show T _ (eval (Expr.BinOp _ _ _ _) _) _ _); refine T_binop ?_)
  | ((with_reducible show T _ (eval (Expr.UnaryOp _ _ _) _) _ _); refine T_unop ?_)
  | ((with_reducible show T _ (eval (Expr.Compare _ _ _ _) _) _ _); refine T_cmp ?_)
  | ((with_reducible show T _ (eval (Expr.Constant Const.none _ _) _) _ _); refine T_none ?_)
  | ((with_reducible show T _ (eval (Expr.Constant (Const.bool _) _ _) _) _ _); refine T_bool ?_)
  | ((with_reducible show T _ (eval (Expr.Constant (Const.str _) _ _) _) _ _); refine T_str (fun t => ?_))
  | ((with_reducible show T _ (eval (Expr.Dict [] [] _) _) _ _); refine T_dict0 (fun a h c => ?_))
  | ((with_reducible show T _ (eval (Expr.List _ _) _) _ _); refine T_list ?_)
  | ((with_reducible show T _ (eval (Expr.Tuple _ _ _) _) _ _); refine T_tuple ?_)
  | ((with_reducible show T _ (eval (Expr.BoolOp BoolOp.Or [_, _] _) _) _ _); refine T_or2 ?_)
  | ((with_reducible show T _ (eval (Expr.IfExp _ _ _ _) _) _ _); refine T_ifexp ?_)))
set_option hygiene false in
local macro_rules | `(tactic| walk_at "s") => `(tactic| first
  | ((with_reducible show T _ (execs (_ :: _) _) _ _); refine T_seq ?_)
  | ((with_reducible show T _ (execs [] _) _ _); refine T_nil ?_)
  | ((with_reducible show T _ (exec _ _) _ _); first
    | ((with_reducible show T _ (exec (Stmt.Assign [Expr.Name _ _] _ _) _) _ _); refine T_assign ?_)
    | ((with_reducible show T _ (exec (Stmt.If _ _ _ _) _) _ _); refine T_if ?_)
    | ((with_reducible show T _ (exec (Stmt.Return (some _) _) _) _ _); refine T_return ?_)
    | ((with_reducible show T _ (exec (Stmt.Return none _) _) _ _); refine T_return0 ?_)
    | ((with_reducible show T _ (exec (Stmt.Expr _ _) _) _ _); refine T_expr' ?_)
    | ((with_reducible show T _ (exec (Stmt.Assign [Expr.Attribute _ _ _] _ _) _) _ _); refine T_setattr_stmt ?_)
    | ((with_reducible show T _ (exec (Stmt.Assign [Expr.Subscript _ _ _] _ _) _) _ _); refine T_setitem_stmt ?_)
    | ((with_reducible show T _ (exec (Stmt.For (Expr.Name _ _) _ _ [] _) _) _ _); refine T_for ?_)
    | ((with_reducible show T _ (exec (Stmt.AugAssign (Expr.Name _ _) _ _ _) _) _ _); refine T_aug_name ?_)
    | ((with_reducible show T _ (exec (Stmt.AugAssign (Expr.Subscript _ _ _) _ _ _) _) _ _); refine T_aug_item ?_)
    | ((with_reducible show T _ (exec (Stmt.Pass _) _) _ _); refine T_pass ?_)
    | ((with_reducible show T _ (exec (Stmt.Break _) _) _ _); refine T_break ?_)
    | ((with_reducible show T _ (exec (Stmt.Continue _) _) _ _); refine T_continue ?_))
  | ((with_reducible show T _ (storeName _ _ _) _ _); refine T_store S (fun h S => ?_))
  | ((with_reducible show T _ (isTrue _ _ _) _ _); first
    | ((with_reducible show T _ (isTrue (Expr.Compare _ _ _ _) _ _) _ _); refine T_isTrue_cmp ?_)
    | ((with_reducible show T _ (isTrue (Expr.UnaryOp UnaryOp.Not _ _) _ _) _ _); refine T_isTrue_not ?_)
    | ((with_reducible show T _ (isTrue (Expr.BoolOp BoolOp.Or [_, _] _) _ _) _ _); refine T_isTrue_or2 ?_)
    | ((with_reducible show T _ (isTrue (Expr.BoolOp BoolOp.And [_, _] _) _ _) _ _); refine T_isTrue_and2 ?_)
    | ((with_reducible show T _ (isTrue (Expr.BoolOp BoolOp.And [_, _, _] _) _ _) _ _); refine T_isTrue_and3 ?_)
    | (refine T_isTrue_val ?_))
  | ((with_reducible show T _ (truthy (Value.bool _)) _ _); refine T_truthy_bool ?_)
  | ((with_reducible show T _ (truthy (Value.int _ _)) _ _); refine T_truthy_int ?_)
  | ((with_reducible show T _ (PySem.call (Value.builtin "abs") ([] ++ [Value.int _ _])) _ _); refine T_abs (fun t => ?_))
  | ((with_reducible show Args _ _ (_ :: _) _ _); refine Args_cons ?_)
  | ((with_reducible show Args _ _ [] _ _); refine Args_nil ?_)
  | ((with_reducible show T _ (callWith _ (Value.builtin _) _ _ _) _ _); refine CW_bi ?_)
  | ((with_reducible show T _ (callWith _ (Value.type _) _ _ _) _ _); refine CW_ty ?_)
  | ((with_reducible show T _ (binaryOp Operator.Add (Value.int _ _) (Value.int _ _)) _ _); refine T_add (fun t => ?_))
  | ((with_reducible show T _ (binaryOp Operator.Sub (Value.int _ _) (Value.int _ _)) _ _); refine T_sub (fun t => ?_))
  | ((with_reducible show T _ (unaryOp UnaryOp.USub (Value.int _ _)) _ _); refine T_neg (fun t => ?_))
  | ((with_reducible show T _ (compareOp CmpOp.Eq (Value.int _ _) (Value.int _ _)) _ _); refine T_eq ?_)
  | ((with_reducible show T _ (compareOp CmpOp.NotEq (Value.int _ _) (Value.int _ _)) _ _); refine T_ne ?_)
  | ((with_reducible show T _ (compareOp CmpOp.Lt (Value.int _ _) (Value.int _ _)) _ _); refine T_lt ?_)
  | ((with_reducible show T _ (compareOp CmpOp.Gt (Value.int _ _) (Value.int _ _)) _ _); refine T_gt ?_)
  | ((with_reducible show T _ (compareOp CmpOp.Is _ Value.none) _ _); refine T_is_none ?_)
  | ((with_reducible show T _ (compareOp CmpOp.IsNot _ Value.none) _ _); refine T_isnot_none ?_)
  | walk_at "e")
set_option hygiene false in
local macro_rules | `(tactic| walk_at "w") => `(tactic| repeat (walk_at "s"))
theorem fill_frag4 : (PySem.Challenge.rw_at6042_01, Mine.hd.heap_39) = (PySem.Challenge.rw_at6042_01, Mine.hd.heap_39) := by k_fill; rfl
section
variable {κ : Kx} {F : Fix} {h : Heap} {N : Ledger} {adr : Role → Addr} {st : SS} {n : Nat}
theorem Sol.consS {w w' : World} {F : Fix} {N X : Ledger} {adr : Role → Addr} {st : SS} {p : Addr × Obj} {H h : Heap} {L : Addr} {l : List (Str × Value)} (So : Sol w F N adr st) (_ : St w' H L l (p :: N) X h) : Sol w F (p :: N) adr st := So.more fun _ hq => .tail _ hq
def entries (F : Fix) (l : Int) : List Pair := [(F.sc (l.natAbs : Int), (l.natAbs : Int)), (F.sc (-(l.natAbs : Int)), -(l.natAbs : Int))]
set_option maxHeartbeats 4000000 in
theorem unset_spec (R : Room κ (n + 3)) (top : TopIn κ.w (hid h N)) (led : Led h N) (So : Sol κ.w F N adr st) {lit : Int} {tl : Tok} (hl : IsLit F lit) (hz : st.hp.length ≤ 10000) :
    C κ (.call (.ref 178) ⟨[.ref (adr .inst), .int lit tl], []⟩) (Out h N fun v N' => v = .none ∧ (∀ r o, live F st r → r ≠ .hp → (adr r, o) ∈ N → (adr r, o) ∈ N') ∧ ∃ st', Sol κ.w F N' adr st' ∧ ButHp st st' ∧ st'.hp.Perm (st.hp ++ entries F lit)) h := by
  refine C_def [("self", .ref (adr .inst)), ("lit", .int lit tl)] _ (n := n + 2) R top led (by k_is) (by k_is) (fun s _ => BindsTo.of_eq rfl) (locs rfl) rfl (fun κ L h₁ ew S R => ?_)
  clear led
  rw [← ew] at So top ⊢
  generalize hid h N = G at S top ⊢
  have So0 := So
  have habs : (if lit < 0 then -lit else lit) = (lit.natAbs : Int) := by split <;> omega
  have hl1 : IsLit F (lit.natAbs : Int) := ⟨by have := hl.1; omega, by have := hl.2; omega⟩
  have hl2 : IsLit F (-(lit.natAbs : Int)) := ⟨by have := hl.1; omega, by have := hl.2; omega⟩
  unfold entries
  walk_at "w"
  rw [habs] at S
  generalize (lit.natAbs : Int) = var at *
  refine T_sat S So A_hp (fun f ok => ok.hp) rfl ?_
  walk_at "w"
  refine T_sat S So A_sc (fun f ok => ok.sc) rfl ?_
  walk_at "w"
  obtain ⟨osc, msc, f, m, hm, Dsc, hsc⟩ := So.has .sc trivial
  obtain ⟨tsc, hsc1⟩ := hsc _ hl1
  refine T_item_int Dsc (S.gn msc) hsc1 ?_
  walk_at "w"
  refine ⟨by rw [sizeLine_eq]; simp, fun T1 h c => ?_⟩
  have fr := c.fresh
  have noT : ∀ r, live F st r → adr r ≠ T1 := fun r hr e => by obtain ⟨o, hm, _⟩ := So.has r hr; have := S.gn hm; rw [e, fr] at this; cases this
  replace S := S.newN c
  replace So := Sol.consS So S
  clear c fr Dsc msc
  walk_at "w"
  obtain ⟨vs, ohp, mhp, Hhp, tv⟩ := So.hpAt S.ledN
  refine T_heappush (p := (F.sc var, var)) R Hhp So.heap (by omega) (S.gn (.head _)) ⟨_, _, rfl⟩ (fun h vs2 ps2 o2 hh2 hp2 hv2 H2 c2 => ?_)
  have So2 := So.updHp S.ledN (fun v hv => by
    rcases List.mem_append.mp (hv2.mem_iff.mp hv) with q | q
    · exact tv v q
    · exact ⟨T1, _, List.mem_singleton.mp q, .head _, noT⟩) H2 c2 hh2
  replace S := S.updN mhp c2
  clear So H2 Hhp c2 mhp tv hv2 noT
  have hb1 : ButHp st { st with hp := ps2 } := (ButHp.refl st).set ps2
  have e1 : ({ st with hp := ps2 } : SS).hp = ps2 := rfl
  generalize { st with hp := ps2 } = st1 at So2 hb1 e1
  subst e1
  have So := So2
  have hlen : st1.hp.length ≤ 10001 := by have := hp2.length_eq; simp at this; omega
  clear So2
  walk_at "w"
  refine T_sat S So A_hp (fun f ok => ok.hp) rfl ?_
  walk_at "w"
  refine T_sat S So A_sc (fun f ok => ok.sc) rfl ?_
  walk_at "w"
  obtain ⟨osc, msc, f, m, hm, Dsc, hsc⟩ := So.has .sc trivial
  obtain ⟨tsc, hsc1⟩ := hsc _ hl2
  refine T_item_int Dsc (S.gn msc) hsc1 ?_
  walk_at "w"
  refine ⟨by rw [sizeLine_eq]; simp, fun T1 h c => ?_⟩
  have fr := c.fresh
  have noT : ∀ r, live F st1 r → adr r ≠ T1 := fun r hr e => by obtain ⟨o, hm, _⟩ := So.has r hr; have := S.gn hm; rw [e, fr] at this; cases this
  replace S := S.newN c
  replace So := Sol.consS So S
  clear c fr Dsc msc
  walk_at "w"
  obtain ⟨vs, ohp, mhp, Hhp, tv⟩ := So.hpAt S.ledN
  refine T_heappush (p := (F.sc (-var), (-var))) R Hhp So.heap (by omega) (S.gn (.head _)) ⟨_, _, rfl⟩ (fun h vs2 ps3 o2 hh2 hp3 hv2 H2 c2 => ?_)
  have So2 := So.updHp S.ledN (fun v hv => by
    rcases List.mem_append.mp (hv2.mem_iff.mp hv) with q | q
    · exact tv v q
    · exact ⟨T1, _, List.mem_singleton.mp q, .head _, noT⟩) H2 c2 hh2
  replace S := S.updN mhp c2
  clear So H2 Hhp c2 mhp tv hv2 noT
  have hb2 : ButHp st { st1 with hp := ps3 } := hb1.set ps3
  have e1 : ({ st1 with hp := ps3 } : SS).hp = ps3 := rfl
  generalize { st1 with hp := ps3 } = st2 at So2 hb2 e1
  subst e1
  walk_at "w"
  refine ⟨_, _, _, S, rfl, fun r o hr hne hm => ?_, st2, So2, hb2, hp3.trans ?_⟩
  · have e : adr r ≠ adr .hp := fun q => hne (So0.inj _ _ hr trivial q)
    exact mem_upd_of_ne (.tail _ (mem_upd_of_ne (.tail _ hm) e)) e
  refine (List.Perm.append_right _ hp2).trans ?_
  rw [List.append_assoc]; exact .refl _
end
end Mine
end
section
open PySem PySem.W PySem.Calls PyProof.Rows
set_option Elab.async false
set_option maxRecDepth 100000
set_option linter.all false
namespace Mine

set_option hygiene false in
local macro_rules | `(tactic| walk_at "e") => `(tactic| ((with_reducible show T _ (eval _ _) _ _); first
  | ((with_reducible show T _ (eval (Expr.Name _ _) _) _ _); first
    | ((with_reducible show T _ (eval (Expr.Name "len" _) _) _ _); refine N_len S (by k_is) ?_)
    | ((with_reducible show T _ (eval (Expr.Name "abs" _) _) _ _); refine N_abs S (by k_is) ?_)
    | ((with_reducible show T _ (eval (Expr.Name "sorted" _) _) _ _); refine N_sorted S (by k_is) ?_)
    | ((with_reducible show T _ (eval (Expr.Name "list" _) _) _ _); refine N_list S (by k_is) ?_)
    | ((with_reducible show T _ (eval (Expr.Name "range" _) _) _ _); refine N_range S (by k_is) ?_)
    | ((with_reducible show T _ (eval (Expr.Name "set" _) _) _ _); refine N_set S (by k_is) ?_)
    | ((with_reducible show T _ (eval (Expr.Name "enumerate" _) _) _ _); refine N_enumerate S (by k_is) ?_)
    | refine T_loc S (by rfl) ?_
    | refine T_glob S (by k_is) ?_)
  | ((with_reducible show T _ (eval (Expr.Constant (Const.int _) _ _) _) _ _); refine T_int (fun t => ?_))
  | ((with_reducible show T _ (eval (Expr.Attribute _ _ _) _) _ _); refine T_attr ?_)
  | ((with_reducible show T _ (eval (Expr.Subscript _ _ _) _) _ _); refine T_item ?_)
  | ((with_reducible show T _ (eval (Expr.Call (Expr.Attribute _ _ _) _ [] _) _) _ _); refine T_Method ?_)
  | ((with_reducible show T _ (eval (Expr.Call _ _ [] _) _) _ _); refine T_Call ?_)
  | ((with_reducible show T _ (eval (Expr.BinOp _ _ _ _) _) _ _); refine T_binop ?_)
  | ((with_reducible show T _ (eval (Expr.UnaryOp _ _ _) _) _ _); refine T_unop ?_)
  | ((with_reducible show T _ (eval (Expr.Compare _ _ _ _) _) _ _); refine T_cmp ?_)
  | ((with_reducible show T _ (eval (Expr.Constant Const.none _ _) _) _ _); refine T_none ?_)
  | ((with_reducible show T _ (eval (Expr.Constant (Const.bool _) _ _) _) _ _); refine T_bool ?_)
  | ((with_reducible show T _ (eval (Expr.Constant (Const.str _) _ _) _) _ _); refine T_str (fun t => ?_))
  | ((with_reducible show T _ (eval (Expr.Dict [] [] _) _) _ _); refine T_dict0 (fun a h c => ?_))
  | ((with_reducible show T _ (eval (Expr.List _ _) _) _ _); refine T_list ?_)
  | ((with_reducible show T _ (eval (Expr.Tuple _ _ _) _) _ _); refine T_tuple ?_)
  | ((with_reducible show T _ (eval (Expr.BoolOp BoolOp.Or [_, _] _) _) _ _); refine T_or2 ?_)
  | ((with_reducible show T _ (eval (Expr.IfExp _ _ _ _) _) _ _); refine T_ifexp ?_)))
set_option hygiene false in
local macro_rules | `(tactic| walk_at "s") => `(tactic| first
  | ((with_reducible show T _ (execs (_ :: _) _) _ _); refine T_seq ?_)
  | ((with_reducible show T _ (execs [] _) _ _); refine T_nil ?_)
  | ((with_reducible show T _ (exec _ _) _ _); first
    | ((with_reducible show T _ (exec (Stmt.Assign [Expr.Name _ _] _ _) _) _ _); refine T_assign ?_)
    | ((with_reducible show T _ (exec (Stmt.If _ _ _ _) _) _ _); refine T_if ?_)
    | ((with_reducible show T _ (exec (Stmt.Return (some _) _) _) _ _); refine T_return ?_)
    | ((with_reducible show T _ (exec (Stmt.Return none _) _) _ _); refine T_return0 ?_)
    | ((with_reducible show T _ (exec (Stmt.Expr _ _) _) _ _); refine T_expr' ?_)
    | ((with_reducible show T _ (exec (Stmt.Assign [Expr.Attribute _ _ _] _ _) _) _ _); refine T_setattr_stmt ?_)
    | ((with_reducible show T _ (exec (Stmt.Assign [Expr.Subscript _ _ _] _ _) _) _ _); refine T_setitem_stmt ?_)
    | ((with_reducible show T _ (exec (Stmt.For (Expr.Name _ _) _ _ [] _) _) _ _); refine T_for ?_)
    | ((with_reducible show T _ (exec (Stmt.AugAssign (Expr.Name _ _) _ _ _) _) _ _); refine T_aug_name ?_)
    | ((with_reducible show T _ (exec (Stmt.AugAssign (Expr.Subscript _ _ _) _ _ _) _) _ _); refine T_aug_item ?_)
    | ((with_reducible show T _ (exec (Stmt.Pass _) _) _ _); refine T_pass ?_)
    | ((with_reducible show T _ (exec (Stmt.Break _) _) _ _); refine T_break ?_)
    | ((with_reducible show T _ (exec (Stmt.Continue _) _) _ _); refine T_continue ?_))
  | ((with_reducible show T _ (storeName _ _ _) _ _); refine T_store S (fun h S => ?_))
  | ((with_reducible show T _ (isTrue _ _ _) _ _); first
    | ((with_reducible show T _ (isTrue (Expr.Compare _ _ _ _) _ _) _ _); refine T_isTrue_cmp ?_)
    | ((with_reducible show T _ (isTrue (Expr.UnaryOp UnaryOp.Not _ _) _ _) _ _); refine T_isTrue_not ?_)
    | ((with_reducible show T _ (isTrue (Expr.BoolOp BoolOp.Or [_, _] _) _ _) _ _); refine T_isTrue_or2 ?_)
    | ((with_reducible show T _ (isTrue (Expr.BoolOp BoolOp.And [_, _] _) _ _) _ _); refine T_isTrue_and2 ?_)
    | ((with_reducible show T _ (isTrue (Expr.BoolOp BoolOp.And [_, _, _] _) _ _) _ _); refine T_isTrue_and3 ?_)
    | (refine T_isTrue_val ?_))
  | ((with_reducible show T _ (truthy (Value.bool _)) _ _); refine T_truthy_bool ?_)
  | ((with_reducible show T _ (truthy (Value.int _ _)) _ _); refine T_truthy_int ?_)
  | ((with_reducible show T _ (PySem.call (Value.builtin "abs") ([] ++ [Value.int _ _])) _ _); refine T_abs (fun t => ?_))
  | ((with_reducible show Args _ _ (_ :: _) _ _); refine Args_cons ?_)
  | ((with_reducible show Args _ _ [] _ _); refine Args_nil ?_)
  | ((with_reducible show T _ (callWith _ (Value.builtin _) _ _ _) _ _); refine CW_bi ?_)
  | ((with_reducible show T _ (callWith _ (Value.type _) _ _ _) _ _); refine CW_ty ?_)
  | ((with_reducible show T _ (binaryOp Operator.Add (Value.int _ _) (Value.int _ _)) _ _); refine T_add (fun t => ?_))
  | ((with_reducible show T _ (binaryOp Operator.Sub (Value.int _ _) (Value.int _ _)) _ _); refine T_sub (fun t => ?_))
  | ((with_reducible show T _ (unaryOp UnaryOp.USub (Value.int _ _)) _ _); refine T_neg (fun t => ?_))
  | ((with_reducible show T _ (compareOp CmpOp.Eq (Value.int _ _) (Value.int _ _)) _ _); refine T_eq ?_)
  | ((with_reducible show T _ (compareOp CmpOp.NotEq (Value.int _ _) (Value.int _ _)) _ _); refine T_ne ?_)
  | ((with_reducible show T _ (compareOp CmpOp.Lt (Value.int _ _) (Value.int _ _)) _ _); refine T_lt ?_)
  | ((with_reducible show T _ (compareOp CmpOp.Gt (Value.int _ _) (Value.int _ _)) _ _); refine T_gt ?_)
  | ((with_reducible show T _ (compareOp CmpOp.Is _ Value.none) _ _); refine T_is_none ?_)
  | ((with_reducible show T _ (compareOp CmpOp.IsNot _ Value.none) _ _); refine T_isnot_none ?_)
  | walk_at "e")
set_option hygiene false in
local macro_rules | `(tactic| walk_at "w") => `(tactic| repeat (walk_at "s"))
theorem fill_frag5 : (PySem.Challenge.rw_at6042_01, Mine.hd.heap_39) = (PySem.Challenge.rw_at6042_01, Mine.hd.heap_39) := by k_fill; rfl
section
variable {κ : Kx} {F : Fix} {h H : Heap} {L : Addr} {l : List (Str × Value)} {N X : Ledger} {adr : Role → Addr} {st : SS} {n : Nat}
theorem T_out {f : Value} {args : List Value} {Post : Value → Ledger → Prop} {Q : Value → Heap → Prop} (S : St κ.w H L l N X h) (c : C κ (.call f ⟨args, []⟩) (Out h N Post) h) (q : ∀ v N' h', Post v N' → St κ.w H L l N' X h' → Q v h') : T κ (PySem.call f args) Q h :=
  T.call (c.mono fun v h' ⟨N', led, kb, ni, p⟩ => q v N' h' p (S.out led kb ni))
theorem T_level {expr : Bool} {Q : Value → Heap → Prop} (R : Room κ (n + 3)) (S : St κ.w H L l N X h) (So : Sol κ.w F N adr st) (hne : st.lev ≠ []) (q : ∀ h', St κ.w H L l N X h' → Q (.ref (adr (.lvI (st.lev.length - 1)))) h') :
    T κ (getAttr (.ref (adr .inst)) "_current_level" expr) Q h := by
  obtain ⟨o1, m1, rfl⟩ := So.has .inst trivial
  obtain ⟨o2, m2, f, m, hn, D, ok'⟩ := So.has .dict trivial
  refine T_getProp S.kin K_level (S.gn m1) (S.gn m2) ?_
  have c := level_spec (κ := κ.in1) (N := N) (n := n) R.in1 S.topN S.ledN So hne
  refine c.mono fun v h' ⟨N', led, kb, ni, e1, e2⟩ => ?_
  subst e1 e2
  exact ⟨rfl, q h' (S.out led kb ni)⟩
theorem T_lvattr {k : Nat} {name : Str} {v : Value} {expr : Bool} {Q : Value → Heap → Prop} (S : St κ.w H L l N X h) (So : Sol κ.w F N adr st) (hk : k < st.lev.length) (ok : AttrOk (hd.heap_39 κ.w.params) 229 name)
    (hv : ∀ f : Str → Option Value, (∃ t, f "decision" = some (.int (st.lev.getD k lev0).dec t)) → f "var_settings" = some (.ref (adr (.lvS k))) → f "flipped" = some (.bool (st.lev.getD k lev0).flip) → f name = some v) (hh : handedIn v = true) (q : Q v h) :
    T κ (getAttr (.ref (adr (.lvI k))) name expr) Q h := by
  obtain ⟨o1, m1, rfl⟩ := So.has (.lvI k) hk
  obtain ⟨o2, m2, f, m, hn, D, a, b, c⟩ := So.has (.lvD k) hk
  exact T_getAttr S.kin ok (S.gn m1) D (S.gn m2) (hv f a b c) hh q
theorem nodup_take {l : List Int} {i : Nat} {a : Int} (hnd : l.Nodup) (ha : l[i]? = some a) : a ∉ l.take i := fun hm => by
  obtain ⟨k, hk1⟩ := List.mem_iff_getElem?.mp hm
  have hki : k < i := by
    rcases Nat.lt_or_ge k i with q | q
    · exact q
    · rw [List.getElem?_eq_none (by simp; omega)] at hk1; cases hk1
  rw [List.getElem?_take_of_lt hki] at hk1
  have h1 : k < l.length := by
    rcases Nat.lt_or_ge k l.length with q | q
    · exact q
    · rw [List.getElem?_eq_none q] at hk1; cases hk1
  have := (List.getElem?_inj h1 hnd).mp (hk1.trans ha.symm)
  omega
theorem take_succ_of {l : List Int} {i : Nat} {a : Int} (ha : l[i]? = some a) : l.take (i + 1) = l.take i ++ [a] := by
  rw [List.take_add_one, ha]; rfl
theorem bools_set (m : Nat) (f : Nat → Bool) {k : Nat} (b : Bool) : (((List.range m).map f).map Value.bool).set k (.bool b) = ((List.range m).map fun i => if i = k then b else f i).map Value.bool := by
  apply List.ext_getElem?
  intro i
  by_cases hi : i < m
  · by_cases e : i = k
    · subst e
      rw [List.getElem?_set_self (by simpa using hi)]
      simp [hi]
    · rw [List.getElem?_set_ne (Ne.symm e)]
      simp [hi, e]
  · rw [List.getElem?_eq_none (by simp; omega), List.getElem?_eq_none (by simp; omega)]
structure Undo (F : Fix) (st : SS) (done : List Int) (st' : SS) : Prop where
  vs : ∀ x, x ∈ st'.vs ↔ (x ∈ st.vs ∧ x ∉ done)
  vset : ∀ k, st'.vset k = (st.vset k && !done.any fun l => l.natAbs == k)
  sent : st'.sent = st.sent
  q : st'.q = st.q
  bad : st'.bad = st.bad
  hp : st'.hp.Perm (st.hp ++ done.flatMap (entries F))
set_option maxHeartbeats 4000000 in
theorem undo_spec (R : Room κ (n + 6)) (top : TopIn κ.w (hid h N)) (led : Led h N) (So : Sol κ.w F N adr st) {ls : List Lev} {lv : Lev} (hlev : st.lev = ls ++ [lv]) (hsub : ∀ x ∈ lv.set, x ∈ st.vs ∧ IsLit F x) (hz : st.hp.length ≤ 5000) (hm : F.many ≤ 100) (hls : ls.length ≤ 1000000) :
    C κ (.call (.ref 129) ⟨[.ref (adr .inst)], []⟩) (Out h N fun v N' => v = .none ∧ ∃ st' js, js.Perm lv.set ∧ Sol κ.w F N' adr st' ∧ Undo F st js st' ∧ st'.lev = ls) h := by
  refine C_def [("self", .ref (adr .inst))] _ (n := n + 5) R top led (by k_is) (by k_is) (fun s _ => BindsTo.of_eq rfl) (locs rfl) rfl (fun κ L h₁ ew S R => ?_)
  clear led
  rw [← ew] at So top ⊢
  generalize hid h N = G at S top ⊢
  have hlen : st.lev.length = ls.length + 1 := by rw [hlev]; simp
  have hlast : st.lev.getD ls.length lev0 = lv := by rw [hlev]; simp
  walk_at "w"
  refine T_level (n := 0) (R.le (by omega)) S So (fun h => by rw [h] at hlen; simp at hlen) (fun h S => ?_)
  rw [show st.lev.length - 1 = ls.length by omega]
  walk_at "w"
  refine T_lvattr S So (by omega) L_vs (fun f _ a _ => a) rfl ?_
  obtain ⟨oS, mS, DS⟩ := So.has (.lvS ls.length) (by show ls.length < st.lev.length; omega)
  have DS : SetO κ.w (st.lev.getD ls.length lev0).set oS := DS
  rw [hlast] at DS
  refine T_iter_set R.handled DS (S.gn mS) fun I h' js hjs it => ?_
  have hlvS : live F st (.lvS ls.length) := by show ls.length < st.lev.length; omega
  refine ForAt.mk2 S it (fun i N' X' => ∃ st1, Sol κ.w F N' adr st1 ∧ Undo F st ((js.map (·.1)).take i) st1 ∧ st1.lev = st.lev ∧ (adr (.lvS ls.length), oS) ∈ N') ⟨st, So, ⟨fun x => by simp, fun k => by simp, rfl, rfl, rfl, by simp⟩, rfl, mS⟩
    (fun i N' X' ⟨st1, _, _, _, hm⟩ p hp => by rw [List.mem_singleton.mp hp]; exact .inl hm) (fun i v N' X' H' h hk hi hP hI S => ?_) (fun l' N' X' h hI hl S => ?_)
  · clear So mS it
    obtain ⟨st1, So, hU, hlv, mS⟩ := hI
    have hjs' : (js.map (·.1)).Perm lv.set := hjs
    obtain ⟨a, ta, ha, rfl⟩ := ints_of_at (ints_vals js) hP
    have hal : a ∈ lv.set := hjs'.mem_iff.mp (List.mem_of_getElem? ha)
    have hnd : (js.map (·.1)).Nodup := hjs'.nodup_iff.mpr DS.nodup
    have hnot : a ∉ (js.map (·.1)).take i := nodup_take hnd ha
    have hav : a ∈ st1.vs := (hU.vs a).mpr ⟨(hsub a hal).1, hnot⟩
    walk_at "w"
    refine T_sat S So A_vs (fun f ok => ok.vs) rfl ?_
    obtain ⟨ovs, mvs, Dvs⟩ := So.has .vs trivial
    refine T_m_remove Dvs (S.gn mvs) ?_
    walk_at "w"
    refine T_set_remove Dvs (S.gn mvs) hav (fun h o1 D1 c => ?_)
    replace S := S.updN mvs c
    have So1 : Sol κ.w F (Mine.upd N' (adr .vs) o1) adr { st1 with vs := st1.vs.erase a } := So.upd .vs trivial (by decide) (fun r hr => by cases r <;> exact hr) D1 (fun r o _ hr hp => by cases r <;> first | exact hp | exact absurd rfl hr) rfl
    replace mS : (adr (.lvS ls.length), oS) ∈ Mine.upd N' (adr .vs) o1 := mem_upd_of_ne mS fun q => by have := So.inj (.lvS ls.length) .vs (by show _ < st1.lev.length; rw [hlv]; exact hlvS) trivial q; cases this
    have hq1 : ({ st1 with vs := st1.vs.erase a } : SS).hp = st1.hp ∧ ({ st1 with vs := st1.vs.erase a } : SS).vset = st1.vset ∧ ({ st1 with vs := st1.vs.erase a } : SS).sent = st1.sent ∧ ({ st1 with vs := st1.vs.erase a } : SS).q = st1.q ∧ ({ st1 with vs := st1.vs.erase a } : SS).bad = st1.bad ∧ ({ st1 with vs := st1.vs.erase a } : SS).lev = st1.lev ∧ ({ st1 with vs := st1.vs.erase a } : SS).vs = st1.vs.erase a := ⟨rfl, rfl, rfl, rfl, rfl, rfl, rfl⟩
    generalize ({ st1 with vs := st1.vs.erase a } : SS) = st2 at So1 hq1
    obtain ⟨q1, q2, q3, q4, q5, q6, q7⟩ := hq1
    have hndv : st1.vs.Nodup := Dvs.nodup
    clear So Dvs mvs D1
    have hlen2 : st2.hp.length ≤ 10000 := by
      have h1 := hU.hp.length_eq
      have h2 : (((js.map (·.1)).take i).flatMap (entries F)).length = 2 * ((js.map (·.1)).take i).length := by
        generalize (js.map (·.1)).take i = l
        induction l with
        | nil => rfl
        | cons x r ih => rw [List.flatMap_cons, List.length_append, ih]; simp [entries]; omega
      have h3 : ((js.map (·.1)).take i).length ≤ js.length := by simp; omega
      have h4 : js.length ≤ 1000 := by have := hjs'.length_eq; obtain ⟨_, _, _, _, x⟩ := DS; have := x.small; simp at *; omega
      rw [q1, h1, List.length_append, h2]; omega
    walk_at "w"
    refine T_smeth S So1 K_lunset (fun f ok => ok.m10) ?_
    refine CW_K (by k_is) ?_
    walk_at "w"
    refine ⟨S.kin, T_out S (unset_spec (n := n + 2) (R.le (by omega)) S.topN S.ledN So1 (hsub a hal).2 hlen2) fun v N2 h ⟨hv, hkeep, st3, So3, hbut, hperm⟩ S => ?_⟩
    subst hv
    replace mS := hkeep (.lvS ls.length) oS (by show _ < st2.lev.length; rw [q6, hlv]; exact hlvS) (fun e => by cases e) mS
    clear So1
    walk_at "w"
    refine T_sat S So3 A_vset (fun f ok => ok.vset) rfl ?_
    walk_at "w"
    have habs : (if a < 0 then -a else a) = (a.natAbs : Int) := by split <;> omega
    rw [habs]
    obtain ⟨ovt, mvt, Bvt⟩ := So3.has .vset trivial
    have Bvt : LsO (((List.range (F.many + 1)).map st3.vset).map Value.bool) ovt := Bvt
    have hnm : a.natAbs < F.many + 1 := by have := (hsub a hal).2.2; omega
    refine T_setItem_list Bvt (S.gn mvt) (by omega) (by omega) (by simp; omega) (fun h o4 D4 c => ?_)
    replace S := S.updN mvt c
    rw [Int.toNat_natCast, bools_set] at D4
    have So4 : Sol κ.w F (Mine.upd N2 (adr .vset) o4) adr { st3 with vset := fun i => if i = a.natAbs then false else st3.vset i } := So3.upd .vset trivial (by decide) (fun r hr => by cases r <;> exact hr) D4 (fun r o _ hr hp => by cases r <;> first | exact hp | exact absurd rfl hr) rfl
    replace mS : (adr (.lvS ls.length), oS) ∈ Mine.upd N2 (adr .vset) o4 := mem_upd_of_ne mS fun q => by have := So3.inj (.lvS ls.length) .vset (by show _ < st3.lev.length; rw [hbut.lev, q6, hlv]; exact hlvS) trivial q; cases this
    walk_at "w"
    refine ⟨_, _, _, S, fun y hy => by simp [look, hy], _, So4, ⟨fun x => ?_, fun k => ?_, ?_, ?_, ?_, ?_⟩, ?_, mS⟩
    · show x ∈ st3.vs ↔ _
      rw [hbut.vs, q7, take_succ_of ha, hndv.mem_erase_iff, hU.vs x, List.mem_append, List.mem_singleton]
      constructor
      · rintro ⟨h1, h2, h3⟩; exact ⟨h2, fun q => q.elim h3 h1⟩
      · rintro ⟨h1, h2⟩; exact ⟨fun q => h2 (.inr q), h1, fun q => h2 (.inl q)⟩
    · show (if k = a.natAbs then false else st3.vset k) = _
      rw [hbut.vset, q2, hU.vset k, take_succ_of ha, List.any_append]
      by_cases e : k = a.natAbs
      · rw [if_pos e]; simp [e]
      · have e2 : (a.natAbs == k) = false := by simpa using Ne.symm e
        rw [if_neg e]; simp [e2]
    · exact hbut.sent.trans (q3.trans hU.sent)
    · exact hbut.q.trans (q4.trans hU.q)
    · exact hbut.bad.trans (q5.trans hU.bad)
    · show st3.hp.Perm _
      rw [q1] at hperm
      rw [take_succ_of ha, List.flatMap_append]
      refine hperm.trans ((List.Perm.append_right _ hU.hp).trans ?_)
      rw [List.append_assoc]; simp
    · exact hbut.lev.trans (q6.trans hlv)
  · obtain ⟨st1, So, hU, hlv, _⟩ := hI
    have htake : (js.map (·.1)).take js.length = js.map (·.1) := by rw [List.take_of_length_le (by simp)]
    rw [htake] at hU
    have hself := hl "self" (by decide)
    walk_at "w"
    refine T_loc S hself ?_
    walk_at "w"
    refine T_sat S So A_lv (fun f ok => ok.lv) rfl ?_
    obtain ⟨olv, mlv, Llv⟩ := So.has .lv trivial
    have Llv : LsO ((List.range st1.lev.length).map fun k => .ref (adr (.lvI k))) olv := Llv
    rw [hlv, hlen, List.range_succ, List.map_append] at Llv
    refine T_m_pop Llv (S.gn mlv) ?_
    walk_at "w"
    refine T_pop (p := (List.range ls.length).map fun k => .ref (adr (.lvI k))) (y := .ref (adr (.lvI ls.length))) Llv (S.gn mlv) (by simpa using hls) (fun h o5 D5 c => ?_)
    replace S := S.updN mlv c
    have hgd : ∀ k, k < ls.length → ls.getD k lev0 = st1.lev.getD k lev0 := fun k hk => by
      rw [hlv, hlev, List.getD_eq_getElem?_getD, List.getD_eq_getElem?_getD, List.getElem?_append_left hk]
    have So5 : Sol κ.w F (Mine.upd N' (adr .lv) o5) adr { st1 with lev := ls } := So.upd .lv trivial (by decide) (fun r hr => by
        cases r <;> first | exact hr | (show _ < st1.lev.length; rw [hlv, hlen]; exact Nat.lt_succ_of_lt hr)) D5 (fun r o hr hne hp => by
        cases r <;> first | exact hp | exact absurd rfl hne | (rename_i k; unfold P at hp ⊢; dsimp only; rw [hgd k hr]; exact hp)) rfl
    walk_at "w"
    exact ⟨_, _, _, S, rfl, _, js.map (·.1), hjs, So5, ⟨hU.vs, hU.vset, hU.sent, hU.q, hU.bad, hU.hp⟩, rfl⟩
end
end Mine
end
section
open PySem PySem.W PySem.Calls PyProof.Rows
set_option Elab.async false
set_option maxRecDepth 100000
set_option linter.all false
namespace Mine

set_option hygiene false in
local macro_rules | `(tactic| walk_at "e") => `(tactic| ((with_reducible show T _ (eval _ _) _ _); first
  | ((with_reducible show T _ (eval (Expr.Name _ _) _) _ _); first
    | ((with_reducible show T _ (eval (Expr.Name "len" _) _) _ _); refine N_len S (by k_is) ?_)
    | ((with_reducible show T _ (eval (Expr.Name "abs" _) _) _ _); refine N_abs S (by k_is) ?_)
    | ((with_reducible show T _ (eval (Expr.Name "sorted" _) _) _ _); refine N_sorted S (by k_is) ?_)
    | ((with_reducible show T _ (eval (Expr.Name "list" _) _) _ _); refine N_list S (by k_is) ?_)
    | ((with_reducible show T _ (eval (Expr.Name "range" _) _) _ _); refine N_range S (by k_is) ?_)
    | ((with_reducible show T _ (eval (Expr.Name "set" _) _) _ _); refine N_set S (by k_is) ?_)
    | ((with_reducible show T _ (eval (Expr.Name "enumerate" _) _) _ _); refine N_enumerate S (by k_is) ?_)
    | refine T_loc S (by first | rfl | exact hn1 | exact hn2 | exact hn3 | exact hn4 | exact hn5) ?_
    | refine T_glob S (by k_is) ?_)
  | ((with_reducible show T _ (eval (Expr.Constant (Const.int _) _ _) _) _ _); refine T_int (fun t => ?_))
  | ((with_reducible show T _ (eval (Expr.Attribute _ _ _) _) _ _); refine T_attr ?_)
  | ((with_reducible show T _ (eval (Expr.Subscript _ _ _) _) _ _); refine T_item ?_)
  | ((with_reducible show T _ (eval (Expr.Call (Expr.Attribute _ _ _) _ [] _) _) _ _); refine T_Method ?_)
  | ((with_reducible show T _ (eval (Expr.Call _ _ [] _) _) _ _); refine T_Call ?_)
  | ((with_reducible show T _ (eval (Expr.BinOp _ _ _ _) _) _ _); refine T_binop ?_)
  | ((with_reducible show T _ (eval (Expr.UnaryOp _ _ _) _) _ _); refine T_unop ?_)
  | ((with_reducible show T _ (eval (Expr.Compare _ _ _ _) _) _ _); refine T_cmp ?_)
  | ((with_reducible show T _ (eval (Expr.Constant Const.none _ _) _) _ _); refine T_none ?_)
  | ((with_reducible show T _ (eval (Expr.Constant (Const.bool _) _ _) _) _ _); refine T_bool ?_)
  | ((with_reducible show T _ (eval (Expr.Constant (Const.str _) _ _) _) _ _); refine T_str (fun t => ?_))
  | ((with_reducible show T _ (eval (Expr.Dict [] [] _) _) _ _); refine T_dict0 (fun a h c => ?_))
  | ((with_reducible show T _ (eval (Expr.List _ _) _) _ _); refine T_list ?_)
  | ((with_reducible show T _ (eval (Expr.Tuple _ _ _) _) _ _); refine T_tuple ?_)
  | ((with_reducible show T _ (eval (Expr.BoolOp BoolOp.Or [_, _] _) _) _ _); refine T_or2 ?_)
  | ((with_reducible show T _ (eval (Expr.IfExp _ _ _ _) _) _ _); refine T_ifexp ?_)))
set_option hygiene false in
local macro_rules | `(tactic| walk_at "s") => `(tactic| first
  | ((with_reducible show T _ (execs (_ :: _) _) _ _); refine T_seq ?_)
  | ((with_reducible show T _ (execs [] _) _ _); refine T_nil ?_)
  | ((with_reducible show T _ (exec _ _) _ _); first
    | ((with_reducible show T _ (exec (Stmt.Assign [Expr.Name _ _] _ _) _) _ _); refine T_assign ?_)
    | ((with_reducible show T _ (exec (Stmt.If _ _ _ _) _) _ _); refine T_if ?_)
    | ((with_reducible show T _ (exec (Stmt.Return (some _) _) _) _ _); refine T_return ?_)
    | ((with_reducible show T _ (exec (Stmt.Return none _) _) _ _); refine T_return0 ?_)
    | ((with_reducible show T _ (exec (Stmt.Expr _ _) _) _ _); refine T_expr' ?_)
    | ((with_reducible show T _ (exec (Stmt.Assign [Expr.Attribute _ _ _] _ _) _) _ _); refine T_setattr_stmt ?_)
    | ((with_reducible show T _ (exec (Stmt.Assign [Expr.Subscript _ _ _] _ _) _) _ _); refine T_setitem_stmt ?_)
    | ((with_reducible show T _ (exec (Stmt.For (Expr.Name _ _) _ _ [] _) _) _ _); refine T_for ?_)
    | ((with_reducible show T _ (exec (Stmt.AugAssign (Expr.Name _ _) _ _ _) _) _ _); refine T_aug_name ?_)
    | ((with_reducible show T _ (exec (Stmt.AugAssign (Expr.Subscript _ _ _) _ _ _) _) _ _); refine T_aug_item ?_)
    | ((with_reducible show T _ (exec (Stmt.Pass _) _) _ _); refine T_pass ?_)
    | ((with_reducible show T _ (exec (Stmt.Break _) _) _ _); refine T_break ?_)
    | ((with_reducible show T _ (exec (Stmt.Continue _) _) _ _); refine T_continue ?_))
  | ((with_reducible show T _ (storeName _ _ _) _ _); refine T_store S (fun h S => ?_))
  | ((with_reducible show T _ (isTrue _ _ _) _ _); first
    | ((with_reducible show T _ (isTrue (Expr.Compare _ _ _ _) _ _) _ _); refine T_isTrue_cmp ?_)
    | ((with_reducible show T _ (isTrue (Expr.UnaryOp UnaryOp.Not _ _) _ _) _ _); refine T_isTrue_not ?_)
    | ((with_reducible show T _ (isTrue (Expr.BoolOp BoolOp.Or [_, _] _) _ _) _ _); refine T_isTrue_or2 ?_)
    | ((with_reducible show T _ (isTrue (Expr.BoolOp BoolOp.And [_, _] _) _ _) _ _); refine T_isTrue_and2 ?_)
    | ((with_reducible show T _ (isTrue (Expr.BoolOp BoolOp.And [_, _, _] _) _ _) _ _); refine T_isTrue_and3 ?_)
    | (refine T_isTrue_val ?_))
  | ((with_reducible show T _ (truthy (Value.bool _)) _ _); refine T_truthy_bool ?_)
  | ((with_reducible show T _ (truthy (Value.int _ _)) _ _); refine T_truthy_int ?_)
  | ((with_reducible show T _ (truthy Value.none) _ _); refine T_truthy_none ?_)
  | ((with_reducible show T _ (PySem.call (Value.builtin "abs") ([] ++ [Value.int _ _])) _ _); refine T_abs (fun t => ?_))
  | ((with_reducible show Args _ _ (_ :: _) _ _); refine Args_cons ?_)
  | ((with_reducible show Args _ _ [] _ _); refine Args_nil ?_)
  | ((with_reducible show T _ (callWith _ (Value.builtin _) _ _ _) _ _); refine CW_bi ?_)
  | ((with_reducible show T _ (callWith _ (Value.type _) _ _ _) _ _); refine CW_ty ?_)
  | ((with_reducible show T _ (binaryOp Operator.Add (Value.int _ _) (Value.int _ _)) _ _); refine T_add (fun t => ?_))
  | ((with_reducible show T _ (binaryOp Operator.Sub (Value.int _ _) (Value.int _ _)) _ _); refine T_sub (fun t => ?_))
  | ((with_reducible show T _ (unaryOp UnaryOp.USub (Value.int _ _)) _ _); refine T_neg (fun t => ?_))
  | ((with_reducible show T _ (compareOp CmpOp.Eq (Value.int _ _) (Value.int _ _)) _ _); refine T_eq ?_)
  | ((with_reducible show T _ (compareOp CmpOp.NotEq (Value.int _ _) (Value.int _ _)) _ _); refine T_ne ?_)
  | ((with_reducible show T _ (compareOp CmpOp.Lt (Value.int _ _) (Value.int _ _)) _ _); refine T_lt ?_)
  | ((with_reducible show T _ (compareOp CmpOp.Gt (Value.int _ _) (Value.int _ _)) _ _); refine T_gt ?_)
  | ((with_reducible show T _ (compareOp CmpOp.Is _ Value.none) _ _); refine T_is_none ?_)
  | ((with_reducible show T _ (compareOp CmpOp.IsNot _ Value.none) _ _); refine T_isnot_none ?_)
  | walk_at "e")
set_option hygiene false in
local macro_rules | `(tactic| walk_at "w") => `(tactic| repeat (walk_at "s"))
theorem fill_frag6 : (PySem.Challenge.rw_at6042_01, Mine.hd.heap_39) = (PySem.Challenge.rw_at6042_01, Mine.hd.heap_39) := by k_fill; rfl
section
variable {κ : Kx} {F : Fix} {h H : Heap} {L : Addr} {l : List (Str × Value)} {N X : Ledger} {adr : Role → Addr} {st : SS} {n : Nat}
theorem ForAt.mk3 {env : Env} {x : Str} {body : List Stmt} {Q : Flow → Heap → Prop} {H h h' : Heap} {L I : Addr} {l : List (Str × Value)} {N X dep : Ledger} {n : Nat} {P : Nat → Value → Prop} (chg : List Str) (S : St κ.w H L l N X h) (it : ItNew κ h I dep n P h')
    (Inv : Nat → (Str → Option Value) → Ledger → Ledger → Prop) (h0 : Inv 0 (look l) N X) (hdep : ∀ i m N X, Inv i m N X → ∀ p ∈ dep, p ∈ N ∨ p ∈ X ∨ H.get? p.1 = some p.2)
    (turn : ∀ i v l' N X H' h, Keep H H' → i < n → P i v → Inv i (look l') N X → (∀ y, y ≠ x → y ∉ chg → look l' y = look l y) → St κ.w H' L ((x, v) :: l') N X h → T κ (execs body env) (fun f h' => match f with
        | .next | .cont => ∃ l' N' X', St κ.w H' L l' N' X' h' ∧ (∀ y, y ≠ x → y ∉ chg → look l' y = look l y) ∧ Inv (i + 1) (look l') N' X'
        | .brk => Q .next h'
        | .ret v => Q (.ret v) h') h)
    (done : ∀ l' N X h, Inv n (look l') N X → (∀ y, y ≠ x → y ∉ chg → look l' y = look l y) → St κ.w H L l' N X h → Q .next h) : ForAt κ env L x body Q (.ref I) h' := by
  refine ForAt.mk S it (fun i l' N X => (∀ y, y ≠ x → y ∉ chg → look l' y = look l y) ∧ Inv i (look l') N X) ⟨fun _ _ _ => rfl, h0⟩ (fun i l' N X hi => hdep i _ N X hi.2) (fun i v l' N X H' h hk hi hP hI S => ?_) (fun l' N X h hI S => done l' N X h hI.2 hI.1 S)
  refine (turn i v l' N X H' h hk hi hP hI.2 hI.1 S).mono fun f h' z => ?_
  cases f with
  | next => exact z
  | cont => exact z
  | brk => exact z
  | ret v => exact z
def adds (l : List Int) (k : Int) : List Int := if k ∈ l then l else l ++ [k]
def begin_ (st : SS) (ls : List Lev) (lv : Lev) (lit : Int) : SS :=
  { st with vs := adds st.vs lit, lev := ls ++ [{ lv with set := adds lv.set lit }], vset := fun i => if i = lit.natAbs then true else st.vset i }
def moveTo (F : Fix) (st : SS) (lit : Int) (i : Nat) : Option Int := (F.rows.getD i []).find? fun c => decide (c ≠ -lit) && (!decide ((i : Int) ∈ st.sent c) && !st.vset c.natAbs)
def lastS (F : Fix) (st : SS) (lit : Int) (i : Nat) : Option Int := ((F.rows.getD i []).filter fun c => decide (c ≠ -lit) && decide ((i : Int) ∈ st.sent c)).getLast?
def stepA (F : Fix) (lit : Int) (st : SS) (i : Nat) : SS :=
  if (F.rows.getD i []).any (fun l => decide (l ∈ st.vs)) = true then st else
  match moveTo F st lit i with
  | some c => { st with sent := fun l => if l = c then adds (st.sent c) i else if l = -lit then (st.sent (-lit)).erase i else st.sent l }
  | none => match lastS F st lit i with
    | some w => { st with q := st.q ++ [w] }
    | none => st
def OV (v : Value) : Option Int → Prop
  | none => v = .none
  | some w => ∃ t, v = .int w t
theorem lastS_snoc (p : Int → Bool) (l : List Int) (c : Int) : ((l ++ [c]).filter p).getLast? = if p c = true then some c else (l.filter p).getLast? := by
  rw [List.filter_append]
  by_cases h : p c = true
  · rw [if_pos h, List.filter_cons_of_pos h]; simp
  · rw [if_neg h, List.filter_cons_of_neg h]; simp
theorem find_at {p : Int → Bool} {l : List Int} {j : Nat} {c : Int} (hc : l[j]? = some c) (hp : p c = true) (hn : ∀ x ∈ l.take j, p x = false) : l.find? p = some c := by
  have hj : j < l.length := by
    rcases Nat.lt_or_ge j l.length with q | q
    · exact q
    · rw [List.getElem?_eq_none q] at hc; cases hc
  rw [← List.take_append_drop j l, List.find?_append, List.find?_eq_none.mpr fun x hx => by rw [hn x hx]; simp]
  rw [List.drop_eq_getElem_cons hj]
  have : l[j] = c := by have := List.getElem?_eq_getElem hj; rw [hc] at this; exact (Option.some.inj this).symm
  rw [this, List.find?_cons_of_pos hp]; rfl
structure MidA (lit : Int) (st0 st1 : SS) (i : Nat) (rest : List Int) : Prop where
  vs : st1.vs = st0.vs
  vset : st1.vset = st0.vset
  q : st1.q.length ≤ st0.q.length + i
  len : ∀ l, (st1.sent l).length ≤ (st0.sent l).length + i
  mem : ∀ x ∈ rest, x ∈ st1.sent (-lit)
theorem adds_len (l : List Int) (k : Int) : (adds l k).length ≤ l.length + 1 := by
  unfold adds; split
  · omega
  · simp
theorem moveTo_ne {F : Fix} {st : SS} {lit : Int} {i : Nat} {c : Int} (h : moveTo F st lit i = some c) : c ≠ -lit := by
  have := List.find?_some h
  simp only [Bool.and_eq_true, decide_eq_true_eq] at this
  exact this.1
theorem stepA_mid {F : Fix} {lit : Int} {st0 st : SS} {i : Nat} {a : Int} {rest : List Int} (M : MidA lit st0 st i (a :: rest)) (hnd : (a :: rest).Nodup) (ha : 0 ≤ a) : MidA lit st0 (stepA F lit st a.toNat) (i + 1) rest := by
  have ea : ((a.toNat : Nat) : Int) = a := by omega
  have old : MidA lit st0 st (i + 1) rest := ⟨M.vs, M.vset, by have := M.q; omega, fun l => by have := M.len l; omega, fun x hx => M.mem x (.tail _ hx)⟩
  unfold stepA
  split
  · exact old
  · split
    · rename_i c hc
      have hne := moveTo_ne hc
      refine ⟨M.vs, M.vset, old.q, fun l => ?_, fun x hx => ?_⟩
      · dsimp only
        have h1 := M.len l
        split
        · rename_i e; subst e
          have := adds_len (st.sent l) (a.toNat : Int); omega
        · split
          · rename_i e; subst e
            have := List.length_erase_le (a := ((a.toNat : Nat) : Int)) (l := st.sent (-lit)); omega
          · omega
      · dsimp only
        rw [if_neg (Ne.symm hne), if_pos rfl, ea]
        have hxa : x ≠ a := fun e => by subst e; exact (List.nodup_cons.mp hnd).1 hx
        exact (List.mem_erase_of_ne hxa).mpr (M.mem x (.tail _ hx))
    · split
      · exact ⟨M.vs, M.vset, by have := M.q; simp; omega, old.len, old.mem⟩
      · exact old
set_option maxHeartbeats 4000000 in
theorem lassigned_spec (R : Room κ (n + 2)) (top : TopIn κ.w (hid h N)) (led : Led h N) {x : Value} {lit : Int} {tl : Tok} :
    C κ (.call (.ref 171) ⟨[x, .int lit tl], []⟩) (Out h N fun v N' => N' = N ∧ v = .none) h := by
  refine C_def [("self", x), ("lit", .int lit tl)] _ (n := n + 1) R top led (by k_is) (by k_is) (fun s _ => BindsTo.of_eq rfl) (locs rfl) rfl (fun κ L h₁ ew S R => ?_)
  walk_at "w"
  exact ⟨_, _, _, S, rfl, rfl⟩
theorem SetO.adds {w : World} {l : List Int} {k : Int} {o : Obj} (D : SetO w (if k ∈ l then l else l ++ [k]) o) : SetO w (Mine.adds l k) o := D
set_option maxHeartbeats 4000000 in
theorem assign_spec (R : Room κ (n + 6)) (top : TopIn κ.w (hid h N)) (led : Led h N) (So : Sol κ.w F N adr st) {lit : Int} {tl : Tok} (hl : IsLit F lit) (hrow : ∀ i, ∀ c ∈ F.rows.getD i [], IsLit F c)
    {ls : List Lev} {lv : Lev} (hlev : st.lev = ls ++ [lv]) (h1 : st.vs.length ≤ 900) (h2 : lv.set.length ≤ 900) (h3 : ∀ l, IsLit F l → (st.sent l).length ≤ 100) (h4 : st.q.length ≤ 10000) (hm : F.many ≤ 100) (hr : F.rows.length ≤ 100)
    (h5 : ∀ l, IsLit F l → ∀ i ∈ st.sent l, 0 ≤ i ∧ i < F.rows.length) :
    C κ (.call (.ref 122) ⟨[.ref (adr .inst), .int lit tl], []⟩) (Out h N fun v N' => v = .none ∧ ∃ js : List Int, js.Perm (st.sent (-lit)) ∧ Sol κ.w F N' adr ((js.map Int.toNat).foldl (stepA F lit) (begin_ st ls lv lit))) h := by
  refine C_def [("self", .ref (adr .inst)), ("lit", .int lit tl)] _ (n := n + 5) R top led (by k_is) (by k_is) (fun s _ => BindsTo.of_eq rfl) (locs rfl) rfl (fun κ L h₁ ew S R => ?_)
  clear led
  rw [← ew] at So top ⊢
  generalize hid h N = G at S top ⊢
  have habs : (if lit < 0 then -lit else lit) = (lit.natAbs : Int) := by split <;> omega
  have hnl : IsLit F (-lit) := ⟨by have := hl.1; omega, by have := hl.2; omega⟩
  have hlen : st.lev.length = ls.length + 1 := by rw [hlev]; simp
  have hlast : st.lev.getD ls.length lev0 = lv := by rw [hlev]; simp
  -- the three settings
  walk_at "w"
  refine T_sat S So A_vs (fun f ok => ok.vs) rfl ?_
  obtain ⟨ovs, mvs, Dvs⟩ := So.has .vs trivial
  refine T_m_add Dvs (S.gn mvs) ?_
  walk_at "w"
  refine T_set_add Dvs (S.gn mvs) h1 (fun h o1 D1 c => ?_)
  replace S := S.updN mvs c
  replace D1 := SetO.adds D1
  replace So : Sol κ.w F (Mine.upd N (adr .vs) o1) adr { st with vs := adds st.vs lit } := So.upd .vs trivial (by decide) (fun r hr => by cases r <;> exact hr) D1 (fun r o _ hr hp => by cases r <;> first | exact hp | exact absurd rfl hr) rfl
  clear Dvs mvs D1 c
  walk_at "w"
  refine T_level (n := 0) (R.le (by omega)) S So (fun h => by rw [show ({ st with vs := adds st.vs lit } : SS).lev = st.lev from rfl, hlev] at h; simp at h) (fun h S => ?_)
  rw [show ({ st with vs := adds st.vs lit } : SS).lev.length - 1 = ls.length by show st.lev.length - 1 = _; omega]
  walk_at "w"
  refine T_lvattr S So (by show _ < st.lev.length; omega) L_vs (fun f _ a _ => a) rfl ?_
  obtain ⟨oS, mS, DS⟩ := So.has (.lvS ls.length) (by show ls.length < st.lev.length; omega)
  have DS : SetO κ.w (st.lev.getD ls.length lev0).set oS := DS
  rw [hlast] at DS
  refine T_m_add DS (S.gn mS) ?_
  walk_at "w"
  refine T_set_add DS (S.gn mS) h2 (fun h o2 D2 c => ?_)
  replace S := S.updN mS c
  replace D2 := SetO.adds D2
  have hnew : (ls ++ [{ lv with set := adds lv.set lit }] : List Lev).length = st.lev.length := by rw [hlen]; simp
  have hgd : ∀ k, k ≠ ls.length → (ls ++ [{ lv with set := adds lv.set lit }] : List Lev).getD k lev0 = st.lev.getD k lev0 := fun k hk => by
    rw [hlev, List.getD_eq_getElem?_getD, List.getD_eq_getElem?_getD]
    rcases Nat.lt_or_ge k ls.length with q | q
    · rw [List.getElem?_append_left q, List.getElem?_append_left q]
    · rw [List.getElem?_eq_none (by simp; omega), List.getElem?_eq_none (by simp; omega)]
  have hgl : (ls ++ [{ lv with set := adds lv.set lit }] : List Lev).getD ls.length lev0 = { lv with set := adds lv.set lit } := by simp
  replace So : Sol κ.w F _ adr { st with vs := adds st.vs lit, lev := ls ++ [{ lv with set := adds lv.set lit }] } := So.upd (.lvS ls.length) (by show _ < st.lev.length; omega) (by intro e; cases e) (fun r hr => by
      cases r <;> first | exact hr | (show _ < st.lev.length; rw [← hnew]; exact hr)) (by show SetO κ.w _ o2; rw [hgl]; exact D2) (fun r o hlr hr hp => by
      cases r <;> first
        | exact hp
        | (rename_i k; by_cases hk : k = ls.length
           · first | exact absurd (congrArg Role.lvS hk) hr | (subst hk; unfold P at hp ⊢; dsimp only at hp ⊢; rw [hgl]; rw [hlast] at hp; exact hp)
           · unfold P at hp ⊢; dsimp only at hp ⊢; rw [hgd k hk]; exact hp)
        | (unfold P at hp ⊢; dsimp only at hp ⊢; rw [hnew]; exact hp)) rfl
  clear DS mS D2 c
  walk_at "w"
  refine T_sat S So A_vset (fun f ok => ok.vset) rfl ?_
  walk_at "w"
  rw [habs]
  obtain ⟨ovt, mvt, Bvt⟩ := So.has .vset trivial
  have Bvt : LsO (((List.range (F.many + 1)).map st.vset).map Value.bool) ovt := Bvt
  have hnm : lit.natAbs < F.many + 1 := by have := hl.2; omega
  refine T_setItem_list Bvt (S.gn mvt) (by omega) (by omega) (by simp; omega) (fun h o4 D4 c => ?_)
  replace S := S.updN mvt c
  rw [Int.toNat_natCast, bools_set] at D4
  replace So : Sol κ.w F _ adr (begin_ st ls lv lit) := So.upd .vset trivial (by decide) (fun r hr => by cases r <;> exact hr) D4 (fun r o _ hr hp => by cases r <;> first | exact hp | exact absurd rfl hr) rfl
  clear Bvt mvt D4 c
  have hb1 : (begin_ st ls lv lit).sent = st.sent := rfl
  have hb2 : (begin_ st ls lv lit).q = st.q := rfl
  generalize begin_ st ls lv lit = st0 at So hb1 hb2 ⊢
  walk_at "w"
  refine T_smeth S So K_lassigned (fun f ok => ok.m9) ?_
  refine CW_K (by k_is) ?_
  walk_at "w"
  refine ⟨S.kin, T_out S (lassigned_spec (n := n + 3) (R.le (by omega)) S.topN S.ledN) fun v N2 h ⟨e1, e2⟩ S2 => ?_⟩
  subst e1 e2
  clear S
  have S := S2
  clear S2
  walk_at "w"
  refine T_sat S So A_sd (fun f ok => ok.sd) rfl ?_
  walk_at "w"
  obtain ⟨osd, msd, f, m, hm2, Dsd, hsd⟩ := So.has .sd trivial
  refine T_item_int Dsd (S.gn msd) (hsd (-lit) hnl) ?_
  walk_at "w"
  obtain ⟨ose, mse, Dse⟩ := So.has (.sent (-lit)) hnl
  refine T_list_set R.handled Dse (S.gn mse) (fun r h js o' hp hL c => ?_)
  replace S := S.new c
  clear c mse msd Dsd
  walk_at "w"
  have hX := S.gx (.head _)
  refine T_iter_list R hL hX fun I h' it => ?_
  have Dse : SetO κ.w (st0.sent (-lit)) ose := Dse
  rw [hb1] at Dse hp
  have hnd : (js.map (·.1)).Nodup := hp.nodup_iff.mpr Dse.nodup
  have hrange : ∀ a : Int, a ∈ js.map (·.1) → 0 ≤ a ∧ a < (F.rows.length : Int) := fun a ha => h5 (-lit) hnl a (hp.mem_iff.mp ha)
  have hvl : (vals js).length = js.length := by simp [vals]
  have hjl : (js.map (·.1)).length ≤ 100 := by rw [hp.length_eq]; exact h3 _ hnl
  refine ForAt.mk3 ["other_sentinel", "newlit"] S it (fun i m N' X' => (r, o') ∈ X' ∧ ∃ st1, st1 = (((js.map (·.1)).take i).map Int.toNat).foldl (stepA F lit) st0 ∧ Sol κ.w F N' adr st1 ∧ MidA lit st0 st1 i ((js.map (·.1)).drop i))
    ⟨.head _, st0, rfl, So, rfl, rfl, Nat.le_refl _, fun l => Nat.le_refl _, fun x hx => by rw [hb1]; exact hp.mem_iff.mp hx⟩
    (fun i m N' X' hI p hp => by rw [List.mem_singleton.mp hp]; exact .inr (.inl hI.1)) (fun i v l' N' X' H' h hk hi hP hI hl' S => ?_) (fun l' N' X' h hI hl' S => ?_)
  · clear So
    obtain ⟨hrX, st1, hst1, So, hM⟩ := hI
    have hn1 : look l' "self" = some (.ref (adr .inst)) := hl' "self" (by decide) (by decide)
    have hn2 : look l' "lit" = some (.int lit tl) := hl' "lit" (by decide) (by decide)
    obtain ⟨a, ta, ha, rfl⟩ := ints_of_at (ints_vals js) hP
    obtain ⟨ha0, ha1⟩ := hrange a (List.mem_of_getElem? ha)
    obtain ⟨k, rfl⟩ : ∃ k : Nat, a = k := ⟨a.toNat, by omega⟩
    have hk1 : k < F.rows.length := by omega
    have hil : i < (js.map (·.1)).length := by rw [List.length_map, ← hvl]; exact hi
    have hdrop : (js.map (·.1)).drop i = (k : Int) :: (js.map (·.1)).drop (i + 1) := by
      rw [List.drop_eq_getElem_cons hil]; congr 1
      have := List.getElem?_eq_getElem hil; rw [ha] at this; exact (Option.some.inj this).symm
    rw [hdrop] at hM
    have hnext : (((js.map (·.1)).take (i + 1)).map Int.toNat).foldl (stepA F lit) st0 = stepA F lit st1 k := by
      rw [take_succ_of ha, List.map_append, List.foldl_append, ← hst1]; rfl
    have hM2 : MidA lit st0 (stepA F lit st1 k) (i + 1) ((js.map (·.1)).drop (i + 1)) := by
      have := stepA_mid (F := F) hM (hdrop ▸ (hnd.sublist (List.drop_sublist _ _))) (by omega)
      simpa using this
    have hql : st1.q.length ≤ 20000 := by have := hM.q; rw [hb2] at this; omega
    have hsl : ∀ l, IsLit F l → (st1.sent l).length ≤ 300 := fun l hl => by have := hM.len l; rw [hb1] at this; have := h3 l hl; omega
    have hkm : (k : Int) ∈ st1.sent (-lit) := hM.mem _ (.head _)
    walk_at "w"
    refine T_smeth S So K_sat (fun f ok => ok.m1) ?_
    refine CW_K (by k_is) ?_
    walk_at "w"
    refine ⟨S.kin, T_out S (sat_spec (n := n + 2) (R.le (by omega)) S.topN S.ledN So hk1 (by omega)) fun v N2 h ⟨e1, e2⟩ S2 => ?_⟩
    subst e1 e2
    clear S
    have S := S2
    clear S2
    walk_at "w"
    refine ⟨fun hb => ?_, fun hb => ?_⟩
    · have hb : ((F.rows.getD k []).any fun l => decide (l ∈ st1.vs)) = false := by simpa using hb
      have hstep : stepA F lit st1 k = match moveTo F st1 lit k with
          | some c => { st1 with sent := fun l => if l = c then adds (st1.sent c) k else if l = -lit then (st1.sent (-lit)).erase k else st1.sent l }
          | none => match lastS F st1 lit k with
            | some w => { st1 with q := st1.q ++ [w] }
            | none => st1 := by unfold stepA; rw [if_neg (by rw [hb]; simp)]
      have topO := S.top
      walk_at "w"
      refine T_sat S So A_cl (fun f ok => ok.cl) rfl ?_
      walk_at "w"
      obtain ⟨ocl, mcl, Lcl⟩ := So.has .cl trivial
      refine T_item_list Lcl (S.gn mcl) (by omega) (by omega) (x := .ref (adr (.row k))) (by simp [hk1]) ?_
      obtain ⟨orow, mrow, vrow, Lrow, irow⟩ := So.has (.row k) hk1
      refine T_iter_list R Lrow (S.gn mrow) fun I2 h2 it2 => ?_
      refine ForAt.mk3 ["other_sentinel"] S it2 (fun j m N' X' => N' = N2 ∧ (r, o') ∈ X' ∧ (∃ ov, m "other_sentinel" = some ov ∧ OV ov (((F.rows.getD k []).take j).filter fun c => decide (c ≠ -lit) && decide ((k : Int) ∈ st1.sent c)).getLast?) ∧
          ∀ c ∈ (F.rows.getD k []).take j, (decide (c ≠ -lit) && (!decide ((k : Int) ∈ st1.sent c) && !st1.vset c.natAbs)) = false) ⟨rfl, hrX, ⟨_, rfl, rfl⟩, fun c hc => by simp at hc⟩
        (fun j m N' X' hI p hp => by rw [List.mem_singleton.mp hp, hI.1]; exact .inl mrow) (fun j v l2 N' X' H2 h hk2 hj hP2 hI2 hl2 S => ?_) (fun l2 N' X' h hI2 hl2 S9 => ?_)
      · obtain ⟨rfl, hrX, ⟨ov, hov, hOV⟩, hcand⟩ := hI2
        obtain ⟨c, tc, hc, rfl⟩ := ints_of_at irow hP2
        have hn1 : look l2 "self" = some (.ref (adr .inst)) := (hl2 "self" (by decide) (by decide)).trans hn1
        have hn2 : look l2 "lit" = some (.int lit tl) := (hl2 "lit" (by decide) (by decide)).trans hn2
        have hn3 : look l2 "cls" = some (.int (k : Int) ta) := (hl2 "cls" (by decide) (by decide))
        have hlc : IsLit F c := hrow k c (List.mem_of_getElem? hc)
        have hlook : ∀ {l3 : List (Str × Value)} {y : Str}, (look l3 y = look l2 y) → y ≠ "newlit" → y ∉ (["other_sentinel"] : List Str) → look l3 y = look (("other_sentinel", Value.none) :: ("cls", Value.int (k : Int) ta) :: l') y := fun e h1 h2 => e.trans (hl2 _ h1 h2)
        walk_at "w"
        have htk := take_succ_of hc
        have hcs : ∀ {b : Bool}, (decide (c ≠ -lit) && (!decide ((k : Int) ∈ st1.sent c) && !st1.vset c.natAbs)) = false → ∀ x ∈ (F.rows.getD k []).take (j + 1), (decide (x ≠ -lit) && (!decide ((k : Int) ∈ st1.sent x) && !st1.vset x.natAbs)) = false := fun {b} hx x hm => by
          rw [htk] at hm
          rcases List.mem_append.mp hm with q | q
          · exact hcand x q
          · rw [List.mem_singleton.mp q]; exact hx
        refine ⟨fun hb1 => ?_, fun hb1 => ?_⟩
        · have hne : c ≠ -lit := by simpa using hb1
          walk_at "w"
          refine T_smeth S So K_issent (fun f ok => ok.m2) ?_
          refine CW_K (by k_is) ?_
          walk_at "w"
          refine ⟨S.kin, T_out S (issent_spec (n := n + 3) (R.le (by omega)) S.topN S.ledN So hlc) fun v N3 h ⟨e1, e2⟩ S3 => ?_⟩
          subst e1 e2
          clear S
          have S := S3
          clear S3
          walk_at "w"
          refine ⟨fun hb2 => ?_, fun hb2 => ?_⟩
          · walk_at "w"
            refine ⟨_, _, _, S, fun y h1 h2 => hlook (by simp only [look]; rw [if_neg (fun e => h2 (by rw [e]; exact .head _)), if_neg h1]) h1 h2, rfl, hrX, ⟨_, rfl, ?_⟩, hcs (b := true) (by rw [hb2]; simp)⟩
            rw [htk, lastS_snoc, if_pos (by rw [hb2]; simp [hne])]
            exact ⟨_, rfl⟩
          · walk_at "w"
            refine T_sat S So A_vset (fun f ok => ok.vset) rfl ?_
            walk_at "w"
            have habs2 : (if c < 0 then -c else c) = (c.natAbs : Int) := by split <;> omega
            rw [habs2]
            obtain ⟨ovt, mvt, Bvt⟩ := So.has .vset trivial
            have Bvt : LsO (((List.range (F.many + 1)).map st1.vset).map Value.bool) ovt := Bvt
            have hnm2 : c.natAbs < F.many + 1 := by have := hlc.2; omega
            refine T_item_list (x := .bool (st1.vset c.natAbs)) Bvt (S.gn mvt) (by omega) (by omega) (by simp [hnm2]) ?_
            walk_at "w"
            refine ⟨fun hb3 => ?_, fun hb3 => ?_⟩
            · have hb3 : st1.vset c.natAbs = false := by simpa using hb3
              have hb2 : (k : Int) ∉ st1.sent c := of_decide_eq_false hb2
              have hmv : moveTo F st1 lit k = some c := find_at hc (by simp [hne, hb2, hb3]) hcand
              rw [hmv] at hstep
              walk_at "w"
              refine T_sat S So A_sd (fun f ok => ok.sd) rfl ?_
              walk_at "w"
              obtain ⟨osd, msd, f, m, hm2, Dsd, hsd⟩ := So.has .sd trivial
              refine T_item_int Dsd (S.gn msd) (hsd (-lit) hnl) ?_
              obtain ⟨ose, mse, Dse⟩ := So.has (.sent (-lit)) hnl
              refine T_m_remove Dse (S.gn mse) ?_
              walk_at "w"
              refine T_set_remove Dse (S.gn mse) hkm (fun h o6 D6 ch => ?_)
              replace S := S.updN mse ch
              have So6 : Sol κ.w F (Mine.upd N3 (adr (.sent (-lit))) o6) adr { st1 with sent := fun l => if l = -lit then (st1.sent (-lit)).erase k else st1.sent l } := So.upd (.sent (-lit)) hnl (by intro e; cases e) (fun r hr => by cases r <;> exact hr) (by show SetO κ.w _ o6; dsimp only; rw [if_pos rfl]; exact D6) (fun r o _ hr hp => by
                cases r <;> first | exact hp | (rename_i l; unfold P at hp ⊢; dsimp only at hp ⊢; rw [if_neg (fun e => hr (congrArg Role.sent e))]; exact hp)) rfl
              clear Dse mse D6 ch msd Dsd hsd
              walk_at "w"
              refine T_sat S So6 A_sd (fun f ok => ok.sd) rfl ?_
              walk_at "w"
              obtain ⟨osd, msd, f, m, hm2, Dsd, hsd⟩ := So6.has .sd trivial
              refine T_item_int Dsd (S.gn msd) (hsd c hlc) ?_
              obtain ⟨ose, mse, Dse⟩ := So6.has (.sent c) hlc
              have Dse : SetO κ.w (if c = -lit then (st1.sent (-lit)).erase k else st1.sent c) ose := Dse
              rw [if_neg hne] at Dse
              refine T_m_add Dse (S.gn mse) ?_
              walk_at "w"
              refine T_set_add Dse (S.gn mse) (by have := hsl c hlc; omega) (fun h o7 D7 ch => ?_)
              replace S := S.updN mse ch
              replace D7 := SetO.adds D7
              have So7 : Sol κ.w F (Mine.upd (Mine.upd N3 (adr (.sent (-lit))) o6) (adr (.sent c)) o7) adr (stepA F lit st1 k) := by
                rw [hstep]
                exact So6.upd (.sent c) hlc (by intro e; cases e) (fun r hr => by cases r <;> exact hr) (by show SetO κ.w _ o7; dsimp only; rw [if_pos rfl]; exact D7) (fun r o _ hr hp => by
                  cases r <;> first | exact hp | (rename_i l; unfold P at hp ⊢; dsimp only at hp ⊢; rw [if_neg (fun e => hr (congrArg Role.sent e))]; exact hp)) rfl
              clear So6 So
              replace S := S.back hk2 topO
              walk_at "w"
              refine ⟨fun hb4 => absurd hb4 (by simp), fun _ => ?_⟩
              walk_at "w"
              refine ⟨_, _, _, S, fun y h1 h2 => ?_, hrX, _, hnext.symm, So7, hM2⟩
              have e1 : y ≠ "other_sentinel" := fun e => h2 (by rw [e]; exact .head _)
              have e2 : y ≠ "newlit" := fun e => h2 (by rw [e]; exact .tail _ (.head _))
              simp only [look]
              rw [if_neg e1, if_neg e2, hl2 y e2 (by simpa using e1)]
              simp only [look]
              rw [if_neg e1, if_neg h1]
              exact hl' y h1 h2
            · have hb3 : st1.vset c.natAbs = true := by simpa using hb3
              walk_at "w"
              refine ⟨_, _, _, S, fun y h1 h2 => hlook (by simp only [look]; rw [if_neg h1]) h1 h2, rfl, hrX, ⟨ov, by exact hov, ?_⟩, hcs (b := true) (by rw [hb3]; simp)⟩
              rw [htk, lastS_snoc, if_neg (by rw [hb2]; simp)]
              exact hOV
        · have hne : c = -lit := by simpa using hb1
          walk_at "w"
          refine ⟨_, _, _, S, fun y h1 h2 => hlook (by simp only [look]; rw [if_neg h1]) h1 h2, rfl, hrX, ⟨ov, by exact hov, ?_⟩, hcs (b := true) (by rw [hne]; simp)⟩
          rw [htk, lastS_snoc, if_neg (by rw [hne]; simp)]
          exact hOV
      · obtain ⟨rfl, hrX, ⟨ov, hov, hOV⟩, hcand⟩ := hI2
        have S := S9
        have hn1 : look l2 "other_sentinel" = some ov := hov
        have hlen2 : (F.rows.getD k []).take vrow.length = F.rows.getD k [] := List.take_of_length_le (by have := irow.length; omega)
        rw [hlen2] at hOV hcand
        have hmv : moveTo F st1 lit k = none := List.find?_eq_none.mpr fun c hc => by rw [hcand c hc]; simp
        rw [hmv] at hstep
        have hOV : OV ov (lastS F st1 lit k) := hOV
        have hlk : ∀ y : Str, y ≠ "cls" → y ∉ (["other_sentinel", "newlit"] : List Str) → look l2 y = look l' y := fun y h1 h2 => by
          have e1 : y ≠ "other_sentinel" := fun e => h2 (by rw [e]; exact .head _)
          have e2 : y ≠ "newlit" := fun e => h2 (by rw [e]; exact .tail _ (.head _))
          rw [hl2 y e2 (by simpa using e1)]
          simp only [look]
          rw [if_neg e1, if_neg h1]
        cases hls : lastS F st1 lit k with
        | none =>
          rw [hls] at hOV hstep
          have hOV : ov = .none := hOV
          subst hOV
          walk_at "w"
          refine ⟨fun hb4 => absurd hb4 (by simp), fun _ => ?_⟩
          walk_at "w"
          exact ⟨_, _, _, S, fun y h1 h2 => (hlk y h1 h2).trans (hl' y h1 h2), hrX, _, hnext.symm, by rw [hstep]; exact So, hM2⟩
        | some w2 =>
          rw [hls] at hOV hstep
          obtain ⟨tw, rfl⟩ := hOV
          have hwl : IsLit F w2 := by
            have := List.mem_of_getLast? hls
            exact hrow k w2 (List.mem_filter.mp this).1
          walk_at "w"
          refine ⟨fun _ => ?_, fun hb4 => absurd hb4 (by have := hwl.1; simpa using this)⟩
          have hn2 := hn1
          have hn1 : look l2 "self" = some (.ref (adr .inst)) := (hlk "self" (by decide) (by decide)).trans (hl' "self" (by decide) (by decide))
          walk_at "w"
          refine T_sat S So A_q (fun f ok => ok.q) rfl ?_
          obtain ⟨oq, mq, vq, Lq, iq⟩ := So.has .q trivial
          refine T_m_append Lq (S.gn mq) ?_
          walk_at "w"
          refine T_append Lq (S.gn mq) (by have := iq.length; omega) (fun h o8 L8 ch => ?_)
          replace S := S.updN mq ch
          have So8 : Sol κ.w F (Mine.upd N' (adr .q) o8) adr { st1 with q := st1.q ++ [w2] } := So.upd .q trivial (by decide) (fun r hr => by cases r <;> exact hr) ⟨_, L8, ints_app iq (.cons _ _ .nil)⟩ (fun r o _ hr hp => by cases r <;> first | exact hp | exact absurd rfl hr) rfl
          walk_at "w"
          exact ⟨_, _, _, S, fun y h1 h2 => (hlk y h1 h2).trans (hl' y h1 h2), hrX, _, hnext.symm, by rw [hstep]; exact So8, hM2⟩
    · have hb : ((F.rows.getD k []).any fun l => decide (l ∈ st1.vs)) = true := by simpa using hb
      have hst : stepA F lit st1 k = st1 := by unfold stepA; rw [if_pos hb]
      rw [hst] at hnext hM2
      walk_at "w"
      exact ⟨_, _, _, S, fun y h1 h2 => by simp only [look, if_neg h1]; exact hl' y h1 h2, hrX, st1, hnext.symm, So, hM2⟩
  · obtain ⟨_, st1, rfl, So, _⟩ := hI
    have htake : (js.map (·.1)).take (vals js).length = js.map (·.1) := by rw [List.take_of_length_le (by simp [vals])]
    rw [htake] at So
    walk_at "w"
    exact ⟨_, _, _, S, rfl, _, hp, So⟩
end
end Mine
end
section
open PySem PySem.W PySem.Calls PyProof.Rows
set_option Elab.async false
set_option maxRecDepth 100000
set_option linter.all false
namespace Mine

set_option hygiene false in
local macro_rules | `(tactic| walk_at "e") => `(tactic| ((with_reducible show T _ (eval _ _) _ _); first
  | ((with_reducible show T _ (eval (Expr.Name _ _) _) _ _); first
    | ((with_reducible show T _ (eval (Expr.Name "len" _) _) _ _); refine N_len S (by k_is) ?_)
    | ((with_reducible show T _ (eval (Expr.Name "abs" _) _) _ _); refine N_abs S (by k_is) ?_)
    | ((with_reducible show T _ (eval (Expr.Name "sorted" _) _) _ _); refine N_sorted S (by k_is) ?_)
    | ((with_reducible show T _ (eval (Expr.Name "list" _) _) _ _); refine N_list S (by k_is) ?_)
    | ((with_reducible show T _ (eval (Expr.Name "range" _) _) _ _); refine N_range S (by k_is) ?_)
    | ((with_reducible show T _ (eval (Expr.Name "set" _) _) _ _); refine N_set S (by k_is) ?_)
    | ((with_reducible show T _ (eval (Expr.Name "enumerate" _) _) _ _); refine N_enumerate S (by k_is) ?_)
    | refine T_loc S (by first | rfl | exact hn1 | exact hn2 | exact hn3 | exact hn4 | exact hn5) ?_
    | refine T_glob S (by k_is) ?_)
  | ((with_reducible show T _ (eval (Expr.Constant (Const.int _) _ _) _) _ _); refine T_int (fun t => ?_))
  | ((with_reducible show T _ (eval (Expr.Attribute _ _ _) _) _ _); refine T_attr ?_)
  | ((with_reducible show T _ (eval (Expr.Subscript _ _ _) _) _ _); refine T_item ?_)
  | ((with_reducible show T _ (eval (Expr.Call (Expr.Attribute _ _ _) _ [] _) _) _ _); refine T_Method ?_)
  | ((with_reducible show T _ (eval (Expr.Call _ _ [] _) _) _ _); refine T_Call ?_)
  | ((with_reducible show T _ (eval (Expr.BinOp _ _ _ _) _) _ _); refine T_binop ?_)
  | ((with_reducible show T _ (eval (Expr.UnaryOp _ _ _) _) _ _); refine T_unop ?_)
  | ((with_reducible show T _ (eval (Expr.Compare _ _ _ _) _) _ _); refine T_cmp ?_)
  | ((with_reducible show T _ (eval (Expr.Constant Const.none _ _) _) _ _); refine T_none ?_)
  | ((with_reducible show T _ (eval (Expr.Constant (Const.bool _) _ _) _) _ _); refine T_bool ?_)
  | ((with_reducible show T _ (eval (Expr.Constant (Const.str _) _ _) _) _ _); refine T_str (fun t => ?_))
  | ((with_reducible show T _ (eval (Expr.Dict [] [] _) _) _ _); refine T_dict0 (fun a h c => ?_))
  | ((with_reducible show T _ (eval (Expr.List _ _) _) _ _); refine T_list ?_)
  | ((with_reducible show T _ (eval (Expr.Tuple _ _ _) _) _ _); refine T_tuple ?_)
  | ((with_reducible show T _ (eval (Expr.BoolOp BoolOp.Or [_, _] _) _) _ _); refine T_or2 ?_)
  | ((with_reducible show T _ (eval (Expr.IfExp _ _ _ _) _) _ _); refine T_ifexp ?_)))
set_option hygiene false in
local macro_rules | `(tactic| walk_at "s") => `(tactic| first
  | ((with_reducible show T _ (execs (_ :: _) _) _ _); refine T_seq ?_)
  | ((with_reducible show T _ (execs [] _) _ _); refine T_nil ?_)
  | ((with_reducible show T _ (exec _ _) _ _); first
    | ((with_reducible show T _ (exec (Stmt.Assign [Expr.Name _ _] _ _) _) _ _); refine T_assign ?_)
    | ((with_reducible show T _ (exec (Stmt.If _ _ _ _) _) _ _); refine T_if ?_)
    | ((with_reducible show T _ (exec (Stmt.Return (some _) _) _) _ _); refine T_return ?_)
    | ((with_reducible show T _ (exec (Stmt.Return none _) _) _ _); refine T_return0 ?_)
    | ((with_reducible show T _ (exec (Stmt.Expr _ _) _) _ _); refine T_expr' ?_)
    | ((with_reducible show T _ (exec (Stmt.Assign [Expr.Attribute _ _ _] _ _) _) _ _); refine T_setattr_stmt ?_)
    | ((with_reducible show T _ (exec (Stmt.Assign [Expr.Subscript _ _ _] _ _) _) _ _); refine T_setitem_stmt ?_)
    | ((with_reducible show T _ (exec (Stmt.For (Expr.Name _ _) _ _ [] _) _) _ _); refine T_for ?_)
    | ((with_reducible show T _ (exec (Stmt.AugAssign (Expr.Name _ _) _ _ _) _) _ _); refine T_aug_name ?_)
    | ((with_reducible show T _ (exec (Stmt.AugAssign (Expr.Subscript _ _ _) _ _ _) _) _ _); refine T_aug_item ?_)
    | ((with_reducible show T _ (exec (Stmt.Pass _) _) _ _); refine T_pass ?_)
    | ((with_reducible show T _ (exec (Stmt.Break _) _) _ _); refine T_break ?_)
    | ((with_reducible show T _ (exec (Stmt.Continue _) _) _ _); refine T_continue ?_))
  | ((with_reducible show T _ (storeName _ _ _) _ _); refine T_store S (fun h S => ?_))
  | ((with_reducible show T _ (isTrue _ _ _) _ _); first
    | ((with_reducible show T _ (isTrue (Expr.Compare _ _ _ _) _ _) _ _); refine T_isTrue_cmp ?_)
    | ((with_reducible show T _ (isTrue (Expr.UnaryOp UnaryOp.Not _ _) _ _) _ _); refine T_isTrue_not ?_)
    | ((with_reducible show T _ (isTrue (Expr.BoolOp BoolOp.Or [_, _] _) _ _) _ _); refine T_isTrue_or2 ?_)
    | ((with_reducible show T _ (isTrue (Expr.BoolOp BoolOp.And [_, _] _) _ _) _ _); refine T_isTrue_and2 ?_)
    | ((with_reducible show T _ (isTrue (Expr.BoolOp BoolOp.And [_, _, _] _) _ _) _ _); refine T_isTrue_and3 ?_)
    | (refine T_isTrue_val ?_))
  | ((with_reducible show T _ (truthy (Value.bool _)) _ _); refine T_truthy_bool ?_)
  | ((with_reducible show T _ (truthy (Value.int _ _)) _ _); refine T_truthy_int ?_)
  | ((with_reducible show T _ (truthy Value.none) _ _); refine T_truthy_none ?_)
  | ((with_reducible show T _ (PySem.call (Value.builtin "abs") ([] ++ [Value.int _ _])) _ _); refine T_abs (fun t => ?_))
  | ((with_reducible show Args _ _ (_ :: _) _ _); refine Args_cons ?_)
  | ((with_reducible show Args _ _ [] _ _); refine Args_nil ?_)
  | ((with_reducible show T _ (callWith _ (Value.builtin _) _ _ _) _ _); refine CW_bi ?_)
  | ((with_reducible show T _ (callWith _ (Value.type _) _ _ _) _ _); refine CW_ty ?_)
  | ((with_reducible show T _ (binaryOp Operator.Add (Value.int _ _) (Value.int _ _)) _ _); refine T_add (fun t => ?_))
  | ((with_reducible show T _ (binaryOp Operator.Sub (Value.int _ _) (Value.int _ _)) _ _); refine T_sub (fun t => ?_))
  | ((with_reducible show T _ (unaryOp UnaryOp.USub (Value.int _ _)) _ _); refine T_neg (fun t => ?_))
  | ((with_reducible show T _ (compareOp CmpOp.Eq (Value.int _ _) (Value.int _ _)) _ _); refine T_eq ?_)
  | ((with_reducible show T _ (compareOp CmpOp.NotEq (Value.int _ _) (Value.int _ _)) _ _); refine T_ne ?_)
  | ((with_reducible show T _ (compareOp CmpOp.Lt (Value.int _ _) (Value.int _ _)) _ _); refine T_lt ?_)
  | ((with_reducible show T _ (compareOp CmpOp.Gt (Value.int _ _) (Value.int _ _)) _ _); refine T_gt ?_)
  | ((with_reducible show T _ (compareOp CmpOp.Is _ Value.none) _ _); refine T_is_none ?_)
  | ((with_reducible show T _ (compareOp CmpOp.IsNot _ Value.none) _ _); refine T_isnot_none ?_)
  | walk_at "e")
set_option hygiene false in
local macro_rules | `(tactic| walk_at "w") => `(tactic| repeat (walk_at "s"))
theorem fill_frag7 : (PySem.Challenge.rw_at6042_01, Mine.hd.heap_39) = (PySem.Challenge.rw_at6042_01, Mine.hd.heap_39) := by k_fill; rfl
theorem DictOk.setBad {adr : Role → Addr} {bad b : Bool} {f : Str → Option Value} (D : DictOk adr bad f) : DictOk adr b (fun y => if y = "is_unsatisfied" then some (.bool b) else f y) := by
  constructor <;> first
    | rfl
    | exact D.vs | exact D.q | exact D.sd | exact D.vset | exact D.cl | exact D.hp | exact D.sc | exact D.lv
    | exact D.m1 | exact D.m2 | exact D.m3 | exact D.m4 | exact D.m5 | exact D.m6 | exact D.m7 | exact D.m8 | exact D.m9 | exact D.m10 | exact D.m11
def readr (adr : Role → Addr) (a : Addr) : Role → Addr := fun r => if r = .q then a else adr r
theorem DictOk.setQ {adr : Role → Addr} {bad : Bool} {f : Str → Option Value} {a : Addr} (D : DictOk adr bad f) : DictOk (readr adr a) bad (fun y => if y = "_unit_prop_queue" then some (.ref a) else f y) := by
  constructor <;> first
    | rfl
    | exact D.vs | exact D.bad | exact D.sd | exact D.vset | exact D.cl | exact D.hp | exact D.sc | exact D.lv
    | exact D.m1 | exact D.m2 | exact D.m3 | exact D.m4 | exact D.m5 | exact D.m6 | exact D.m7 | exact D.m8 | exact D.m9 | exact D.m10 | exact D.m11
section
variable {κ : Kx} {F : Fix} {h H : Heap} {L : Addr} {l : List (Str × Value)} {N X : Ledger} {adr : Role → Addr} {st : SS} {n : Nat}
theorem T_setBad {b : Bool} {Q : Unit → Heap → Prop} (S : St κ.w H L l N X h) (So : Sol κ.w F N adr st) (q : ∀ h' N', St κ.w H L l N' X h' → Sol κ.w F N' adr { st with bad := b } → Q () h') :
    T κ (setAttr (.ref (adr .inst)) "is_unsatisfied" (.bool b)) Q h := by
  obtain ⟨o1, m1, rfl⟩ := So.has .inst trivial
  obtain ⟨o2, m2, f, n, hn, D, ok⟩ := So.has .dict trivial
  refine T_setAttr S.kin A_bad (S.gn m1) D (S.gn m2) (by omega) fun h' o' D' c => ?_
  refine q h' _ (S.updN m2 c) (So.upd .dict trivial (by decide) (fun r hr => by cases r <;> exact hr) ⟨_, n, hn, ?_, ok.setBad⟩ (fun r o _ hr hp => by cases r <;> first | exact hp | exact absurd rfl hr) rfl)
  rw [ok.bad] at D'; exact D'
theorem T_newQ {a : Addr} {o : Obj} {Q : Unit → Heap → Prop} (S : St κ.w H L l N ((a, o) :: X) h) (So : Sol κ.w F N adr st) (ho : LsO [] o) (q : ∀ h' N', St κ.w H L l N' [] h' → Sol κ.w F N' (readr adr a) { st with q := [] } → Q () h') :
    T κ (setAttr (.ref (adr .inst)) "_unit_prop_queue" (.ref a)) Q h := by
  obtain ⟨o1, m1, rfl⟩ := So.has .inst trivial
  obtain ⟨o2, m2, f, n, hn, D, ok⟩ := So.has .dict trivial
  refine T_setAttr S.kin A_q (S.gn m1) D (S.gn m2) (by omega) fun h' o' D' c => ?_
  have offN : ∀ p ∈ N, p.1 ≠ a := fun p hp e => S.off _ (.head _) p hp e.symm
  have hda : adr .dict ≠ a := offN _ m2
  have S2 := S.updN m2 c
  have S3 : St κ.w H L l ((a, o) :: Mine.upd N (adr .dict) o') [] h' := by
    refine ⟨S2.top, S2.ns, S2.keep, S2.offL, fun p hp => ?_, fun p hp => (nomatch hp), fun p hp => (nomatch hp)⟩
    rcases List.mem_cons.mp hp with rfl | hp
    · exact S2.x _ (.head _)
    · exact S2.n p hp
  rw [ok.q] at D'
  have hne : ∀ {r : Role}, r ≠ .q → readr adr a r = adr r := fun h => if_neg h
  have hadr : ∀ {r : Role}, live F st r → adr r ≠ a := fun {r} hr => by obtain ⟨o, hm, _⟩ := So.has r hr; exact offN _ hm
  have hlv : ∀ {r : Role}, live F { st with q := [] } r → live F st r := fun {r} hr => by cases r <;> exact hr
  refine q h' _ S3 ⟨fun r hr => ?_, fun r1 r2 h1 h2 e => ?_, ?_, So.heap⟩
  · by_cases e : r = .q
    · subst e; exact ⟨o, .head _, [], ho, .nil⟩
    · rw [hne e]
      by_cases e2 : r = .dict
      · subst e2; exact ⟨o', .tail _ (mem_upd_self m2), _, n, hn, D', ok.setQ⟩
      · obtain ⟨o3, m3, hp⟩ := So.has r (hlv hr)
        refine ⟨o3, .tail _ (mem_upd_of_ne m3 fun q => e2 (So.inj _ _ (hlv hr) trivial q)), ?_⟩
        cases r <;> first | exact hp | exact absurd rfl e | exact absurd rfl e2
  · by_cases e1 : r1 = .q
    · by_cases e2 : r2 = .q
      · rw [e1, e2]
      · rw [e1, hne e2] at e; exact absurd e.symm (hadr (hlv h2))
    · by_cases e2 : r2 = .q
      · rw [e2, hne e1] at e; exact absurd e (hadr (hlv h1))
      · rw [hne e1, hne e2] at e; exact So.inj _ _ (hlv h1) (hlv h2) e
  · obtain ⟨vs, o4, m4, L4, hlen, ht⟩ := So.hp
    refine ⟨vs, o4, ?_, L4, hlen, fun i v hv => ?_⟩
    · rw [hne (by decide)]
      exact .tail _ (mem_upd_of_ne m4 fun q => by have := So.inj .hp .dict trivial trivial q; cases this)
    · obtain ⟨T, oT, e1, e2, e3, e4⟩ := ht i v hv
      refine ⟨T, oT, e1, .tail _ (mem_upd_of_ne e2 (Ne.symm (e4 .dict trivial))), e3, fun r hr => ?_⟩
      by_cases e : r = .q
      · rw [e]; exact fun q => offN _ e2 q.symm
      · rw [hne e]; exact e4 r (hlv hr)
structure Fit (F : Fix) (st : SS) : Prop where
  lev : st.lev ≠ []
  vs : st.vs.length ≤ 900
  set : ∀ ls lv, st.lev = ls ++ [lv] → lv.set.length ≤ 900
  sent : ∀ l, IsLit F l → (st.sent l).length ≤ 100
  q : st.q.length ≤ 10000
  range : ∀ l, IsLit F l → ∀ i ∈ st.sent l, 0 ≤ i ∧ i < F.rows.length
  lit : ∀ l ∈ st.q, IsLit F l
structure Ok (F : Fix) : Prop where
  row : ∀ i, ∀ c ∈ F.rows.getD i [], IsLit F c
  many : F.many ≤ 100
  rows : F.rows.length ≤ 100
def nextS (F : Fix) (st : SS) (q : List Int) (lit : Int) (ls : List Lev) (lv : Lev) (js : List Int) : SS := (js.map Int.toNat).foldl (stepA F lit) (begin_ { st with q := q } ls lv lit)
theorem ints_snoc {vs : List Value} {ns : List Int} {a : Int} (x : IntsAre vs (ns ++ [a])) : ∃ us t, vs = us ++ [.int a t] ∧ IntsAre us ns := by
  induction ns generalizing vs with
  | nil =>
    cases x with
    | cons _ t y => cases y; exact ⟨[], t, rfl, .nil⟩
  | cons b r ih =>
    cases x with
    | cons _ t y =>
      obtain ⟨us, t', rfl, z⟩ := ih y
      exact ⟨_ :: us, t', rfl, .cons _ t z⟩
theorem snoc_of {α : Type} {l : List α} (h : l ≠ []) : ∃ p y, l = p ++ [y] := ⟨l.dropLast, l.getLast h, (List.dropLast_concat_getLast h).symm⟩
set_option maxHeartbeats 4000000 in
theorem uprop_spec (R : Room κ (n + 8)) (top : TopIn κ.w (hid h N)) (led : Led h N) (So : Sol κ.w F N adr st) (ok : Ok F) (J : SS → Prop) (μ ν : SS → Nat) (hfit : ∀ st, J st → Fit F st)
    (hstep : ∀ st q lit ls lv js, J st → st.q = q ++ [lit] → st.lev = ls ++ [lv] → -lit ∉ st.vs → js.Perm (st.sent (-lit)) → J (nextS F st q lit ls lv js) ∧ (μ (nextS F st q lit ls lv js) < μ st ∨ (μ (nextS F st q lit ls lv js) = μ st ∧ ν (nextS F st q lit ls lv js) < ν st)))
    (hJ : J st) :
    C κ (.call (.ref 143) ⟨[.ref (adr .inst)], []⟩) (Out h N fun v N' => ∃ st1 adr', J st1 ∧ (∀ r, r ≠ .q → adr' r = adr r) ∧ ((st1.q = [] ∧ Sol κ.w F N' adr' st1 ∧ v = .bool (!st.q.isEmpty)) ∨ (∃ q lit, st1.q = q ++ [lit] ∧ -lit ∈ st1.vs ∧ Sol κ.w F N' adr' { st1 with q := [], bad := true } ∧ v = .bool false))) h := by
  refine C_def [("self", .ref (adr .inst))] _ (n := n + 7) R top led (by k_is) (by k_is) (fun s _ => BindsTo.of_eq rfl) (locs rfl) rfl (fun κ L h₁ ew S R => ?_)
  clear led
  rw [← ew] at So top ⊢
  generalize hid h N = G at S top ⊢
  walk_at "w"
  refine T_sat S So A_q (fun f ok => ok.q) rfl ?_
  walk_at "w"
  obtain ⟨oq, mq, vq, Lq, iq⟩ := So.has .q trivial
  have hf := hfit st hJ
  have hvq : vq.length = st.q.length := iq.length
  refine T_len_list Lq (S.gn mq) (by have := hf.q; omega) (fun t => ?_)
  walk_at "w"
  have hres : (decide ((0 : Int) < (vq.length : Int))) = !st.q.isEmpty := by
    rw [hvq]; cases st.q <;> simp
  rw [hres] at S
  clear hres mq Lq iq hvq
  refine T_while2 (fun a b h => ∃ st1 N' l', St κ.w G L l' N' [] h ∧ look l' "self" = some (.ref (adr .inst)) ∧ look l' "result" = some (.bool (!st.q.isEmpty)) ∧ Sol κ.w F N' adr st1 ∧ J st1 ∧ μ st1 = a ∧ ν st1 = b) (μ st) (ν st)
    ⟨st, _, _, S, rfl, rfl, So, hJ, rfl, rfl⟩ (fun a b h z => ?_)
  clear S So hf
  obtain ⟨st1, N', l', S, hn1, hn2, So, hJ1, rfl, rfl⟩ := z
  have hf := hfit st1 hJ1
  walk_at "w"
  refine T_sat S So A_q (fun f ok => ok.q) rfl ?_
  obtain ⟨oq, mq, vq, Lq, iq⟩ := So.has .q trivial
  have hvq : vq.length = st1.q.length := iq.length
  refine T_truthy_list (S.gn mq) Lq (by have := hf.q; omega) ?_
  refine ⟨fun hb => ?_, fun hb => ?_⟩
  · have hqne : st1.q ≠ [] := fun e => by rw [e] at hvq; have : vq = [] := List.length_eq_zero_iff.mp hvq; rw [this] at hb; simp at hb
    obtain ⟨q, lit, hq⟩ := snoc_of hqne
    rw [hq] at iq
    obtain ⟨us, tl, rfl, iu⟩ := ints_snoc iq
    have hlit : IsLit F lit := hf.lit lit (by rw [hq]; simp)
    have hnl : IsLit F (-lit) := ⟨by have := hlit.1; omega, by have := hlit.2; omega⟩
    walk_at "w"
    refine T_sat S So A_q (fun f ok => ok.q) rfl ?_
    refine T_m_pop Lq (S.gn mq) ?_
    walk_at "w"
    refine T_pop Lq (S.gn mq) (by have := hf.q; simp at hvq; omega) (fun h o2 D2 c => ?_)
    replace S := S.updN mq c
    have So2 : Sol κ.w F (Mine.upd N' (adr .q) o2) adr { st1 with q := q } := So.upd .q trivial (by decide) (fun r hr => by cases r <;> exact hr) ⟨_, D2, iu⟩ (fun r o _ hr hp => by cases r <;> first | exact hp | exact absurd rfl hr) rfl
    clear So mq Lq c D2
    walk_at "w"
    refine T_sat S So2 A_vs (fun f ok => ok.vs) rfl ?_
    obtain ⟨ovs, mvs, Dvs⟩ := So2.has .vs trivial
    refine T_in_set Dvs (S.gn mvs) ?_
    walk_at "w"
    refine ⟨fun hb2 => ?_, fun hb2 => ?_⟩
    · have hb2 : -lit ∈ st1.vs := of_decide_eq_true hb2
      walk_at "w"
      refine T_setBad S So2 (fun h N3 S So3 => ?_)
      walk_at "w"
      refine ⟨by decide, fun a h c => ?_⟩
      replace S := S.new c
      walk_at "w"
      refine T_newQ S So3 ⟨0, rfl⟩ (fun h N4 S So4 => ?_)
      walk_at "w"
      exact ⟨_, _, _, S, st1, _, hJ1, fun r hr => if_neg hr, .inr ⟨q, lit, hq, hb2, So4, rfl⟩⟩
    · have hb2 : -lit ∉ st1.vs := of_decide_eq_false hb2
      walk_at "w"
      refine T_smeth S So2 K_assign (fun f ok => ok.m3) ?_
      refine CW_K (by k_is) ?_
      walk_at "w"
      obtain ⟨ls, lv, hlev⟩ := snoc_of hf.lev
      refine ⟨S.kin, T_out S (assign_spec (n := n + 1) (R.le (by omega)) S.topN S.ledN So2 hlit ok.row (ls := ls) (lv := lv) hlev hf.vs (hf.set ls lv hlev) hf.sent (by have := hf.q; rw [hq] at this; simp at this; show q.length ≤ _; omega) ok.many ok.rows hf.range) fun v N3 h ⟨e1, js, hjs, So3⟩ S => ?_⟩
      subst e1
      obtain ⟨hJ2, hμ⟩ := hstep st1 q lit ls lv js hJ1 hq hlev hb2 hjs
      walk_at "w"
      exact ⟨_, _, hμ, nextS F st1 q lit ls lv js, _, _, S, by exact hn1, by exact hn2, So3, hJ2, rfl, rfl⟩
  · walk_at "w"
    have hq0 : st1.q = [] := by
      have : vq = [] := by cases vq with
        | nil => rfl
        | cons => simp at hb
      rw [this] at hvq; exact List.length_eq_zero_iff.mp hvq.symm
    exact ⟨_, _, _, S, st1, adr, hJ1, fun _ _ => rfl, .inl ⟨hq0, So, rfl⟩⟩
end
end Mine
end
section
open PySem PySem.W PySem.Calls PyProof.Rows
set_option Elab.async false
set_option maxRecDepth 100000
set_option linter.all false
namespace Mine

set_option hygiene false in
local macro_rules | `(tactic| walk_at "e") => `(tactic| ((with_reducible show T _ (eval _ _) _ _); first
  | ((with_reducible show T _ (eval (Expr.Name _ _) _) _ _); first
    | ((with_reducible show T _ (eval (Expr.Name "len" _) _) _ _); refine N_len S (by k_is) ?_)
    | ((with_reducible show T _ (eval (Expr.Name "abs" _) _) _ _); refine N_abs S (by k_is) ?_)
    | ((with_reducible show T _ (eval (Expr.Name "sorted" _) _) _ _); refine N_sorted S (by k_is) ?_)
    | ((with_reducible show T _ (eval (Expr.Name "list" _) _) _ _); refine N_list S (by k_is) ?_)
    | ((with_reducible show T _ (eval (Expr.Name "range" _) _) _ _); refine N_range S (by k_is) ?_)
    | ((with_reducible show T _ (eval (Expr.Name "set" _) _) _ _); refine N_set S (by k_is) ?_)
    | ((with_reducible show T _ (eval (Expr.Name "enumerate" _) _) _ _); refine N_enumerate S (by k_is) ?_)
    | refine T_loc S (by first | rfl | exact hn1 | exact hn2 | exact hn3 | exact hn4 | exact hn5) ?_
    | refine T_glob S (by k_is) ?_)
  | ((with_reducible show T _ (eval (Expr.Constant (Const.int _) _ _) _) _ _); refine T_int (fun t => ?_))
  | ((with_reducible show T _ (eval (Expr.Attribute _ _ _) _) _ _); refine T_attr ?_)
  | ((with_reducible show T _ (eval (Expr.Subscript _ _ _) _) _ _); refine T_item ?_)
  | ((with_reducible show T _ (eval (Expr.Call (Expr.Attribute _ _ _) _ [] _) _) _ _); refine T_Method ?_)
  | ((with_reducible show T _ (eval (Expr.Call _ _ [] _) _) _ _); refine T_Call ?_)
  | ((with_reducible show T _ (eval (Expr.BinOp _ _ _ _) _) _ _); refine T_binop ?_)
  | ((with_reducible show T _ (eval (Expr.UnaryOp _ _ _) _) _ _); refine T_unop ?_)
  | ((with_reducible show T _ (eval (Expr.Compare _ _ _ _) _) _ _); refine T_cmp ?_)
  | ((with_reducible show T _ (eval (Expr.Constant Const.none _ _) _) _ _); refine T_none ?_)
  | ((with_reducible show T _ (eval (Expr.Constant (Const.bool _) _ _) _) _ _); refine T_bool ?_)
  | ((with_reducible show T _ (eval (Expr.Constant (Const.str _) _ _) _) _ _); refine T_str (fun t => ?_))
  | ((with_reducible show T _ (eval (Expr.Dict [] [] _) _) _ _); refine T_dict0 (fun a h c => ?_))
  | ((with_reducible show T _ (eval (Expr.List _ _) _) _ _); refine T_list ?_)
  | ((with_reducible show T _ (eval (Expr.Tuple _ _ _) _) _ _); refine T_tuple ?_)
  | ((with_reducible show T _ (eval (Expr.BoolOp BoolOp.Or [_, _] _) _) _ _); refine T_or2 ?_)
  | ((with_reducible show T _ (eval (Expr.IfExp _ _ _ _) _) _ _); refine T_ifexp ?_)))
set_option hygiene false in
local macro_rules | `(tactic| walk_at "s") => `(tactic| first
  | ((with_reducible show T _ (execs (_ :: _) _) _ _); refine T_seq ?_)
  | ((with_reducible show T _ (execs [] _) _ _); refine T_nil ?_)
  | ((with_reducible show T _ (exec _ _) _ _); first
    | ((with_reducible show T _ (exec (Stmt.Assign [Expr.Name _ _] _ _) _) _ _); refine T_assign ?_)
    | ((with_reducible show T _ (exec (Stmt.If _ _ _ _) _) _ _); refine T_if ?_)
    | ((with_reducible show T _ (exec (Stmt.Return (some _) _) _) _ _); refine T_return ?_)
    | ((with_reducible show T _ (exec (Stmt.Return none _) _) _ _); refine T_return0 ?_)
    | ((with_reducible show T _ (exec (Stmt.Expr _ _) _) _ _); refine T_expr' ?_)
    | ((with_reducible show T _ (exec (Stmt.Assign [Expr.Attribute _ _ _] _ _) _) _ _); refine T_setattr_stmt ?_)
    | ((with_reducible show T _ (exec (Stmt.Assign [Expr.Subscript _ _ _] _ _) _) _ _); refine T_setitem_stmt ?_)
    | ((with_reducible show T _ (exec (Stmt.For (Expr.Name _ _) _ _ [] _) _) _ _); refine T_for ?_)
    | ((with_reducible show T _ (exec (Stmt.AugAssign (Expr.Name _ _) _ _ _) _) _ _); refine T_aug_name ?_)
    | ((with_reducible show T _ (exec (Stmt.AugAssign (Expr.Subscript _ _ _) _ _ _) _) _ _); refine T_aug_item ?_)
    | ((with_reducible show T _ (exec (Stmt.Pass _) _) _ _); refine T_pass ?_)
    | ((with_reducible show T _ (exec (Stmt.Break _) _) _ _); refine T_break ?_)
    | ((with_reducible show T _ (exec (Stmt.Continue _) _) _ _); refine T_continue ?_))
  | ((with_reducible show T _ (storeName _ _ _) _ _); refine T_store S (fun h S => ?_))
  | ((with_reducible show T _ (isTrue _ _ _) _ _); first
    | ((with_reducible show T _ (isTrue (Expr.Compare _ _ _ _) _ _) _ _); refine T_isTrue_cmp ?_)
    | ((with_reducible show T _ (isTrue (Expr.UnaryOp UnaryOp.Not _ _) _ _) _ _); refine T_isTrue_not ?_)
    | ((with_reducible show T _ (isTrue (Expr.BoolOp BoolOp.Or [_, _] _) _ _) _ _); refine T_isTrue_or2 ?_)
    | ((with_reducible show T _ (isTrue (Expr.BoolOp BoolOp.And [_, _] _) _ _) _ _); refine T_isTrue_and2 ?_)
    | ((with_reducible show T _ (isTrue (Expr.BoolOp BoolOp.And [_, _, _] _) _ _) _ _); refine T_isTrue_and3 ?_)
    | (refine T_isTrue_val ?_))
  | ((with_reducible show T _ (truthy (Value.bool _)) _ _); refine T_truthy_bool ?_)
  | ((with_reducible show T _ (truthy (Value.int _ _)) _ _); refine T_truthy_int ?_)
  | ((with_reducible show T _ (truthy Value.none) _ _); refine T_truthy_none ?_)
  | ((with_reducible show T _ (PySem.call (Value.builtin "abs") ([] ++ [Value.int _ _])) _ _); refine T_abs (fun t => ?_))
  | ((with_reducible show Args _ _ (_ :: _) _ _); refine Args_cons ?_)
  | ((with_reducible show Args _ _ [] _ _); refine Args_nil ?_)
  | ((with_reducible show T _ (callWith _ (Value.builtin _) _ _ _) _ _); refine CW_bi ?_)
  | ((with_reducible show T _ (callWith _ (Value.type _) _ _ _) _ _); refine CW_ty ?_)
  | ((with_reducible show T _ (binaryOp Operator.Add (Value.int _ _) (Value.int _ _)) _ _); refine T_add (fun t => ?_))
  | ((with_reducible show T _ (binaryOp Operator.Sub (Value.int _ _) (Value.int _ _)) _ _); refine T_sub (fun t => ?_))
  | ((with_reducible show T _ (unaryOp UnaryOp.USub (Value.int _ _)) _ _); refine T_neg (fun t => ?_))
  | ((with_reducible show T _ (compareOp CmpOp.Eq (Value.int _ _) (Value.int _ _)) _ _); refine T_eq ?_)
  | ((with_reducible show T _ (compareOp CmpOp.NotEq (Value.int _ _) (Value.int _ _)) _ _); refine T_ne ?_)
  | ((with_reducible show T _ (compareOp CmpOp.Lt (Value.int _ _) (Value.int _ _)) _ _); refine T_lt ?_)
  | ((with_reducible show T _ (compareOp CmpOp.Gt (Value.int _ _) (Value.int _ _)) _ _); refine T_gt ?_)
  | ((with_reducible show T _ (compareOp CmpOp.Is _ Value.none) _ _); refine T_is_none ?_)
  | ((with_reducible show T _ (compareOp CmpOp.IsNot _ Value.none) _ _); refine T_isnot_none ?_)
  | walk_at "e")
set_option hygiene false in
local macro_rules | `(tactic| walk_at "w") => `(tactic| repeat (walk_at "s"))
theorem fill_frag8 : (PySem.Challenge.rw_at6042_01, Mine.hd.heap_39) = (PySem.Challenge.rw_at6042_01, Mine.hd.heap_39) := by k_fill; rfl
section
variable {κ : Kx} {F : Fix} {h H : Heap} {L : Addr} {l : List (Str × Value)} {N X : Ledger} {adr : Role → Addr} {st : SS} {n : Nat}
set_option maxHeartbeats 4000000 in
theorem pure_spec (R : Room κ (n + 2)) (top : TopIn κ.w (hid h N)) (led : Led h N) {x : Value} :
    C κ (.call (.ref 150) ⟨[x], []⟩) (Out h N fun v N' => N' = N ∧ v = .bool false) h := by
  refine C_def [("self", x)] _ (n := n + 1) R top led (by k_is) (by k_is) (fun s _ => BindsTo.of_eq rfl) (locs rfl) rfl (fun κ L h₁ ew S R => ?_)
  walk_at "w"
  exact ⟨_, _, _, S, rfl, rfl⟩
def Simp (w : World) (F : Fix) (J : SS → Prop) (adr adr' : Role → Addr) (N' : Ledger) : Prop := ∃ st1, J st1 ∧ (∀ r, r ≠ .q → adr' r = adr r) ∧ ((st1.q = [] ∧ Sol w F N' adr' st1) ∨ (∃ q lit, st1.q = q ++ [lit] ∧ -lit ∈ st1.vs ∧ Sol w F N' adr' { st1 with q := [], bad := true }))
set_option maxHeartbeats 4000000 in
theorem simp_spec (R : Room κ (n + 10)) (top : TopIn κ.w (hid h N)) (led : Led h N) (So : Sol κ.w F N adr st) (ok : Ok F) (J : SS → Prop) (μ ν : SS → Nat) (hfit : ∀ st, J st → Fit F st)
    (hstep : ∀ st q lit ls lv js, J st → st.q = q ++ [lit] → st.lev = ls ++ [lv] → -lit ∉ st.vs → js.Perm (st.sent (-lit)) → J (nextS F st q lit ls lv js) ∧ (μ (nextS F st q lit ls lv js) < μ st ∨ (μ (nextS F st q lit ls lv js) = μ st ∧ ν (nextS F st q lit ls lv js) < ν st)))
    (hJ : J st) :
    C κ (.call (.ref 136) ⟨[.ref (adr .inst)], []⟩) (Out h N fun v N' => v = .none ∧ ∃ adr', Simp κ.w F J adr adr' N') h := by
  refine C_def [("self", .ref (adr .inst))] _ (n := n + 9) R top led (by k_is) (by k_is) (fun s _ => BindsTo.of_eq rfl) (locs rfl) rfl (fun κ L h₁ ew S R => ?_)
  clear led
  rw [← ew] at So top ⊢
  generalize hid h N = G at S top ⊢
  walk_at "w"
  refine T_while (fun k h => ∃ adr1 N' l', St κ.w G L l' N' [] h ∧ look l' "self" = some (.ref (adr .inst)) ∧ (∀ r, r ≠ .q → adr1 r = adr r) ∧
      ((k = 0 ∧ look l' "changed" = some (.bool false) ∧ Simp κ.w F J adr adr1 N') ∨ (0 < k ∧ k ≤ 2 ∧ look l' "changed" = some (.bool true) ∧ ∃ st1, Sol κ.w F N' adr1 st1 ∧ J st1 ∧ (k = 1 → st1.q = [])))) 2
    ⟨adr, _, _, S, rfl, fun _ _ => rfl, .inr ⟨by decide, Nat.le_refl _, rfl, st, So, hJ, fun e => by cases e⟩⟩ (fun k h z => ?_)
  clear S So
  obtain ⟨adr1, N', l', S, hn1, hadr, z⟩ := z
  rcases z with ⟨rfl, hn2, hfin⟩ | ⟨hk0, hk2, hn2, st1, So, hJ1, hk1⟩
  · walk_at "w"
    refine ⟨fun hb => (by cases hb), fun _ => ?_⟩
    walk_at "w"
    exact ⟨_, _, _, S, rfl, adr1, hfin⟩
  · walk_at "w"
    refine ⟨fun _ => ?_, fun hb => (by cases hb)⟩
    have hn0 := hn1
    have hn1 : look l' "self" = some (.ref (adr1 .inst)) := by rw [hadr .inst (by decide)]; exact hn0
    walk_at "w"
    refine T_locn S (by rfl) ?_
    walk_at "w"
    refine T_smeth S So K_uprop (fun f ok => ok.m6) ?_
    refine CW_K (by k_is) ?_
    walk_at "w"
    refine ⟨S.kin, T_out S (uprop_spec (n := n + 1) (R.le (by omega)) S.topN S.ledN So ok J μ ν hfit hstep hJ1) fun v N2 h ⟨st2, adr2, hJ2, hadr2, hpost⟩ S2 => ?_⟩
    clear S
    have S := S2
    clear S2
    have hb : ∃ b, v = .bool b ∧ (b = true → st2.q = [] ∧ Sol κ.w F N2 adr2 st2 ∧ 2 ≤ k) ∧ (b = false → Simp κ.w F J adr adr2 N2) := by
      have hall : ∀ r, r ≠ .q → adr2 r = adr r := fun r hr => (hadr2 r hr).trans (hadr r hr)
      rcases hpost with ⟨h1, h2, h3⟩ | ⟨q, lit, h1, h2, h3, h4⟩
      · refine ⟨_, h3, fun hb => ⟨h1, h2, ?_⟩, fun _ => ⟨st2, hJ2, hall, .inl ⟨h1, h2⟩⟩⟩
        rcases Nat.lt_or_ge k 2 with q | q
        · have := hk1 (by omega); rw [this] at hb; simp at hb
        · exact q
      · exact ⟨false, h4, fun hb => (by cases hb), fun _ => ⟨st2, hJ2, hall, .inr ⟨q, lit, h1, h2, h3⟩⟩⟩
    clear hpost
    obtain ⟨b, rfl, hbt, hbf⟩ := hb
    have hn1 : look l' "self" = some (.ref (adr2 .inst)) := by rw [hadr2 .inst (by decide)]; exact hn1
    refine T_ior_bool ?_
    walk_at "w"
    refine T_locn S (by rfl) ?_
    walk_at "w"
    obtain ⟨st3, So3⟩ : ∃ st3, Sol κ.w F N2 adr2 st3 := by
      cases b with
      | true => exact ⟨st2, (hbt rfl).2.1⟩
      | false =>
        obtain ⟨s, _, _, h | ⟨q, lit, _, _, h⟩⟩ := hbf rfl
        · exact ⟨_, h.2⟩
        · exact ⟨_, h⟩
    refine T_smeth S So3 K_pure (fun f ok => ok.m7) ?_
    refine CW_K (by k_is) ?_
    walk_at "w"
    refine ⟨S.kin, T_out S (pure_spec (n := n + 7) (R.le (by omega)) S.topN S.ledN) fun v N3 h ⟨e1, e2⟩ S2 => ?_⟩
    subst e1 e2
    clear S
    have S := S2
    clear S2
    refine T_ior_bool ?_
    walk_at "w"
    have hall : ∀ r, r ≠ .q → adr2 r = adr r := fun r hr => (hadr2 r hr).trans (hadr r hr)
    have hself : ∀ {l3 : List (Str × Value)}, look l3 "self" = look l' "self" → look l3 "self" = some (.ref (adr .inst)) := fun e => e.trans hn0
    cases b with
    | true =>
      obtain ⟨h1, h2, h3⟩ := hbt rfl
      exact ⟨1, by omega, adr2, _, _, S, hself rfl, hall, .inr ⟨by decide, by decide, rfl, st2, h2, hJ2, fun _ => h1⟩⟩
    | false => exact ⟨0, hk0, adr2, _, _, S, hself rfl, hall, .inl ⟨rfl, rfl, hbf rfl⟩⟩
end
end Mine
end
section
open PySem PySem.W PySem.Calls PyProof.Rows
set_option Elab.async false
set_option maxRecDepth 100000
set_option linter.all false
namespace Mine

set_option hygiene false in
local macro_rules | `(tactic| walk_at "e") => `(tactic| ((with_reducible show T _ (eval _ _) _ _); first
  | ((with_reducible show T _ (eval (Expr.Name _ _) _) _ _); first
    | ((with_reducible show T _ (eval (Expr.Name "len" _) _) _ _); refine N_len S (by k_is) ?_)
    | ((with_reducible show T _ (eval (Expr.Name "abs" _) _) _ _); refine N_abs S (by k_is) ?_)
    | ((with_reducible show T _ (eval (Expr.Name "sorted" _) _) _ _); refine N_sorted S (by k_is) ?_)
    | ((with_reducible show T _ (eval (Expr.Name "list" _) _) _ _); refine N_list S (by k_is) ?_)
    | ((with_reducible show T _ (eval (Expr.Name "range" _) _) _ _); refine N_range S (by k_is) ?_)
    | ((with_reducible show T _ (eval (Expr.Name "set" _) _) _ _); refine N_set S (by k_is) ?_)
    | ((with_reducible show T _ (eval (Expr.Name "enumerate" _) _) _ _); refine N_enumerate S (by k_is) ?_)
    | refine T_loc S (by first | rfl | exact hn1 | exact hn2 | exact hn3 | exact hn4 | exact hn5) ?_
    | refine T_glob S (by k_is) ?_)
  | ((with_reducible show T _ (eval (Expr.Constant (Const.int _) _ _) _) _ _); refine T_int (fun t => ?_))
  | ((with_reducible show T _ (eval (Expr.Attribute _ _ _) _) _ _); refine T_attr ?_)
  | ((with_reducible show T _ (eval (Expr.Subscript _ _ _) _) _ _); refine T_item ?_)
  | ((with_reducible show T _ (eval (Expr.Call (Expr.Attribute _ _ _) _ [] _) _) _ _); refine T_Method ?_)
  | ((with_reducible show T _ (eval (Expr.Call _ _ [] _) _) _ _); refine T_Call ?_)
  | ((with_reducible show T _ (eval (Expr.BinOp _ _ _ _) _) _ _); refine T_binop ?_)
  | ((with_reducible show T _ (eval (Expr.UnaryOp _ _ _) _) _ _); refine T_unop ?_)
  | ((with_reducible show T _ (eval (Expr.Compare _ _ _ _) _) _ _); refine T_cmp ?_)
  | ((with_reducible show T _ (eval (Expr.Constant Const.none _ _) _) _ _); refine T_none ?_)
  | ((with_reducible show T _ (eval (Expr.Constant (Const.bool _) _ _) _) _ _); refine T_bool ?_)
  | ((with_reducible show T _ (eval (Expr.Constant (Const.str _) _ _) _) _ _); refine T_str (fun t => ?_))
  | ((with_reducible show T _ (eval (Expr.Dict [] [] _) _) _ _); refine T_dict0 (fun a h c => ?_))
  | ((with_reducible show T _ (eval (Expr.List _ _) _) _ _); refine T_list ?_)
  | ((with_reducible show T _ (eval (Expr.Tuple _ _ _) _) _ _); refine T_tuple ?_)
  | ((with_reducible show T _ (eval (Expr.BoolOp BoolOp.Or [_, _] _) _) _ _); refine T_or2 ?_)
  | ((with_reducible show T _ (eval (Expr.IfExp _ _ _ _) _) _ _); refine T_ifexp ?_)))
set_option hygiene false in
local macro_rules | `(tactic| walk_at "s") => `(tactic| first
  | ((with_reducible show T _ (execs (_ :: _) _) _ _); refine T_seq ?_)
  | ((with_reducible show T _ (execs [] _) _ _); refine T_nil ?_)
  | ((with_reducible show T _ (exec _ _) _ _); first
    | ((with_reducible show T _ (exec (Stmt.Assign [Expr.Name _ _] _ _) _) _ _); refine T_assign ?_)
    | ((with_reducible show T _ (exec (Stmt.If _ _ _ _) _) _ _); refine T_if ?_)
    | ((with_reducible show T _ (exec (Stmt.Return (some _) _) _) _ _); refine T_return ?_)
    | ((with_reducible show T _ (exec (Stmt.Return none _) _) _ _); refine T_return0 ?_)
    | ((with_reducible show T _ (exec (Stmt.Expr _ _) _) _ _); refine T_expr' ?_)
    | ((with_reducible show T _ (exec (Stmt.Assign [Expr.Attribute _ _ _] _ _) _) _ _); refine T_setattr_stmt ?_)
    | ((with_reducible show T _ (exec (Stmt.Assign [Expr.Subscript _ _ _] _ _) _) _ _); refine T_setitem_stmt ?_)
    | ((with_reducible show T _ (exec (Stmt.For (Expr.Name _ _) _ _ [] _) _) _ _); refine T_for ?_)
    | ((with_reducible show T _ (exec (Stmt.AugAssign (Expr.Name _ _) _ _ _) _) _ _); refine T_aug_name ?_)
    | ((with_reducible show T _ (exec (Stmt.AugAssign (Expr.Subscript _ _ _) _ _ _) _) _ _); refine T_aug_item ?_)
    | ((with_reducible show T _ (exec (Stmt.Pass _) _) _ _); refine T_pass ?_)
    | ((with_reducible show T _ (exec (Stmt.Break _) _) _ _); refine T_break ?_)
    | ((with_reducible show T _ (exec (Stmt.Continue _) _) _ _); refine T_continue ?_))
  | ((with_reducible show T _ (storeName _ _ _) _ _); refine T_store S (fun h S => ?_))
  | ((with_reducible show T _ (isTrue _ _ _) _ _); first
    | ((with_reducible show T _ (isTrue (Expr.Compare _ _ _ _) _ _) _ _); refine T_isTrue_cmp ?_)
    | ((with_reducible show T _ (isTrue (Expr.UnaryOp UnaryOp.Not _ _) _ _) _ _); refine T_isTrue_not ?_)
    | ((with_reducible show T _ (isTrue (Expr.BoolOp BoolOp.Or [_, _] _) _ _) _ _); refine T_isTrue_or2 ?_)
    | ((with_reducible show T _ (isTrue (Expr.BoolOp BoolOp.And [_, _] _) _ _) _ _); refine T_isTrue_and2 ?_)
    | ((with_reducible show T _ (isTrue (Expr.BoolOp BoolOp.And [_, _, _] _) _ _) _ _); refine T_isTrue_and3 ?_)
    | (refine T_isTrue_val ?_))
  | ((with_reducible show T _ (truthy (Value.bool _)) _ _); refine T_truthy_bool ?_)
  | ((with_reducible show T _ (truthy (Value.int _ _)) _ _); refine T_truthy_int ?_)
  | ((with_reducible show T _ (truthy Value.none) _ _); refine T_truthy_none ?_)
  | ((with_reducible show T _ (PySem.call (Value.builtin "abs") ([] ++ [Value.int _ _])) _ _); refine T_abs (fun t => ?_))
  | ((with_reducible show Args _ _ (_ :: _) _ _); refine Args_cons ?_)
  | ((with_reducible show Args _ _ [] _ _); refine Args_nil ?_)
  | ((with_reducible show T _ (callWith _ (Value.builtin _) _ _ _) _ _); refine CW_bi ?_)
  | ((with_reducible show T _ (callWith _ (Value.type _) _ _ _) _ _); refine CW_ty ?_)
  | ((with_reducible show T _ (binaryOp Operator.Add (Value.int _ _) (Value.int _ _)) _ _); refine T_add (fun t => ?_))
  | ((with_reducible show T _ (binaryOp Operator.Sub (Value.int _ _) (Value.int _ _)) _ _); refine T_sub (fun t => ?_))
  | ((with_reducible show T _ (unaryOp UnaryOp.USub (Value.int _ _)) _ _); refine T_neg (fun t => ?_))
  | ((with_reducible show T _ (compareOp CmpOp.Eq (Value.int _ _) (Value.int _ _)) _ _); refine T_eq ?_)
  | ((with_reducible show T _ (compareOp CmpOp.NotEq (Value.int _ _) (Value.int _ _)) _ _); refine T_ne ?_)
  | ((with_reducible show T _ (compareOp CmpOp.Lt (Value.int _ _) (Value.int _ _)) _ _); refine T_lt ?_)
  | ((with_reducible show T _ (compareOp CmpOp.Gt (Value.int _ _) (Value.int _ _)) _ _); refine T_gt ?_)
  | ((with_reducible show T _ (compareOp CmpOp.Is _ Value.none) _ _); refine T_is_none ?_)
  | ((with_reducible show T _ (compareOp CmpOp.IsNot _ Value.none) _ _); refine T_isnot_none ?_)
  | walk_at "e")
set_option hygiene false in
local macro_rules | `(tactic| walk_at "w") => `(tactic| repeat (walk_at "s"))
theorem fill_frag9 : (PySem.Challenge.rw_at6042_01, Mine.hd.heap_39) = (PySem.Challenge.rw_at6042_01, Mine.hd.heap_39) := by k_fill; rfl
section
variable {κ : Kx} {F : Fix} {h H : Heap} {L : Addr} {l : List (Str × Value)} {N X : Ledger} {adr : Role → Addr} {st : SS} {n : Nat}
theorem Slice_any {A : Around} {M : World} {E : Value → Shared → Prop} {s : Shared} {env : Env} {value : Expr} {lower upper : Option Expr} {p pos : Pos} {T' id : String} {Q : Value → Shared → Prop}
    (hl : typeLookup (.type T') "__getitem__" = pure (some (.builtin id)))
    (h : wpAny (model PW M) A (eval value env) (fun o s₁ => wpAny (model PW M) A (eval (.Slice lower upper none p) env) (fun i s₂ => s₂.TypeIs o T' ∧ wpAny (model PW M) A (getItem o i) Q E s₂) E s₁) E s) :
    wpAny (model PW M) A (eval (.Subscript value (.Slice lower upper none p) pos) env) Q E s := by
  rw [arm_eval_Subscript]
  refine wpAny_bind (wpAny_mono h (fun o s₁ h₁ => wpAny_bind (wpAny_holding (wpAny_mono h₁ (fun i s₂ h₂ => wpAny_bind (wpAny_standAt ?_)) fun _ _ x => x)))
    fun _ _ x => x)
  have fin : wpAny (model PW M) A (operate [i, o] (getItem o i)) (fun r s₃ => wpAny (model PW M) A (letTemporaryGo value o r >>= fun _ => pure r) Q E s₃) E s₂ :=
    wpAny_operating (wpAny_mono h₂.2 (fun r s₃ h₃ => wpAny_bind (wpAny_letTemporaryGo (wpAny_pure h₃))) fun _ _ x => x)
  refine wpAny_bind ?_
  rw [getitemInPython_of_ne h₂.1.not_modules]
  refine wpAny_bind (wpAny_specialOf h₂.1 hl ?_)
  first
    | exact wpAny_pure (wpAny_bind fin)
    | (refine wpAny_pure ?_; exact wpAny_bind fin)
theorem T_slice' {env : Env} {value : Expr} {lower upper : Option Expr} {p pos : Pos} {Q : Value → Heap → Prop}
    (x : T κ (eval value env) (fun o h₁ => T κ (evalPart lower env) (fun vl h₂ => T κ (evalPart upper env) (fun vu h₃ => ∃ l items ol lo hi, o = .ref l ∧ h₃.get? l = some ol ∧ LsO items ol ∧ items.length ≤ 1000000 ∧ IsPart vl lo ∧ IsPart vu hi ∧
      ∀ r h' o' ys, slicePick items.toArray lo hi none = ys.toArray → LsO ys o' → Nw h₃ r o' h' → Q (.ref r) h') h₂) h₁) h) : T κ (eval (.Subscript value (.Slice lower upper none p) pos) env) Q h := fun d tk => by
  refine Slice_any (T' := "list") list_getitem_lookup (x.use (s := ⟨h, κ.g, d, tk, κ.os⟩) rfl rfl fun o s₁ g1 o1 z => wpAny_Slice (z.use g1 o1 fun vl s₂ g2 o2 z => z.use g2 o2 fun vu s₃ g3 o3 z => ?_))
  obtain ⟨l, items, ol, lo, hi, rfl, el, L, hz, pl, pu, q⟩ := z
  rw [evalPart_none]
  have hl := L.is el
  refine wpAny_pure ⟨(hl.push _).typeIs, wpAny_getItem_list_slice (hl.push _) (Heap.IsSliceOf.new ..) pl pu .none (by simp) ⟨g3, o3, ?_⟩ (by simp only [List.size_toArray]; rw [sizeLine_eq]; omega)⟩
  have hsz : ∀ o, (s₃.heap.push o).objs.size = s₃.heap.objs.size + 1 := fun o => Heap.size_push ..
  refine q _ _ (lso (slicePick items.toArray lo hi none).toList 0) _ (by rw [Array.toArray_toList]) ⟨0, rfl⟩ ⟨none_of_ge (by dsimp only; rw [hsz]; exact Nat.le_succ _), ?_, (keep_push _ _).trans (keep_push _ _)⟩
  have := Heap.get?_push_size (s₃.heap.push { cls := .type "slice", data := .fields #[vl, vu, .none] }) (o := { cls := .type "list", data := .seq (slicePick items.toArray lo hi none) }) rfl
  rw [this]; unfold lso; rw [Array.toArray_toList]
set_option maxHeartbeats 4000000 in
theorem conflict_spec (R : Room κ (n + 3)) (top : TopIn κ.w (hid h N)) (led : Led h N) (So : Sol κ.w F N adr st) (hz : st.lev.length ≤ 1000) :
    C κ (.call (.ref 197) ⟨[.ref (adr .inst)], []⟩) (Out h N fun v N' => ∃ r o, v = .ref r ∧ N' = (r, o) :: N ∧ IntsO ((st.lev.drop 1).map fun l => -l.dec) o) h := by
  refine C_def [("self", .ref (adr .inst))] _ (n := n + 2) R top led (by k_is) (by k_is) (fun s _ => BindsTo.of_eq rfl) (locs rfl) rfl (fun κ L h₁ ew S R => ?_)
  clear led
  rw [← ew] at So top
  generalize hid h N = G at S top ⊢
  walk_at "w"
  refine T_lro (T_slice' ?_)
  walk_at "w"
  refine T_sat S So A_lv (fun f ok => ok.lv) rfl ?_
  refine T_part_some ?_
  walk_at "w"
  refine T_part_none ?_
  obtain ⟨olv, mlv, Llv⟩ := So.has .lv trivial
  have Llv : LsO ((List.range st.lev.length).map fun k => .ref (adr (.lvI k))) olv := Llv
  refine ⟨_, _, _, _, _, rfl, S.gn mlv, Llv, by simp; omega, .int _ _, .none, fun r h o ys hys hL c => ?_⟩
  replace S := S.new c
  have hys2 : ys = ((List.range st.lev.length).map fun k => .ref (adr (.lvI k))).drop 1 := by
    have := slicePick_from' ((List.range st.lev.length).map fun k => Value.ref (adr (.lvI k))).toArray 1
    have e : (((1 : Nat) : Int)) = 1 := rfl
    rw [e] at this
    rw [this] at hys
    simpa using (congrArg Array.toList hys).symm
  clear hys
  subst hys2
  refine T_iter_list R hL (S.gx (.head _)) fun I h' it => ?_
  have hget : ∀ i v, (((List.range st.lev.length).map fun k => Value.ref (adr (.lvI k))).drop 1)[i]? = some v → v = .ref (adr (.lvI (i + 1))) ∧ i + 1 < st.lev.length := fun i v hv => by
    rw [List.getElem?_drop, List.getElem?_map] at hv
    have hi : 1 + i < st.lev.length := by
      rcases Nat.lt_or_ge (1 + i) st.lev.length with q | q
      · exact q
      · rw [List.getElem?_eq_none (by simp; omega)] at hv; cases hv
    rw [List.getElem?_range hi] at hv
    cases hv
    rw [show 1 + i = i + 1 by omega]
    exact ⟨rfl, by omega⟩
  refine LRo.pure (fun i ys => IntsAre ys (((st.lev.drop 1).map fun l => -l.dec).take i)) (by simp; omega) it (fun p hp => by rw [List.mem_singleton.mp hp]; exact S.gx (.head _)) S.topH (by simp; exact .nil) (fun C i v ys l H' h3 hk hi hP hI S3 => ?_) (fun ys D o h3 hI hL c => ?_)
  · obtain ⟨rfl, hi1⟩ := hget i v hP
    obtain ⟨o1, m1, rfl⟩ := So.has (.lvI (i + 1)) hi1
    obtain ⟨o2, m2, f, m, hn, D, ⟨td, a⟩, b, c⟩ := So.has (.lvD (i + 1)) hi1
    refine T_tests_nil ?_
    rw [if_pos rfl]
    have g1 := S3.keep _ _ (hk _ _ (S.gn m1))
    have g2 := S3.keep _ _ (hk _ _ (S.gn m2))
    replace S := S3
    walk_at "w"
    refine T_getAttr S.kin L_dec g1 D g2 a rfl ?_
    walk_at "w"
    refine ⟨_, _, S, ?_⟩
    have hx : ((st.lev.drop 1).map fun l => -l.dec)[i]? = some (-(st.lev.getD (i + 1) lev0).dec) := by
      rw [List.getElem?_map, List.getElem?_drop, show 1 + i = i + 1 by omega, List.getElem?_eq_getElem hi1]
      simp [hi1]
    rw [take_succ_of hx]
    exact ints_app hI (.cons _ _ .nil)
  · have hfull : ((st.lev.drop 1).map fun l => -l.dec).take ((((List.range st.lev.length).map fun k => Value.ref (adr (.lvI k))).drop 1).length) = (st.lev.drop 1).map fun l => -l.dec := List.take_of_length_le (by simp)
    rw [hfull] at hI
    have S2 := S.newN c
    exact ⟨_, _, _, S2, D, o, rfl, rfl, ys, hL, hI⟩
end
end Mine
end
section
open PySem PySem.W PySem.Calls PyProof.Rows
set_option Elab.async false
set_option maxRecDepth 100000
set_option linter.all false
namespace Mine

set_option hygiene false in
local macro_rules | `(tactic| walk_at "e") => `(tactic| ((with_reducible show T _ (eval _ _) _ _); first
  | ((with_reducible show T _ (eval (Expr.Name _ _) _) _ _); first
    | ((with_reducible show T _ (eval (Expr.Name "len" _) _) _ _); refine N_len S (by k_is) ?_)
    | ((with_reducible show T _ (eval (Expr.Name "abs" _) _) _ _); refine N_abs S (by k_is) ?_)
    | ((with_reducible show T _ (eval (Expr.Name "sorted" _) _) _ _); refine N_sorted S (by k_is) ?_)
    | ((with_reducible show T _ (eval (Expr.Name "list" _) _) _ _); refine N_list S (by k_is) ?_)
    | ((with_reducible show T _ (eval (Expr.Name "range" _) _) _ _); refine N_range S (by k_is) ?_)
    | ((with_reducible show T _ (eval (Expr.Name "set" _) _) _ _); refine N_set S (by k_is) ?_)
    | ((with_reducible show T _ (eval (Expr.Name "enumerate" _) _) _ _); refine N_enumerate S (by k_is) ?_)
    | refine T_loc S (by first | rfl | exact hn1 | exact hn2 | exact hn3 | exact hn4 | exact hn5) ?_
    | refine T_glob S (by k_is) ?_)
  | ((with_reducible show T _ (eval (Expr.Constant (Const.int _) _ _) _) _ _); refine T_int (fun t => ?_))
  | ((with_reducible show T _ (eval (Expr.Attribute _ _ _) _) _ _); refine T_attr ?_)
  | ((with_reducible show T _ (eval (Expr.Subscript _ _ _) _) _ _); refine T_item ?_)
  | ((with_reducible show T _ (eval (Expr.Call (Expr.Attribute _ _ _) _ [] _) _) _ _); refine T_Method ?_)
  | ((with_reducible show T _ (eval (Expr.Call _ _ [] _) _) _ _); refine T_Call ?_)
  | ((with_reducible show T _ (eval (Expr.BinOp _ _ _ _) _) _ _); refine T_binop ?_)
  | ((with_reducible show T _ (eval (Expr.UnaryOp _ _ _) _) _ _); refine T_unop ?_)
  | ((with_reducible show T _ (eval (Expr.Compare _ _ _ _) _) _ _); refine T_cmp ?_)
  | ((with_reducible show T _ (eval (Expr.Constant Const.none _ _) _) _ _); refine T_none ?_)
  | ((with_reducible show T _ (eval (Expr.Constant (Const.bool _) _ _) _) _ _); refine T_bool ?_)
  | ((with_reducible show T _ (eval (Expr.Constant (Const.str _) _ _) _) _ _); refine T_str (fun t => ?_))
  | ((with_reducible show T _ (eval (Expr.Dict [] [] _) _) _ _); refine T_dict0 (fun a h c => ?_))
  | ((with_reducible show T _ (eval (Expr.List _ _) _) _ _); refine T_list ?_)
  | ((with_reducible show T _ (eval (Expr.Tuple _ _ _) _) _ _); refine T_tuple ?_)
  | ((with_reducible show T _ (eval (Expr.BoolOp BoolOp.Or [_, _] _) _) _ _); refine T_or2 ?_)
  | ((with_reducible show T _ (eval (Expr.IfExp _ _ _ _) _) _ _); refine T_ifexp ?_)))
set_option hygiene false in
local macro_rules | `(tactic| walk_at "s") => `(tactic| first
  | ((with_reducible show T _ (execs (_ :: _) _) _ _); refine T_seq ?_)
  | ((with_reducible show T _ (execs [] _) _ _); refine T_nil ?_)
  | ((with_reducible show T _ (exec _ _) _ _); first
    | ((with_reducible show T _ (exec (Stmt.Assign [Expr.Name _ _] _ _) _) _ _); refine T_assign ?_)
    | ((with_reducible show T _ (exec (Stmt.If _ _ _ _) _) _ _); refine T_if ?_)
    | ((with_reducible show T _ (exec (Stmt.Return (some _) _) _) _ _); refine T_return ?_)
    | ((with_reducible show T _ (exec (Stmt.Return none _) _) _ _); refine T_return0 ?_)
    | ((with_reducible show T _ (exec (Stmt.Expr _ _) _) _ _); refine T_expr' ?_)
    | ((with_reducible show T _ (exec (Stmt.Assign [Expr.Attribute _ _ _] _ _) _) _ _); refine T_setattr_stmt ?_)
    | ((with_reducible show T _ (exec (Stmt.Assign [Expr.Subscript _ _ _] _ _) _) _ _); refine T_setitem_stmt ?_)
    | ((with_reducible show T _ (exec (Stmt.For (Expr.Name _ _) _ _ [] _) _) _ _); refine T_for ?_)
    | ((with_reducible show T _ (exec (Stmt.AugAssign (Expr.Name _ _) _ _ _) _) _ _); refine T_aug_name ?_)
    | ((with_reducible show T _ (exec (Stmt.AugAssign (Expr.Subscript _ _ _) _ _ _) _) _ _); refine T_aug_item ?_)
    | ((with_reducible show T _ (exec (Stmt.Pass _) _) _ _); refine T_pass ?_)
    | ((with_reducible show T _ (exec (Stmt.Break _) _) _ _); refine T_break ?_)
    | ((with_reducible show T _ (exec (Stmt.Continue _) _) _ _); refine T_continue ?_))
  | ((with_reducible show T _ (storeName _ _ _) _ _); refine T_store S (fun h S => ?_))
  | ((with_reducible show T _ (isTrue _ _ _) _ _); first
    | ((with_reducible show T _ (isTrue (Expr.Compare _ _ _ _) _ _) _ _); refine T_isTrue_cmp ?_)
    | ((with_reducible show T _ (isTrue (Expr.UnaryOp UnaryOp.Not _ _) _ _) _ _); refine T_isTrue_not ?_)
    | ((with_reducible show T _ (isTrue (Expr.BoolOp BoolOp.Or [_, _] _) _ _) _ _); refine T_isTrue_or2 ?_)
    | ((with_reducible show T _ (isTrue (Expr.BoolOp BoolOp.And [_, _] _) _ _) _ _); refine T_isTrue_and2 ?_)
    | ((with_reducible show T _ (isTrue (Expr.BoolOp BoolOp.And [_, _, _] _) _ _) _ _); refine T_isTrue_and3 ?_)
    | (refine T_isTrue_val ?_))
  | ((with_reducible show T _ (truthy (Value.bool _)) _ _); refine T_truthy_bool ?_)
  | ((with_reducible show T _ (truthy (Value.int _ _)) _ _); refine T_truthy_int ?_)
  | ((with_reducible show T _ (truthy Value.none) _ _); refine T_truthy_none ?_)
  | ((with_reducible show T _ (PySem.call (Value.builtin "abs") ([] ++ [Value.int _ _])) _ _); refine T_abs (fun t => ?_))
  | ((with_reducible show Args _ _ (_ :: _) _ _); refine Args_cons ?_)
  | ((with_reducible show Args _ _ [] _ _); refine Args_nil ?_)
  | ((with_reducible show T _ (callWith _ (Value.builtin _) _ _ _) _ _); refine CW_bi ?_)
  | ((with_reducible show T _ (callWith _ (Value.type _) _ _ _) _ _); refine CW_ty ?_)
  | ((with_reducible show T _ (binaryOp Operator.Add (Value.int _ _) (Value.int _ _)) _ _); refine T_add (fun t => ?_))
  | ((with_reducible show T _ (binaryOp Operator.Sub (Value.int _ _) (Value.int _ _)) _ _); refine T_sub (fun t => ?_))
  | ((with_reducible show T _ (unaryOp UnaryOp.USub (Value.int _ _)) _ _); refine T_neg (fun t => ?_))
  | ((with_reducible show T _ (compareOp CmpOp.Eq (Value.int _ _) (Value.int _ _)) _ _); refine T_eq ?_)
  | ((with_reducible show T _ (compareOp CmpOp.NotEq (Value.int _ _) (Value.int _ _)) _ _); refine T_ne ?_)
  | ((with_reducible show T _ (compareOp CmpOp.Lt (Value.int _ _) (Value.int _ _)) _ _); refine T_lt ?_)
  | ((with_reducible show T _ (compareOp CmpOp.Gt (Value.int _ _) (Value.int _ _)) _ _); refine T_gt ?_)
  | ((with_reducible show T _ (compareOp CmpOp.Is _ Value.none) _ _); refine T_is_none ?_)
  | ((with_reducible show T _ (compareOp CmpOp.IsNot _ Value.none) _ _); refine T_isnot_none ?_)
  | walk_at "e")
set_option hygiene false in
local macro_rules | `(tactic| walk_at "w") => `(tactic| repeat (walk_at "s"))
theorem fill_frag10 : (PySem.Challenge.rw_at6042_01, Mine.hd.heap_39) = (PySem.Challenge.rw_at6042_01, Mine.hd.heap_39) := by k_fill; rfl
theorem I_dec {κ : Kx} : AttrOk (hd.heap_39 κ.w.params) 229 "decision" := L_dec
section
variable {κ : Kx} {F : Fix} {h H : Heap} {L : Addr} {l : List (Str × Value)} {N X : Ledger} {adr : Role → Addr} {st : SS} {n : Nat}
theorem fresh_h {w : World} {g h' : Heap} {N N' X : Ledger} {a : Addr} (S : St w (hid g N) L l N' X h') (hN : ∀ p ∈ N, ∃ o, (p.1, o) ∈ N') (e : h'.get? a = none) : g.get? a = none := by
  cases hc : g.get? a with
  | none => rfl
  | some o =>
    by_cases q : a ∈ N.map (·.1)
    · obtain ⟨p, hp, rfl⟩ := List.mem_map.mp q
      obtain ⟨o, ho⟩ := hN p hp
      have := S.gn ho; rw [e] at this; cases this
    · have := S.keep _ _ (hid_get hc q); rw [e] at this; cases this
theorem ite_le {c : Prop} [Decidable c] {a b m : Nat} (h1 : a ≤ m) (h2 : b ≤ m) : (if c then a else b) ≤ m := by split <;> assumption
theorem upd_has {N : Ledger} {d : Addr} {o : Obj} {p : Addr × Obj} (hp : p ∈ N) : ∃ o', (p.1, o') ∈ upd N d o := by
  by_cases e : p.1 = d
  · exact ⟨o, by have : (d, p.2) ∈ N := by rw [← e]; exact hp
                 rw [e]; exact mem_upd_self this⟩
  · exact ⟨p.2, mem_upd_of_ne hp e⟩
structure LevMade (w : World) (h : Heap) (N N' : Ledger) (x dx : Addr) (dec : Int) (b : Bool) : Prop where
  inst : (x, instObj 229 dx) ∈ N'
  made : ∃ s os od f m, (s, os) ∈ N' ∧ SetO w [] os ∧ (dx, od) ∈ N' ∧ m ≤ 50 ∧ DictA f m od ∧ (∃ t, f "decision" = some (.int dec t)) ∧ f "var_settings" = some (.ref s) ∧ f "flipped" = some (.bool b) ∧ h.get? s = none
  old : ∀ p ∈ N, p.1 ≠ dx → p ∈ N'
set_option maxHeartbeats 4000000 in
theorem linit_spec (R : Room κ (n + 2)) (top : TopIn κ.w (hid h N)) (led : Led h N) {x dx : Addr} (hx : (x, instObj 229 dx) ∈ N) (hd : (dx, emptyDict) ∈ N) (hne : x ≠ dx) {dec : Int} {td : Tok} :
    C κ (.call (.ref 226) ⟨[.ref x, .int dec td], []⟩) (Out h N fun v N' => v = .none ∧ LevMade κ.w h N N' x dx dec false) h := by
  refine C_def [("self", .ref x), ("decision", .int dec td), ("flipped", .bool false)] _ (n := n + 1) R top led (by k_is) (by k_is) (fun s hs => ?_) (locs rfl) rfl (fun κ L h₁ ew S R => ?_)
  · subst hs
    exact binds_K (top.keep hid_sub).k rfl (by k_is) rfl (by rfl) (by rfl)
  · rw [← ew]
    have hxd : ∀ {M : Ledger}, (x, instObj 229 dx) ∈ M → ∀ o, (x, instObj 229 dx) ∈ Mine.upd M dx o := fun hm o => mem_upd_of_ne hm hne
    walk_at "w"
    refine T_setAttr S.kin L_dec (S.gn hx) DictA.new (S.gn hd) (by decide) (fun h o1 D1 c => ?_)
    replace S := S.updN hd c
    replace D1 := D1.le (m := 1) (ite_le (by decide) (by decide))
    have hd1 := mem_upd_self (o := o1) hd
    have hx1 := hxd hx o1
    clear c
    walk_at "w"
    refine T_set_new (fun s h os Ds c => ?_)
    have hfr := fresh_h S (fun p hp => upd_has hp) c.fresh
    have hsd : s ≠ dx := fun e => by have := S.gn hd1; rw [← e, c.fresh] at this; cases this
    replace S := S.newN c
    have hd2 : (dx, o1) ∈ (s, os) :: Mine.upd N dx o1 := .tail _ hd1
    have hx2 : (x, instObj 229 dx) ∈ (s, os) :: Mine.upd N dx o1 := .tail _ hx1
    clear c
    walk_at "w"
    refine T_setAttr S.kin L_vs (S.gn hx2) D1 (S.gn hd2) (by decide) (fun h o2 D2 c => ?_)
    replace S := S.updN hd2 c
    replace D2 := D2.le (m := 2) (ite_le (by decide) (by decide))
    have hd3 := mem_upd_self (o := o2) hd2
    have hx3 := hxd hx2 o2
    clear c
    walk_at "w"
    refine T_setAttr S.kin L_flip (S.gn hx3) D2 (S.gn hd3) (by decide) (fun h o3 D3 c => ?_)
    replace S := S.updN hd3 c
    replace D3 := D3.le (m := 3) (ite_le (by decide) (by decide))
    have hd4 := mem_upd_self (o := o3) hd3
    have hx4 := hxd hx3 o3
    walk_at "w"
    refine ⟨_, _, _, S, rfl, hx4, ⟨s, os, o3, _, 50, mem_upd_of_ne (mem_upd_of_ne (.head _) hsd) hsd, Ds, hd4, Nat.le_refl _, D3.le (by decide), ⟨td, rfl⟩, rfl, rfl, hfr⟩, fun p hp hpd => ?_⟩
    exact mem_upd_of_ne (mem_upd_of_ne (.tail _ (mem_upd_of_ne hp hpd)) hpd) hpd
set_option maxHeartbeats 4000000 in
theorem linit_spec_kw (R : Room κ (n + 2)) (top : TopIn κ.w (hid h N)) (led : Led h N) {x dx : Addr} (hx : (x, instObj 229 dx) ∈ N) (hd : (dx, emptyDict) ∈ N) (hne : x ≠ dx) {dec : Int} {td : Tok} {b : Bool} :
    C κ (.call (.ref 226) ⟨[.ref x, .int dec td], [("flipped", .bool b)]⟩) (Out h N fun v N' => v = .none ∧ LevMade κ.w h N N' x dx dec b) h := by
  refine C_def [("self", .ref x), ("decision", .int dec td), ("flipped", .bool b)] _ (n := n + 1) R top led (by k_is) (by k_is) (fun s hs => ?_) (locs rfl) rfl (fun κ L h₁ ew S R => ?_)
  · subst hs
    exact binds_K (top.keep hid_sub).k rfl (by k_is) rfl (by rfl) (by rfl)
  · rw [← ew]
    have hxd : ∀ {M : Ledger}, (x, instObj 229 dx) ∈ M → ∀ o, (x, instObj 229 dx) ∈ Mine.upd M dx o := fun hm o => mem_upd_of_ne hm hne
    walk_at "w"
    refine T_setAttr S.kin L_dec (S.gn hx) DictA.new (S.gn hd) (by decide) (fun h o1 D1 c => ?_)
    replace S := S.updN hd c
    replace D1 := D1.le (m := 1) (ite_le (by decide) (by decide))
    have hd1 := mem_upd_self (o := o1) hd
    have hx1 := hxd hx o1
    clear c
    walk_at "w"
    refine T_set_new (fun s h os Ds c => ?_)
    have hfr := fresh_h S (fun p hp => upd_has hp) c.fresh
    have hsd : s ≠ dx := fun e => by have := S.gn hd1; rw [← e, c.fresh] at this; cases this
    replace S := S.newN c
    have hd2 : (dx, o1) ∈ (s, os) :: Mine.upd N dx o1 := .tail _ hd1
    have hx2 : (x, instObj 229 dx) ∈ (s, os) :: Mine.upd N dx o1 := .tail _ hx1
    clear c
    walk_at "w"
    refine T_setAttr S.kin L_vs (S.gn hx2) D1 (S.gn hd2) (by decide) (fun h o2 D2 c => ?_)
    replace S := S.updN hd2 c
    replace D2 := D2.le (m := 2) (ite_le (by decide) (by decide))
    have hd3 := mem_upd_self (o := o2) hd2
    have hx3 := hxd hx2 o2
    clear c
    walk_at "w"
    refine T_setAttr S.kin L_flip (S.gn hx3) D2 (S.gn hd3) (by decide) (fun h o3 D3 c => ?_)
    replace S := S.updN hd3 c
    replace D3 := D3.le (m := 3) (ite_le (by decide) (by decide))
    have hd4 := mem_upd_self (o := o3) hd3
    have hx4 := hxd hx3 o3
    walk_at "w"
    refine ⟨_, _, _, S, rfl, hx4, ⟨s, os, o3, _, 50, mem_upd_of_ne (mem_upd_of_ne (.head _) hsd) hsd, Ds, hd4, Nat.le_refl _, D3.le (by decide), ⟨td, rfl⟩, rfl, rfl, hfr⟩, fun p hp hpd => ?_⟩
    exact mem_upd_of_ne (mem_upd_of_ne (.tail _ (mem_upd_of_ne hp hpd)) hpd) hpd
end
end Mine
end
section
open PySem PySem.W PySem.Calls PyProof.Rows
set_option Elab.async false
set_option maxRecDepth 100000
set_option linter.all false
namespace Mine

set_option hygiene false in
local macro_rules | `(tactic| walk_at "e") => `(tactic| ((with_reducible show T _ (eval _ _) _ _); first
  | ((with_reducible show T _ (eval (Expr.Name _ _) _) _ _); first
    | ((with_reducible show T _ (eval (Expr.Name "len" _) _) _ _); refine N_len S (by k_is) ?_)
    | ((with_reducible show T _ (eval (Expr.Name "abs" _) _) _ _); refine N_abs S (by k_is) ?_)
    | ((with_reducible show T _ (eval (Expr.Name "sorted" _) _) _ _); refine N_sorted S (by k_is) ?_)
    | ((with_reducible show T _ (eval (Expr.Name "list" _) _) _ _); refine N_list S (by k_is) ?_)
    | ((with_reducible show T _ (eval (Expr.Name "range" _) _) _ _); refine N_range S (by k_is) ?_)
    | ((with_reducible show T _ (eval (Expr.Name "set" _) _) _ _); refine N_set S (by k_is) ?_)
    | ((with_reducible show T _ (eval (Expr.Name "enumerate" _) _) _ _); refine N_enumerate S (by k_is) ?_)
    | refine T_loc S (by first | rfl | exact hn1 | exact hn2 | exact hn3 | exact hn4 | exact hn5) ?_
    | refine T_glob S (by k_is) ?_)
  | ((with_reducible show T _ (eval (Expr.Constant (Const.int _) _ _) _) _ _); refine T_int (fun t => ?_))
  | ((with_reducible show T _ (eval (Expr.Attribute _ _ _) _) _ _); refine T_attr ?_)
  | ((with_reducible show T _ (eval (Expr.Subscript _ _ _) _) _ _); refine T_item ?_)
  | ((with_reducible show T _ (eval (Expr.Call (Expr.Attribute _ _ _) _ [] _) _) _ _); refine T_Method ?_)
  | ((with_reducible show T _ (eval (Expr.Call _ _ [] _) _) _ _); refine T_Call ?_)
  | ((with_reducible show T _ (eval (Expr.BinOp _ _ _ _) _) _ _); refine T_binop ?_)
  | ((with_reducible show T _ (eval (Expr.UnaryOp _ _ _) _) _ _); refine T_unop ?_)
  | ((with_reducible show T _ (eval (Expr.Compare _ _ _ _) _) _ _); refine T_cmp ?_)
  | ((with_reducible show T _ (eval (Expr.Constant Const.none _ _) _) _ _); refine T_none ?_)
  | ((with_reducible show T _ (eval (Expr.Constant (Const.bool _) _ _) _) _ _); refine T_bool ?_)
  | ((with_reducible show T _ (eval (Expr.Constant (Const.str _) _ _) _) _ _); refine T_str (fun t => ?_))
  | ((with_reducible show T _ (eval (Expr.Dict [] [] _) _) _ _); refine T_dict0 (fun a h c => ?_))
  | ((with_reducible show T _ (eval (Expr.List _ _) _) _ _); refine T_list ?_)
  | ((with_reducible show T _ (eval (Expr.Tuple _ _ _) _) _ _); refine T_tuple ?_)
  | ((with_reducible show T _ (eval (Expr.BoolOp BoolOp.Or [_, _] _) _) _ _); refine T_or2 ?_)
  | ((with_reducible show T _ (eval (Expr.IfExp _ _ _ _) _) _ _); refine T_ifexp ?_)))
set_option hygiene false in
local macro_rules | `(tactic| walk_at "s") => `(tactic| first
  | ((with_reducible show T _ (execs (_ :: _) _) _ _); refine T_seq ?_)
  | ((with_reducible show T _ (execs [] _) _ _); refine T_nil ?_)
  | ((with_reducible show T _ (exec _ _) _ _); first
    | ((with_reducible show T _ (exec (Stmt.Assign [Expr.Name _ _] _ _) _) _ _); refine T_assign ?_)
    | ((with_reducible show T _ (exec (Stmt.If _ _ _ _) _) _ _); refine T_if ?_)
    | ((with_reducible show T _ (exec (Stmt.Return (some _) _) _) _ _); refine T_return ?_)
    | ((with_reducible show T _ (exec (Stmt.Return none _) _) _ _); refine T_return0 ?_)
    | ((with_reducible show T _ (exec (Stmt.Expr _ _) _) _ _); refine T_expr' ?_)
    | ((with_reducible show T _ (exec (Stmt.Assign [Expr.Attribute _ _ _] _ _) _) _ _); refine T_setattr_stmt ?_)
    | ((with_reducible show T _ (exec (Stmt.Assign [Expr.Subscript _ _ _] _ _) _) _ _); refine T_setitem_stmt ?_)
    | ((with_reducible show T _ (exec (Stmt.For (Expr.Name _ _) _ _ [] _) _) _ _); refine T_for ?_)
    | ((with_reducible show T _ (exec (Stmt.AugAssign (Expr.Name _ _) _ _ _) _) _ _); refine T_aug_name ?_)
    | ((with_reducible show T _ (exec (Stmt.AugAssign (Expr.Subscript _ _ _) _ _ _) _) _ _); refine T_aug_item ?_)
    | ((with_reducible show T _ (exec (Stmt.Pass _) _) _ _); refine T_pass ?_)
    | ((with_reducible show T _ (exec (Stmt.Break _) _) _ _); refine T_break ?_)
    | ((with_reducible show T _ (exec (Stmt.Continue _) _) _ _); refine T_continue ?_))
  | ((with_reducible show T _ (storeName _ _ _) _ _); refine T_store S (fun h S => ?_))
  | ((with_reducible show T _ (isTrue _ _ _) _ _); first
    | ((with_reducible show T _ (isTrue (Expr.Compare _ _ _ _) _ _) _ _); refine T_isTrue_cmp ?_)
    | ((with_reducible show T _ (isTrue (Expr.UnaryOp UnaryOp.Not _ _) _ _) _ _); refine T_isTrue_not ?_)
    | ((with_reducible show T _ (isTrue (Expr.BoolOp BoolOp.Or [_, _] _) _ _) _ _); refine T_isTrue_or2 ?_)
    | ((with_reducible show T _ (isTrue (Expr.BoolOp BoolOp.And [_, _] _) _ _) _ _); refine T_isTrue_and2 ?_)
    | ((with_reducible show T _ (isTrue (Expr.BoolOp BoolOp.And [_, _, _] _) _ _) _ _); refine T_isTrue_and3 ?_)
    | (refine T_isTrue_val ?_))
  | ((with_reducible show T _ (truthy (Value.bool _)) _ _); refine T_truthy_bool ?_)
  | ((with_reducible show T _ (truthy (Value.int _ _)) _ _); refine T_truthy_int ?_)
  | ((with_reducible show T _ (truthy Value.none) _ _); refine T_truthy_none ?_)
  | ((with_reducible show T _ (PySem.call (Value.builtin "abs") ([] ++ [Value.int _ _])) _ _); refine T_abs (fun t => ?_))
  | ((with_reducible show Args _ _ (_ :: _) _ _); refine Args_cons ?_)
  | ((with_reducible show Args _ _ [] _ _); refine Args_nil ?_)
  | ((with_reducible show T _ (callWith _ (Value.builtin _) _ _ _) _ _); refine CW_bi ?_)
  | ((with_reducible show T _ (callWith _ (Value.type _) _ _ _) _ _); refine CW_ty ?_)
  | ((with_reducible show T _ (binaryOp Operator.Add (Value.int _ _) (Value.int _ _)) _ _); refine T_add (fun t => ?_))
  | ((with_reducible show T _ (binaryOp Operator.Sub (Value.int _ _) (Value.int _ _)) _ _); refine T_sub (fun t => ?_))
  | ((with_reducible show T _ (unaryOp UnaryOp.USub (Value.int _ _)) _ _); refine T_neg (fun t => ?_))
  | ((with_reducible show T _ (compareOp CmpOp.Eq (Value.int _ _) (Value.int _ _)) _ _); refine T_eq ?_)
  | ((with_reducible show T _ (compareOp CmpOp.NotEq (Value.int _ _) (Value.int _ _)) _ _); refine T_ne ?_)
  | ((with_reducible show T _ (compareOp CmpOp.Lt (Value.int _ _) (Value.int _ _)) _ _); refine T_lt ?_)
  | ((with_reducible show T _ (compareOp CmpOp.Gt (Value.int _ _) (Value.int _ _)) _ _); refine T_gt ?_)
  | ((with_reducible show T _ (compareOp CmpOp.Is _ Value.none) _ _); refine T_is_none ?_)
  | ((with_reducible show T _ (compareOp CmpOp.IsNot _ Value.none) _ _); refine T_isnot_none ?_)
  | walk_at "e")
set_option hygiene false in
local macro_rules | `(tactic| walk_at "w") => `(tactic| repeat (walk_at "s"))
theorem fill_frag11 : (PySem.Challenge.rw_at6042_01, Mine.hd.heap_39) = (PySem.Challenge.rw_at6042_01, Mine.hd.heap_39) := by k_fill; rfl
section
variable {κ : Kx} {F : Fix} {h H : Heap} {L : Addr} {l : List (Str × Value)} {N X : Ledger} {adr : Role → Addr} {st : SS} {n : Nat}
theorem T_not_bool {b : Bool} {Q : Value → Heap → Prop} (q : Q (.bool !b) h) : T κ (unaryOp .Not (.bool b)) Q h := fun d tk => not_of (wpAny_truthy_bool ⟨rfl, rfl, q⟩)
/-- `Level(dec, flipped=b)` with the new objects in the focus -/
theorem T_newlevel {dec : Int} {td : Tok} {b : Bool} {Q : Value → Heap → Prop} (R : Room κ (n + 4)) (S : St κ.w H L l N X h)
    (q : ∀ x dx N' h' h0, h.get? x = none → h.get? dx = none → x ≠ dx → Keep h h0 → h0.get? x = some (instObj 229 dx) → h0.get? dx = some emptyDict → LevMade κ.w h0 ((x, instObj 229 dx) :: (dx, emptyDict) :: N) N' x dx dec b → St κ.w H L l N' X h' → Q (.ref x) h') :
    T κ (PySem.call (.ref 229) [.int dec td] [("flipped", .bool b)]) Q h := by
  refine T.call (C_make (fI := 226) S.kin (by k_is) (by k_is) (by k_is) fun x dx h0 f1 f2 ne k e1 e2 => ?_)
  have hL : ∀ {a : Addr}, h.get? a = none → a ≠ L := fun f e => by obtain ⟨o, ho⟩ := S.liveL; rw [← e, f] at ho; cases ho
  have hX : ∀ {a : Addr}, h.get? a = none → ∀ p ∈ X, p.1 ≠ a := fun f p hp e => by have := S.gx hp; rw [e, f] at this; cases this
  have S1 : St κ.w H L l ((dx, emptyDict) :: N) X h0 := ((S.keeps k).swap.addX e2 (hL f2) (S.freshH f2) (hX f2)).swap
  have S2 : St κ.w H L l ((x, instObj 229 dx) :: (dx, emptyDict) :: N) X h0 := (S1.swap.addX e1 (hL f1) (S.freshH f1) (hX f1)).swap
  have c := linit_spec_kw (κ := κ.made (.builtin "type.__call__" ⟨.ref 229 :: [.int dec td], [("flipped", .bool b)]⟩)) (n := n + 1) (h := h0) (N := (x, instObj 229 dx) :: (dx, emptyDict) :: N) R.made S2.topN S2.ledN (.head _) (.tail _ (.head _)) ne (dec := dec) (td := td) (b := b)
  refine c.mono fun v h' ⟨N', led, kb, ni, e, p⟩ => ⟨e, q x dx N' h' h0 f1 f2 ne k e1 e2 p (S2.out led kb ni)⟩
set_option maxHeartbeats 4000000 in
theorem settle_spec (R : Room κ (n + 12)) (top : TopIn κ.w (hid h N)) (led : Led h N) (So : Sol κ.w F N adr st) (ok : Ok F) {word : Int} {tw : Tok} {b : Bool} (hw : IsLit F word) (J : SS → Prop) (μ ν : SS → Nat) (hfit : ∀ st, J st → Fit F st)
    (hstep : ∀ st q lit ls lv js, J st → st.q = q ++ [lit] → st.lev = ls ++ [lv] → -lit ∉ st.vs → js.Perm (st.sent (-lit)) → J (nextS F st q lit ls lv js) ∧ (μ (nextS F st q lit ls lv js) < μ st ∨ (μ (nextS F st q lit ls lv js) = μ st ∧ ν (nextS F st q lit ls lv js) < ν st)))
    (hbad : ∀ st, J st → st.bad = false) (hf : Fit F st) (hlv : st.lev.length ≤ 1000)
    (hJ : ∀ js : List Int, js.Perm (st.sent (-word)) → J ((js.map Int.toNat).foldl (stepA F word) (begin_ { st with lev := st.lev ++ [⟨word, [], b⟩] } st.lev ⟨word, [], b⟩ word))) :
    C κ (.call (.ref 274) ⟨[.ref (adr .inst), .int word tw, .bool b], []⟩) (Out h N fun v N' => ∃ adr' st1, J st1 ∧ adr' .inst = adr .inst ∧
      ((v = .bool true ∧ st1.q = [] ∧ Sol κ.w F N' adr' { st1 with bad := false }) ∨ (v = .bool false ∧ (∃ q lit, st1.q = q ++ [lit] ∧ -lit ∈ st1.vs) ∧ Sol κ.w F N' adr' { st1 with q := [], bad := false }))) h := by
  refine C_def [("solver", .ref (adr .inst)), ("word", .int word tw), ("flipped", .bool b)] _ (n := n + 11) R top led (by k_is) (by k_is) (fun s _ => BindsTo.of_eq rfl) (locs rfl) rfl (fun κ L h₁ ew S R => ?_)
  clear led
  rw [← ew] at So top ⊢
  generalize hid h N = G at S top ⊢
  walk_at "w"
  refine T_sat S So A_lv (fun f ok => ok.lv) rfl ?_
  obtain ⟨olv, mlv, Llv⟩ := So.has .lv trivial
  have Llv : LsO ((List.range st.lev.length).map fun k => .ref (adr (.lvI k))) olv := Llv
  refine T_m_append Llv (S.gn mlv) ?_
  walk_at "w"
  refine T_Call_kw1 ?_
  walk_at "w"
  refine ⟨by k_is, ?_⟩
  walk_at "w"
  refine ⟨S.kin, T_newlevel (n := n + 6) (R.le (by omega)) S fun x dx N1 h1 h0 f1 f2 ne k e1 e2 lm S1 => ?_⟩
  have mem1 : ∀ p ∈ N, p ∈ N1 := fun p hp => lm.old p (.tail _ (.tail _ hp)) fun e => by have := S.gn hp; rw [e, f2] at this; cases this
  obtain ⟨s, os, od, f, m, ms, Ds, md, hm, Df, g1, g2, g3, f3⟩ := lm.made
  have fr3 : h₁.get? s = none := by
    cases hc : h₁.get? s with
    | none => rfl
    | some o => rw [k _ _ hc] at f3; cases f3
  have nxs : x ≠ s := fun e => by rw [← e, e1] at f3; cases f3
  have nds : dx ≠ s := fun e => by rw [← e, e2] at f3; cases f3
  have hfr : ∀ p ∈ N, p.1 ≠ x ∧ p.1 ≠ dx ∧ p.1 ≠ s := fun p hp => ⟨(fun e => by have := S.gn hp; rw [e, f1] at this; cases this), (fun e => by have := S.gn hp; rw [e, f2] at this; cases this), (fun e => by have := S.gn hp; rw [e, fr3] at this; cases this)⟩
  refine T_append Llv (S1.gn (mem1 _ mlv)) (by simp; omega) (fun h2 o2 D2 c => ?_)
  have S2 := S1.updN (mem1 _ mlv) c
  have So2 := So.push (dec := word) (b := b) lm.inst ms Ds md (by omega) Df g1 g2 g3 mem1 hfr ne nxs nds D2
  clear S S1 mem1 hfr lm
  have S := S2
  clear S2
  walk_at "w"
  have hadr : adr .inst = pushr adr st.lev.length x dx s .inst := rfl
  rw [hadr] at S ⊢
  generalize pushr adr st.lev.length x dx s = adr2 at S So2 hadr ⊢
  refine T_smeth S So2 K_assign (fun f ok => ok.m3) ?_
  refine CW_K (by k_is) ?_
  walk_at "w"
  refine ⟨S.kin, T_out S (assign_spec (n := n + 5) (R.le (by omega)) S.topN S.ledN So2 hw ok.row (ls := st.lev) (lv := ⟨word, [], b⟩) rfl hf.vs (by simp) hf.sent hf.q ok.many ok.rows hf.range) fun v N3 h ⟨e1, js, hjs, So3⟩ S2 => ?_⟩
  subst e1
  clear S
  have S := S2
  clear S2
  have hJ1 := hJ js hjs
  walk_at "w"
  refine T_smeth S So3 K_simplify (fun f ok => ok.m5) ?_
  refine CW_K (by k_is) ?_
  walk_at "w"
  refine ⟨S.kin, T_out S (simp_spec (n := n + 1) (R.le (by omega)) S.topN S.ledN So3 ok J μ ν hfit hstep hJ1) fun v N4 h ⟨e1, adr3, st4, hJ4, hadr3, hpost⟩ S2 => ?_⟩
  subst e1
  clear S So3 hJ1
  have S := S2
  clear S2
  have hi3 : adr3 .inst = adr2 .inst := hadr3 .inst (by decide)
  rw [← hi3] at S ⊢
  obtain ⟨st5, b5, So5, hb5, hfin⟩ : ∃ st5 b5, Sol κ.w F N4 adr3 st5 ∧ st5.bad = b5 ∧ ((b5 = false ∧ st4.q = [] ∧ { st5 with bad := false } = { st4 with bad := false }) ∨ (b5 = true ∧ (∃ q lit, st4.q = q ++ [lit] ∧ -lit ∈ st4.vs) ∧ { st5 with bad := false } = { st4 with q := [], bad := false })) := by
    rcases hpost with ⟨h1, h2⟩ | ⟨q, lit, h1, h2, h3⟩
    · exact ⟨st4, _, h2, rfl, .inl ⟨hbad st4 hJ4, h1, rfl⟩⟩
    · exact ⟨_, _, h3, rfl, .inr ⟨rfl, ⟨q, lit, h1, h2⟩, rfl⟩⟩
  clear hpost
  walk_at "w"
  refine T_sat S So5 A_bad (fun f ok => ok.bad) rfl ?_
  refine T_not_bool ?_
  walk_at "w"
  refine T_setBad S So5 (fun h N6 S So6 => ?_)
  walk_at "w"
  refine ⟨_, _, _, S, adr3, st4, hJ4, rfl, ?_⟩
  rcases hfin with ⟨h1, h2, h3⟩ | ⟨h1, h2, h3⟩
  · exact .inl ⟨by rw [hb5, h1]; rfl, h2, h3 ▸ So6⟩
  · exact .inr ⟨by rw [hb5, h1]; rfl, h2, h3 ▸ So6⟩
end
end Mine
end
section
open PySem PySem.W PySem.Calls PyProof.Rows
set_option Elab.async false
set_option maxRecDepth 100000
set_option linter.all false
namespace Mine
/-! the plain law: propagation -/
abbrev rowAt (F : Fix) (i : Nat) : List Int := F.rows.getD i []
def Sat (V row : List Int) : Prop := ∃ c, c ∈ row ∧ c ∈ V
structure Con (F : Fix) (V : List Int) : Prop where
  nd : V.Nodup
  lit : ∀ c ∈ V, IsLit F c
  opp : ∀ c ∈ V, -c ∉ V
structure RowsOk (F : Fix) : Prop where
  ne : ∀ r ∈ F.rows, r ≠ []
  nd : ∀ r ∈ F.rows, r.Nodup
  opp : ∀ r ∈ F.rows, ∀ c ∈ r, -c ∉ r
  lit : ∀ r ∈ F.rows, ∀ c ∈ r, IsLit F c
theorem IsLit.neg {F : Fix} {l : Int} (h : IsLit F l) : IsLit F (-l) := ⟨by have := h.1; omega, by have := h.2; omega⟩
theorem rowAt_mem {F : Fix} {i : Nat} (h : i < F.rows.length) : rowAt F i ∈ F.rows := by
  unfold rowAt
  rw [List.getD_eq_getElem?_getD, List.getElem?_eq_getElem h]
  exact List.getElem_mem h
theorem rowAt_lt {F : Fix} {i : Nat} {c : Int} (h : c ∈ rowAt F i) : i < F.rows.length := by
  rcases Nat.lt_or_ge i F.rows.length with q | q
  · exact q
  · unfold rowAt at h
    rw [List.getD_eq_getElem?_getD, List.getElem?_eq_none q] at h
    cases h
theorem rowAt_lit {F : Fix} (R : RowsOk F) : ∀ i, ∀ c ∈ rowAt F i, IsLit F c := fun i c h => R.lit _ (rowAt_mem (rowAt_lt h)) c h
theorem mem_adds {l : List Int} {k x : Int} : x ∈ adds l k ↔ x ∈ l ∨ x = k := by
  unfold adds
  split
  · rename_i h
    constructor
    · exact .inl
    · rintro (q | rfl)
      · exact q
      · exact h
  · simp
theorem adds_nodup {l : List Int} {k : Int} (h : l.Nodup) : (adds l k).Nodup := by
  unfold adds
  split
  · exact h
  · rename_i hk
    refine List.nodup_append.mpr ⟨h, by simp, fun a ha b hb => ?_⟩
    rw [List.mem_singleton.mp hb]
    rintro rfl
    exact hk ha
theorem adds_of_mem {l : List Int} {k : Int} (h : k ∈ l) : adds l k = l := if_pos h
theorem nodup_le {l m : List Int} (h : l.Nodup) (s : ∀ x ∈ l, x ∈ m) : l.length ≤ m.length := by
  induction l generalizing m with
  | nil => simp
  | cons a l ih =>
    have hn := List.nodup_cons.mp h
    have := ih (m := m.erase a) hn.2 fun x hx => (List.mem_erase_of_ne (by rintro rfl; exact hn.1 hx)).mpr (s x (.tail _ hx))
    have ha := s a (.head _)
    rw [List.length_erase_of_mem ha] at this
    have hp : 0 < m.length := List.length_pos_of_mem ha
    simp; omega
theorem sat_iff {V row : List Int} : (row.any fun l => decide (l ∈ V)) = true ↔ Sat V row := by
  simp [Sat]
structure Watch (F : Fix) (sent : Int → List Int) : Prop where
  rng : ∀ l, IsLit F l → ∀ x ∈ sent l, ∃ i : Nat, x = i ∧ i < F.rows.length ∧ 1 < (rowAt F i).length ∧ l ∈ rowAt F i
  nd : ∀ l, IsLit F l → (sent l).Nodup
  two : ∀ i, i < F.rows.length → 1 < (rowAt F i).length → ∃ a b, a ≠ b ∧ a ∈ rowAt F i ∧ b ∈ rowAt F i ∧ ∀ c, c ∈ rowAt F i → ((i : Int) ∈ sent c ↔ c = a ∨ c = b)
def mvS (sent : Int → List Int) (c lit : Int) (i : Nat) : Int → List Int := fun l => if l = c then adds (sent c) i else if l = -lit then (sent (-lit)).erase i else sent l
theorem mem_mv {sent : Int → List Int} {c lit x l : Int} {i : Nat} (nd : (sent (-lit)).Nodup) (hne : c ≠ -lit) : x ∈ mvS sent c lit i l ↔ (l = c ∧ x = i) ∨ (x ∈ sent l ∧ ¬ (l = -lit ∧ x = i)) := by
  unfold mvS
  split
  · rename_i e; subst e
    rw [mem_adds]
    constructor
    · rintro (q | q)
      · exact .inr ⟨q, fun z => hne z.1⟩
      · exact .inl ⟨rfl, q⟩
    · rintro (q | q)
      · exact .inr q.2
      · exact .inl q.1
  · rename_i e
    split
    · rename_i e2; subst e2
      rw [nd.mem_erase_iff]
      constructor
      · rintro ⟨h1, h2⟩; exact .inr ⟨h2, fun z => h1 z.2⟩
      · rintro (q | q)
        · exact absurd q.1 e
        · exact ⟨fun z => q.2 ⟨rfl, z⟩, q.1⟩
    · rename_i e2
      constructor
      · exact fun h => .inr ⟨h, fun z => e2 z.1⟩
      · rintro (q | q)
        · exact absurd q.1 e
        · exact q.1
theorem Watch.mv {F : Fix} {sent : Int → List Int} {c lit : Int} {i : Nat} (W : Watch F sent) (hl : IsLit F lit) (hi : (i : Int) ∈ sent (-lit)) (hc : c ∈ rowAt F i) (hcl : IsLit F c) (hne : c ≠ -lit) (hno : (i : Int) ∉ sent c) : Watch F (mvS sent c lit i) := by
  have nd := W.nd _ hl.neg
  obtain ⟨i', hi', h1, h2, h3⟩ := W.rng _ hl.neg _ hi
  have : i' = i := by omega
  subst this
  refine ⟨fun l hll x hx => ?_, fun l hll => ?_, fun j hj hj1 => ?_⟩
  · rcases (mem_mv nd hne).mp hx with ⟨rfl, rfl⟩ | ⟨q, _⟩
    · exact ⟨i', rfl, h1, h2, hc⟩
    · exact W.rng l hll x q
  · unfold mvS
    split
    · exact adds_nodup (W.nd _ hcl)
    · split
      · exact nd.erase _
      · exact W.nd _ hll
  · obtain ⟨a, b, hab, ha, hb, hw⟩ := W.two j hj hj1
    by_cases e : j = i'
    · subst e
      have key : ∀ a b : Int, a ≠ b → b ∈ rowAt F j → (∀ c, c ∈ rowAt F j → ((j : Int) ∈ sent c ↔ c = a ∨ c = b)) → -lit = a → ∃ a b, a ≠ b ∧ a ∈ rowAt F j ∧ b ∈ rowAt F j ∧ ∀ c_1, c_1 ∈ rowAt F j → ((j : Int) ∈ mvS sent c lit j c_1 ↔ c_1 = a ∨ c_1 = b) := fun a b hab hb hw e => by
        refine ⟨c, b, fun z => hno ((hw c hc).mpr (.inr z)), hc, hb, fun d hd => ?_⟩
        rw [mem_mv nd hne, hw d hd]
        constructor
        · rintro (q | ⟨q | q, q2⟩)
          · exact .inl q.1
          · exact absurd ⟨q.trans e.symm, rfl⟩ q2
          · exact .inr q
        · rintro (q | q)
          · exact .inl ⟨q, rfl⟩
          · exact .inr ⟨.inr q, fun z => hab (by rw [← e, ← z.1, q])⟩
      rcases (hw (-lit) h3).mp hi with q | q
      · exact key a b hab hb hw q
      · exact key b a (Ne.symm hab) ha (fun c hc => (hw c hc).trans or_comm) q
    · refine ⟨a, b, hab, ha, hb, fun d hd => ?_⟩
      rw [← hw d hd, mem_mv nd hne]
      have hji : ¬ ((j : Int) = (i' : Int)) := by omega
      constructor
      · rintro (q | q)
        · exact absurd q.2 hji
        · exact q.1
      · exact fun q => .inr ⟨q, fun z => hji z.2⟩
theorem step_cases {F : Fix} {st : SS} {lit : Int} {i : Nat} (W : Watch F st.sent) (hl : IsLit F lit) (hi : (i : Int) ∈ st.sent (-lit)) :
    (Sat st.vs (rowAt F i) ∧ stepA F lit st i = st) ∨
    (¬ Sat st.vs (rowAt F i) ∧ ∃ c, c ∈ rowAt F i ∧ c ≠ -lit ∧ (i : Int) ∉ st.sent c ∧ st.vset c.natAbs = false ∧ stepA F lit st i = { st with sent := mvS st.sent c lit i }) ∨
    (¬ Sat st.vs (rowAt F i) ∧ ∃ o, o ∈ rowAt F i ∧ o ≠ -lit ∧ (∀ c ∈ rowAt F i, c ≠ o → c ≠ -lit → st.vset c.natAbs = true) ∧ stepA F lit st i = { st with q := st.q ++ [o] }) := by
  obtain ⟨i', hi', h1, h2, h3⟩ := W.rng _ hl.neg _ hi
  have : i' = i := by omega
  subst this
  obtain ⟨a, b, hab, ha, hb, hw⟩ := W.two i' h1 h2
  unfold stepA
  by_cases hs : ((F.rows.getD i' []).any fun l => decide (l ∈ st.vs)) = true
  · exact .inl ⟨sat_iff.mp hs, if_pos hs⟩
  · have hns : ¬ Sat st.vs (rowAt F i') := fun q => hs (sat_iff.mpr q)
    refine .inr ?_
    rw [if_neg hs]
    cases hm : moveTo F st lit i' with
    | some c =>
      refine .inl ⟨hns, c, List.mem_of_find?_eq_some hm, moveTo_ne hm, ?_, ?_, rfl⟩
      · have := List.find?_some hm
        simp only [Bool.and_eq_true, decide_eq_true_eq, Bool.not_eq_true', decide_eq_false_iff_not] at this
        exact this.2.1
      · have := List.find?_some hm
        simp only [Bool.and_eq_true, decide_eq_true_eq, Bool.not_eq_true', decide_eq_false_iff_not] at this
        exact this.2.2
    | none =>
      refine .inr ⟨hns, ?_⟩
      have hnone : ∀ c ∈ rowAt F i', c ≠ -lit → (i' : Int) ∉ st.sent c → st.vset c.natAbs = true := fun c hc h1 h2 => by
        have := List.find?_eq_none.mp hm c hc
        simp only [Bool.and_eq_true, decide_eq_true_eq, Bool.not_eq_true', decide_eq_false_iff_not] at this
        cases hv : st.vset c.natAbs with
        | true => rfl
        | false => exact absurd ⟨h1, h2, hv⟩ this
      -- the other watch
      have key : ∃ o, o ∈ rowAt F i' ∧ o ≠ -lit ∧ ∀ c ∈ rowAt F i', (c ≠ -lit ∧ (i' : Int) ∈ st.sent c) ↔ c = o := by
        rcases (hw (-lit) h3).mp hi with q | q
        · refine ⟨b, hb, fun e => hab (by rw [← q, ← e]), fun c hc => ?_⟩
          rw [hw c hc]
          constructor
          · rintro ⟨x, y | y⟩
            · exact absurd (y.trans q.symm) x
            · exact y
          · rintro rfl; exact ⟨fun e => hab (by rw [← q, ← e]), .inr rfl⟩
        · refine ⟨a, ha, fun e => hab (by rw [← q, ← e]), fun c hc => ?_⟩
          rw [hw c hc]
          constructor
          · rintro ⟨x, y | y⟩
            · exact y
            · exact absurd (y.trans q.symm) x
          · rintro rfl; exact ⟨fun e => hab (by rw [← q, ← e]), .inl rfl⟩
      obtain ⟨o, ho, hol, hou⟩ := key
      have hlast : lastS F st lit i' = some o := by
        unfold lastS
        cases hg : ((F.rows.getD i' []).filter fun c => decide (c ≠ -lit) && decide ((i' : Int) ∈ st.sent c)).getLast? with
        | none =>
          have := List.getLast?_eq_none_iff.mp hg
          have hm : o ∈ (F.rows.getD i' []).filter fun c => decide (c ≠ -lit) && decide ((i' : Int) ∈ st.sent c) := List.mem_filter.mpr ⟨ho, by
            have := (hou o ho).mpr rfl
            simp [this.1, this.2]⟩
          rw [this] at hm; cases hm
        | some w =>
          have := List.mem_filter.mp (List.mem_of_getLast? hg)
          have h2 := this.2
          simp only [Bool.and_eq_true, decide_eq_true_eq] at h2
          rw [(hou w this.1).mp h2]
      refine ⟨o, ho, hol, fun c hc hco hcl => hnone c hc hcl fun hcs => hco ((hou c hc).mp ⟨hcl, hcs⟩), ?_⟩
      rw [hlast]
structure Mid (F : Fix) (lit : Int) (s0 st : SS) (rest ps : List Int) : Prop where
  vs : st.vs = s0.vs
  vset : st.vset = s0.vset
  lev : st.lev = s0.lev
  bad : st.bad = s0.bad
  hp : st.hp = s0.hp
  q : st.q = s0.q ++ ps
  watch : Watch F st.sent
  push : ∀ o ∈ ps, o ∉ s0.vs ∧ ∃ r ∈ F.rows, o ∈ r ∧ ∀ c ∈ r, c ≠ o → -c ∈ s0.vs
  plen : ps.length + rest.length ≤ F.rows.length
  old : ∀ l, IsLit F l → ∀ x ∈ st.sent l, x ∈ s0.sent l ∨ s0.vset l.natAbs = false
  nd : rest.Nodup
  mem : ∀ x ∈ rest, x ∈ st.sent (-lit)
  done : ∀ i : Nat, (i : Int) ∈ st.sent (-lit) → (i : Int) ∉ rest → Sat s0.vs (rowAt F i) ∨ ∃ o ∈ ps, o ∈ rowAt F i ∧ ∀ c ∈ rowAt F i, c ≠ o → -c ∈ s0.vs
def VsetOk (F : Fix) (st : SS) : Prop := ∀ c, IsLit F c → (st.vset c.natAbs = true ↔ c ∈ st.vs ∨ -c ∈ st.vs)
theorem Mid.step {F : Fix} {lit : Int} {s0 st : SS} {a : Int} {rest ps : List Int} (R : RowsOk F) (M : Mid F lit s0 st (a :: rest) ps) (hl : IsLit F lit) (hlit : lit ∈ s0.vs) (hv : VsetOk F s0) : ∃ ps', Mid F lit s0 (stepA F lit st a.toNat) rest ps' := by
  have ham := M.mem a (.head _)
  obtain ⟨i, rfl, hi1, hi2, hi3⟩ := M.watch.rng _ hl.neg a ham
  have hnd := List.nodup_cons.mp M.nd
  rw [Int.toNat_natCast]
  have plen' : ps.length + rest.length + 1 ≤ F.rows.length := by have := M.plen; simp at this; omega
  rcases step_cases M.watch hl ham with ⟨hs, e⟩ | ⟨hs, c, c1, c2, c3, c4, e⟩ | ⟨hs, o, o1, o2, o3, e⟩
  · rw [e]
    refine ⟨ps, M.vs, M.vset, M.lev, M.bad, M.hp, M.q, M.watch, M.push, by omega, M.old, hnd.2, fun x hx => M.mem x (.tail _ hx), fun j hj hjr => ?_⟩
    by_cases q : (j : Int) = (i : Int)
    · have : j = i := by omega
      subst this
      rw [M.vs] at hs
      exact .inl hs
    · exact M.done j hj fun z => (List.mem_cons.mp z).elim q hjr
  · rw [e]
    have nd := M.watch.nd _ hl.neg
    have hcl : IsLit F c := rowAt_lit R i c c1
    refine ⟨ps, M.vs, M.vset, M.lev, M.bad, M.hp, M.q, M.watch.mv hl ham c1 hcl c2 c3, M.push, by omega, fun l hll x hx => ?_, hnd.2, fun x hx => ?_, fun j hj hjr => ?_⟩
    · rcases (mem_mv nd c2).mp hx with ⟨rfl, rfl⟩ | ⟨q, _⟩
      · exact .inr (by rw [← M.vset]; exact c4)
      · exact M.old l hll x q
    · exact (mem_mv nd c2).mpr (.inr ⟨M.mem x (.tail _ hx), fun z => hnd.1 (z.2 ▸ hx)⟩)
    · rcases (mem_mv nd c2).mp hj with ⟨q, _⟩ | ⟨q, q2⟩
      · exact absurd q.symm c2
      · exact M.done j q fun z => (List.mem_cons.mp z).elim (fun e => q2 ⟨rfl, e⟩) hjr
  · rw [e]
    have hall : ∀ c ∈ rowAt F i, c ≠ o → -c ∈ s0.vs := fun c hc hco => by
      by_cases hcl : c = -lit
      · rw [hcl, Int.neg_neg]; exact hlit
      · have := o3 c hc hco hcl
        rw [M.vset] at this
        rcases (hv c (rowAt_lit R i c hc)).mp this with q | q
        · exact absurd ⟨c, hc, M.vs ▸ q⟩ hs
        · exact q
    have hon : o ∉ s0.vs := fun q => hs ⟨o, o1, M.vs ▸ q⟩
    refine ⟨ps ++ [o], M.vs, M.vset, M.lev, M.bad, M.hp, by show st.q ++ [o] = _; rw [M.q, List.append_assoc], M.watch, fun x hx => ?_, by simp; omega, M.old, hnd.2, fun x hx => M.mem x (.tail _ hx), fun j hj hjr => ?_⟩
    · rcases List.mem_append.mp hx with q | q
      · exact M.push x q
      · rw [List.mem_singleton.mp q]
        exact ⟨hon, rowAt F i, rowAt_mem hi1, o1, hall⟩
    · by_cases q : (j : Int) = (i : Int)
      · have : j = i := by omega
        subst this
        exact .inr ⟨o, by simp, o1, hall⟩
      · rcases M.done j hj fun z => (List.mem_cons.mp z).elim q hjr with z | ⟨o', z1, z2⟩
        · exact .inl z
        · exact .inr ⟨o', List.mem_append_left _ z1, z2⟩
theorem Mid.fold {F : Fix} {lit : Int} {s0 : SS} (R : RowsOk F) (hl : IsLit F lit) (hlit : lit ∈ s0.vs) (hv : VsetOk F s0) : ∀ (js ps : List Int) (st : SS), Mid F lit s0 st js ps → ∃ ps', Mid F lit s0 ((js.map Int.toNat).foldl (stepA F lit) st) [] ps'
  | [], ps, st, M => ⟨ps, M⟩
  | a :: r, ps, st, M => by
    obtain ⟨ps', M'⟩ := M.step R hl hlit hv
    exact Mid.fold R hl hlit hv r ps' _ M'
theorem Watch.len {F : Fix} {sent : Int → List Int} (W : Watch F sent) {l : Int} (hl : IsLit F l) : (sent l).length ≤ F.rows.length := by
  have := nodup_le (m := (List.range F.rows.length).map fun i => ((i : Nat) : Int)) (W.nd l hl) fun x hx => by
    obtain ⟨i, rfl, hi, _⟩ := W.rng l hl x hx
    exact List.mem_map.mpr ⟨i, List.mem_range.mpr hi, rfl⟩
  simpa using this
theorem Mid.start {F : Fix} {lit : Int} {s0 : SS} {js : List Int} (W : Watch F s0.sent) (hl : IsLit F lit) (hp : js.Perm (s0.sent (-lit))) : Mid F lit s0 s0 js [] :=
  ⟨rfl, rfl, rfl, rfl, rfl, by simp, W, (fun o h => nomatch h), by have := W.len hl.neg; have := hp.length_eq; simp; omega, fun l _ x hx => .inl hx, hp.nodup_iff.mpr (W.nd _ hl.neg), fun x hx => hp.mem_iff.mp hx,
    fun i hi hn => absurd (hp.mem_iff.mpr hi) hn⟩
/-! what a plain look derives -/
inductive Der (rows : List (List Int)) (S : List Int) : Int → Prop
  | base {l : Int} : l ∈ S → Der rows S l
  | unit {r : List Int} {l : Int} : r ∈ rows → l ∈ r → (∀ c ∈ r, c ≠ l → Der rows S (-c)) → Der rows S l
structure Cfg where
  ls : List Lev
  dec : Int
  flip : Bool
  U : List Int
  S0 : List Int
  sent0 : Int → List Int
  hp0 : List Pair
def Pend (V q : List Int) (b : Int) (r : List Int) : Prop := ∃ q1 o q2, q = q1 ++ o :: q2 ∧ b ∉ q2 ∧ o ∈ r ∧ ∀ c ∈ r, c ≠ o → -c ∈ V
def unset (F : Fix) (st : SS) : Nat := ((List.range F.many).filter fun k => !st.vset (k + 1)).length
structure JJ (F : Fix) (c : Cfg) (st : SS) : Prop where
  lev : ∃ s, st.lev = c.ls ++ [⟨c.dec, s, c.flip⟩] ∧ s.Nodup ∧ (∀ x, x ∈ st.vs ↔ x ∈ c.U ∨ x ∈ s) ∧ ∀ x ∈ s, x ∉ c.U
  con : Con F st.vs
  vset : VsetOk F st
  watch : Watch F st.sent
  low : ∀ b ∈ c.U, ∀ x ∈ st.sent (-b), x ∈ c.sent0 (-b)
  der : ∀ x ∈ st.vs, Der F.rows c.S0 x
  qder : ∀ x ∈ st.q, IsLit F x ∧ x ∉ c.U ∧ Der F.rows c.S0 x
  base : ∀ x ∈ c.S0, x ∈ st.vs ∨ x ∈ st.q
  pend : ∀ b ∈ st.vs, ∀ i : Nat, (i : Int) ∈ st.sent (-b) → Sat st.vs (rowAt F i) ∨ Pend st.vs st.q b (rowAt F i)
  unit : ∀ a, [a] ∈ F.rows → a ∈ st.vs ∨ a ∈ st.q
  qlen : st.q.length + F.rows.length * unset F st ≤ 9000
  bad : st.bad = false
  hp : st.hp = c.hp0
theorem filter_lt {α : Type} {l : List α} {p q : α → Bool} (h : ∀ x ∈ l, p x = true → q x = true) : (l.filter p).length ≤ (l.filter q).length := by
  induction l with
  | nil => simp
  | cons a l ih =>
    have := ih fun x hx => h x (.tail _ hx)
    have ha := h a (.head _)
    rw [List.filter_cons, List.filter_cons]
    split
    · rename_i hp
      rw [if_pos (ha hp)]; simp; exact this
    · split
      · simp; omega
      · exact this
theorem filter_lt' {α : Type} {l : List α} {p q : α → Bool} (h : ∀ x ∈ l, p x = true → q x = true) {y : α} (hy : y ∈ l) (h1 : q y = true) (h2 : p y = false) : (l.filter p).length < (l.filter q).length := by
  induction l with
  | nil => cases hy
  | cons a l ih =>
    have hle := filter_lt (l := l) fun x hx => h x (.tail _ hx)
    have ha := h a (.head _)
    rw [List.filter_cons, List.filter_cons]
    rcases List.mem_cons.mp hy with rfl | hy
    · rw [if_pos h1, if_neg (by rw [h2]; simp)]; simp; omega
    · have := ih (fun x hx => h x (.tail _ hx)) hy
      split
      · rename_i hp
        rw [if_pos (ha hp)]; simp; exact this
      · split
        · simp; omega
        · exact this
theorem pend_q {V q : List Int} {b lit : Int} {r : List Int} (P : Pend V (q ++ [lit]) b r) : (lit ∈ r ∧ (∀ c ∈ r, c ≠ lit → -c ∈ V)) ∨ (Pend V q b r ∧ b ≠ lit) := by
  obtain ⟨q1, o, q2, e, hb, ho, ha⟩ := P
  rcases List.eq_nil_or_concat q2 with rfl | ⟨q3, y, rfl⟩
  · have := List.append_inj' e rfl
    have : lit = o := by simpa using this.2
    subst this
    exact .inl ⟨ho, ha⟩
  · rw [List.concat_eq_append] at e hb
    rw [show q1 ++ o :: (q3 ++ [y]) = (q1 ++ o :: q3) ++ [y] by simp] at e
    have := List.append_inj' e rfl
    have hy : lit = y := by simpa using this.2
    subst hy
    exact .inr ⟨⟨q1, o, q3, this.1, fun h => hb (List.mem_append_left _ h), ho, ha⟩, fun e => hb (by rw [e]; simp)⟩
theorem Pend.more {V V' q ps : List Int} {b : Int} {r : List Int} (P : Pend V q b r) (hV : ∀ x ∈ V, x ∈ V') (hb : b ∉ ps) : Pend V' (q ++ ps) b r := by
  obtain ⟨q1, o, q2, e, h1, ho, ha⟩ := P
  exact ⟨q1, o, q2 ++ ps, by rw [e]; simp, fun h => (List.mem_append.mp h).elim h1 hb, ho, fun c hc hne => hV _ (ha c hc hne)⟩
theorem mem_split_last {l : List Int} {o : Int} (h : o ∈ l) : ∃ a b, l = a ++ o :: b := List.append_of_mem h
theorem begin_vs {st : SS} {q : List Int} {ls : List Lev} {lv : Lev} {lit : Int} : (begin_ { st with q := q } ls lv lit).vs = adds st.vs lit := rfl
set_option maxHeartbeats 1000000 in
theorem JJ.step {F : Fix} {c : Cfg} (R : RowsOk F) {st : SS} {q : List Int} {lit : Int} {ls : List Lev} {lv : Lev} {js : List Int} (J : JJ F c st) (hq : st.q = q ++ [lit]) (hlev : st.lev = ls ++ [lv]) (hno : -lit ∉ st.vs) (hjs : js.Perm (st.sent (-lit))) :
    JJ F c (nextS F st q lit ls lv js) ∧ (unset F (nextS F st q lit ls lv js) < unset F st ∨ (unset F (nextS F st q lit ls lv js) = unset F st ∧ (nextS F st q lit ls lv js).q.length < st.q.length)) := by
  obtain ⟨s, hs1, hs2, hs3, hs4⟩ := J.lev
  have hinj := List.append_inj' (hlev.symm.trans hs1) rfl
  have hls : ls = c.ls := hinj.1
  have hlv : lv = ⟨c.dec, s, c.flip⟩ := by simpa using hinj.2
  subst hlv
  have hlq : lit ∈ st.q := by rw [hq]; simp
  obtain ⟨hlit, hlU, hlD⟩ := J.qder lit hlq
  by_cases hin : lit ∈ st.vs
  · -- a word already settled
    have hls2 : lit ∈ s := ((hs3 lit).mp hin).resolve_left hlU
    have hb : begin_ { st with q := q } ls ⟨c.dec, s, c.flip⟩ lit = { st with q := q } := by
      unfold begin_
      have e1 : adds st.vs lit = st.vs := adds_of_mem hin
      have e2 : adds s lit = s := adds_of_mem hls2
      have e3 : (fun i => if i = lit.natAbs then true else st.vset i) = st.vset := by
        funext i
        split
        · rename_i e; rw [e]; exact ((J.vset lit hlit).mpr (.inl hin)).symm
        · rfl
      have hl2 := hlev
      obtain ⟨a1, a2, a3, a4, a5, a6, a7⟩ := st
      dsimp only at e1 e3 hl2 ⊢
      rw [e1, e2, e3, ← hl2]
    have hsat : ∀ i : Nat, (i : Int) ∈ st.sent (-lit) → Sat st.vs (rowAt F i) := fun i hi => by
      rcases J.pend lit hin i hi with z | z
      · exact z
      · rw [hq] at z
        rcases pend_q z with ⟨z1, _⟩ | ⟨_, z2⟩
        · exact ⟨lit, z1, hin⟩
        · exact absurd rfl z2
    have hfold : ∀ (js : List Int), (∀ x ∈ js, x ∈ st.sent (-lit)) → (js.map Int.toNat).foldl (stepA F lit) { st with q := q } = { st with q := q } := fun js => by
      induction js with
      | nil => intro _; rfl
      | cons a r ih =>
        intro h
        obtain ⟨i, rfl, _⟩ := J.watch.rng _ hlit.neg a (h a (.head _))
        rw [List.map_cons, List.foldl_cons, Int.toNat_natCast]
        have : stepA F lit { st with q := q } i = { st with q := q } := by
          unfold stepA
          exact if_pos (sat_iff.mpr (hsat i (h _ (.head _))))
        rw [this]
        exact ih fun x hx => h x (.tail _ hx)
    have e : nextS F st q lit ls ⟨c.dec, s, c.flip⟩ js = { st with q := q } := by
      unfold nextS
      rw [hb]
      exact hfold js fun x hx => hjs.mem_iff.mp hx
    rw [e]
    refine ⟨⟨⟨s, hs1, hs2, hs3, hs4⟩, J.con, J.vset, J.watch, J.low, J.der, fun x hx => J.qder x (by rw [hq]; exact List.mem_append_left _ hx), fun x hx => ?_, fun b hb i hi => ?_, fun a ha => ?_, ?_, J.bad, J.hp⟩, .inr ⟨rfl, ?_⟩⟩
    · rcases J.base x hx with z | z
      · exact .inl z
      · rw [hq] at z
        rcases List.mem_append.mp z with z | z
        · exact .inr z
        · rw [List.mem_singleton.mp z]; exact .inl hin
    · rcases J.pend b hb i hi with z | z
      · exact .inl z
      · rw [hq] at z
        rcases pend_q z with ⟨z1, _⟩ | ⟨z1, _⟩
        · exact .inl ⟨lit, z1, hin⟩
        · exact .inr z1
    · rcases J.unit a ha with z | z
      · exact .inl z
      · rw [hq] at z
        rcases List.mem_append.mp z with z | z
        · exact .inr z
        · rw [List.mem_singleton.mp z]; exact .inl hin
    · have := J.qlen
      rw [hq] at this
      show q.length + F.rows.length * unset F st ≤ 9000
      simp at this; omega
    · show q.length < st.q.length
      rw [hq]; simp
  · -- a new word
    have hvlit : st.vset lit.natAbs = false := by
      cases hv : st.vset lit.natAbs with
      | false => rfl
      | true => exact absurd ((J.vset lit hlit).mp hv) (fun z => z.elim hin hno)
    have hs0 : ∃ s0, s0 = begin_ { st with q := q } ls ⟨c.dec, s, c.flip⟩ lit := ⟨_, rfl⟩
    obtain ⟨s0, hs0⟩ := hs0
    have e_vs : s0.vs = adds st.vs lit := by rw [hs0]; rfl
    have e_vset : s0.vset = fun i => if i = lit.natAbs then true else st.vset i := by rw [hs0]; rfl
    have e_sent : s0.sent = st.sent := by rw [hs0]; rfl
    have e_q : s0.q = q := by rw [hs0]; rfl
    have e_lev : s0.lev = ls ++ [⟨c.dec, adds s lit, c.flip⟩] := by rw [hs0]; rfl
    have e_bad : s0.bad = st.bad := by rw [hs0]; rfl
    have e_hp : s0.hp = st.hp := by rw [hs0]; rfl
    have hmem : ∀ x, x ∈ s0.vs ↔ x ∈ st.vs ∨ x = lit := fun x => by rw [e_vs]; exact mem_adds
    have hsub : ∀ x ∈ st.vs, x ∈ s0.vs := fun x hx => (hmem x).mpr (.inl hx)
    have hlit0 : lit ∈ s0.vs := (hmem lit).mpr (.inr rfl)
    have hl0 : lit ≠ 0 := hlit.1
    have con0 : Con F s0.vs := by
      refine ⟨by rw [e_vs]; exact adds_nodup J.con.nd, fun x hx => ?_, fun x hx hx2 => ?_⟩
      · rcases (hmem x).mp hx with z | rfl
        · exact J.con.lit x z
        · exact hlit
      · rcases (hmem x).mp hx with z | rfl
        · rcases (hmem (-x)).mp hx2 with z2 | z2
          · exact J.con.opp x z z2
          · exact hno (by rw [← z2, Int.neg_neg]; exact z)
        · rcases (hmem (-x)).mp hx2 with z2 | z2
          · exact hno z2
          · omega
    have hv0 : VsetOk F s0 := fun x hx => by
      rw [e_vset]
      dsimp only
      by_cases e : x.natAbs = lit.natAbs
      · rw [if_pos e]
        refine ⟨fun _ => ?_, fun _ => rfl⟩
        rcases Int.natAbs_eq_natAbs_iff.mp e with z | z
        · exact .inl (z ▸ hlit0)
        · exact .inr (by rw [z, Int.neg_neg]; exact hlit0)
      · rw [if_neg e, J.vset x hx, hmem, hmem]
        constructor
        · rintro (z | z)
          · exact .inl (.inl z)
          · exact .inr (.inl z)
        · rintro ((z | z) | (z | z))
          · exact .inl z
          · exact absurd (by rw [z]) e
          · exact .inr z
          · exact absurd (by rw [← z, Int.natAbs_neg]) e
    have W0 : Watch F s0.sent := by rw [e_sent]; exact J.watch
    obtain ⟨ps, M⟩ := Mid.fold R hlit hlit0 hv0 js [] s0 (Mid.start W0 hlit (by rw [e_sent]; exact hjs))
    have en : nextS F st q lit ls ⟨c.dec, s, c.flip⟩ js = (js.map Int.toNat).foldl (stepA F lit) s0 := by rw [hs0]; rfl
    rw [en]
    generalize (js.map Int.toNat).foldl (stepA F lit) s0 = st' at M
    have m_vs : ∀ x, x ∈ st'.vs ↔ x ∈ st.vs ∨ x = lit := fun x => by rw [M.vs]; exact hmem x
    have m_q : st'.q = q ++ ps := by rw [M.q, e_q]
    have der' : ∀ x ∈ s0.vs, Der F.rows c.S0 x := fun x hx => by
      rcases (hmem x).mp hx with z | rfl
      · exact J.der x z
      · exact hlD
    have hunset : unset F st' < unset F st := by
      unfold unset
      have hpos : 0 < lit.natAbs := by omega
      refine filter_lt' (y := lit.natAbs - 1) (fun k _ hk => ?_) (List.mem_range.mpr (by have := hlit.2; omega)) ?_ ?_
      · rw [M.vset, e_vset] at hk
        dsimp only at hk
        split at hk
        · simp at hk
        · exact hk
      · rw [show lit.natAbs - 1 + 1 = lit.natAbs by omega, hvlit]; rfl
      · rw [show lit.natAbs - 1 + 1 = lit.natAbs by omega, M.vset, e_vset]; simp
    have hlen : s0.q.length + 1 = st.q.length := by rw [e_q, hq]; simp
    refine ⟨⟨⟨adds s lit, ?_, adds_nodup hs2, fun x => ?_, fun x hx => ?_⟩, ?_, ?_, M.watch, fun b hb x hx => ?_, fun x hx => ?_, fun x hx => ?_, fun x hx => ?_, fun b hb i hi => ?_, fun a ha => ?_, ?_, ?_, ?_⟩, .inl hunset⟩
    · rw [M.lev, e_lev, hls]
    · rw [m_vs x, hs3 x, mem_adds]
      constructor
      · rintro ((z | z) | z)
        · exact .inl z
        · exact .inr (.inl z)
        · exact .inr (.inr z)
      · rintro (z | z | z)
        · exact .inl (.inl z)
        · exact .inl (.inr z)
        · exact .inr z
    · rcases mem_adds.mp hx with z | rfl
      · exact hs4 x z
      · exact hlU
    · rw [M.vs]; exact con0
    · intro x hx; rw [M.vset, M.vs]; exact hv0 x hx
    · have hbv : b ∈ st.vs := (hs3 b).mpr (.inl hb)
      have hbl := J.con.lit b hbv
      rcases M.old (-b) hbl.neg x hx with z | z
      · rw [e_sent] at z; exact J.low b hb x z
      · have := (hv0 (-b) hbl.neg).mpr (.inr (by rw [Int.neg_neg]; exact hsub b hbv))
        rw [z] at this; cases this
    · rw [M.vs] at hx; exact der' x hx
    · rw [m_q] at hx
      rcases List.mem_append.mp hx with z | z
      · exact J.qder x (by rw [hq]; exact List.mem_append_left _ z)
      · obtain ⟨z1, r, hr, z2, z3⟩ := M.push x z
        exact ⟨R.lit r hr x z2, fun zU => z1 (hsub x ((hs3 x).mpr (.inl zU))), .unit hr z2 fun d hd hne => der' _ (z3 d hd hne)⟩
    · rw [m_vs x, m_q]
      rcases J.base x hx with z | z
      · exact .inl (.inl z)
      · rw [hq] at z
        rcases List.mem_append.mp z with z | z
        · exact .inr (List.mem_append_left _ z)
        · exact .inl (.inr (List.mem_singleton.mp z))
    · rw [m_q, M.vs]
      have hbs : b ∈ s0.vs := M.vs ▸ hb
      rcases (m_vs b).mp hb with hbv | rfl
      · -- an old word
        have hbl := J.con.lit b hbv
        have hi0 : (i : Int) ∈ st.sent (-b) := by
          rcases M.old (-b) hbl.neg _ hi with z | z
          · rw [e_sent] at z; exact z
          · have := (hv0 (-b) hbl.neg).mpr (.inr (by rw [Int.neg_neg]; exact hbs))
            rw [z] at this; cases this
        rcases J.pend b hbv i hi0 with ⟨x, z1, z2⟩ | z
        · exact .inl ⟨x, z1, hsub x z2⟩
        · rw [hq] at z
          rcases pend_q z with ⟨z1, _⟩ | ⟨z1, _⟩
          · exact .inl ⟨lit, z1, hlit0⟩
          · exact .inr (z1.more hsub fun hbp => (M.push b hbp).1 hbs)
      · rcases M.done i hi (by simp) with z | ⟨o, z1, z2, z3⟩
        · exact .inl z
        · obtain ⟨p1, p2, hp⟩ := mem_split_last z1
          refine .inr ⟨q ++ p1, o, p2, by rw [hp]; simp, fun hbp => ?_, z2, z3⟩
          exact (M.push b (by rw [hp]; exact List.mem_append_right _ (.tail _ hbp))).1 hbs
    · rw [m_vs a, m_q]
      rcases J.unit a ha with z | z
      · exact .inl (.inl z)
      · rw [hq] at z
        rcases List.mem_append.mp z with z | z
        · exact .inr (List.mem_append_left _ z)
        · exact .inl (.inr (List.mem_singleton.mp z))
    · have h1 := J.qlen
      have h2 := M.plen
      have h3 : F.rows.length * (unset F st' + 1) ≤ F.rows.length * unset F st := Nat.mul_le_mul_left _ hunset
      rw [Nat.mul_succ] at h3
      have h4 : st'.q.length = q.length + ps.length := by rw [m_q, List.length_append]
      have h5 : st.q.length = q.length + 1 := by rw [hq]; simp
      simp at h2
      omega
    · rw [M.bad, e_bad]; exact J.bad
    · rw [M.hp, e_hp]; exact J.hp
end Mine
end
section
open PySem PySem.W PySem.Calls PyProof.Rows
set_option Elab.async false
set_option maxRecDepth 100000
set_option linter.all false
namespace Mine
/-! the plain law: levels, undo, choice -/
def Cur (F : Fix) (S0 cur : List Int) : Prop := (∀ x ∈ S0, x ∈ cur) ∧ (∀ x ∈ cur, Der F.rows S0 x) ∧ Con F cur
def Brought (F : Fix) (S0 : List Int) : Option (List Int) → Prop
  | none => ∃ cur, Cur F S0 cur ∧ ∃ r ∈ F.rows, ∀ c ∈ r, -c ∈ cur
  | some due => Cur F S0 due ∧ ∀ r ∈ F.rows, Sat due r ∨ ∃ a b, a ≠ b ∧ a ∈ r ∧ b ∈ r ∧ -a ∉ due ∧ -b ∉ due
theorem row_at {F : Fix} {r : List Int} (h : r ∈ F.rows) : ∃ i, i < F.rows.length ∧ rowAt F i = r := by
  obtain ⟨i, hi, e⟩ := List.mem_iff_getElem.mp h
  exact ⟨i, hi, by unfold rowAt; rw [List.getD_eq_getElem?_getD, List.getElem?_eq_getElem hi, e]; rfl⟩
theorem one_of {r : List Int} {l : Int} (h1 : ¬ 1 < r.length) (h2 : l ∈ r) : r = [l] := by
  match r, h1, h2 with
  | [a], _, h2 => rw [List.mem_singleton.mp h2]
  | a :: b :: r, h1, _ => simp at h1
structure Good (F : Fix) (sent : Int → List Int) (V : List Int) : Prop where
  con : Con F V
  cl : ∀ b ∈ V, ∀ i : Nat, (i : Int) ∈ sent (-b) → Sat V (rowAt F i)
  un : ∀ a, [a] ∈ F.rows → a ∈ V
theorem Good.watch_false {F : Fix} {sent : Int → List Int} {V r : List Int} (G : Good F sent V) (W : Watch F sent) (R : RowsOk F) (hr : r ∈ F.rows) (hns : ¬ Sat V r) : 1 < r.length ∧ ∃ a b, a ≠ b ∧ a ∈ r ∧ b ∈ r ∧ -a ∉ V ∧ -b ∉ V := by
  have h1 : 1 < r.length := by
    rcases Nat.lt_or_ge 1 r.length with q | q
    · exact q
    · obtain ⟨l, hl⟩ := List.exists_mem_of_ne_nil r (R.ne r hr)
      have := one_of (by omega) hl
      rw [this] at hr hns
      exact absurd ⟨l, by simp, G.un l hr⟩ hns
  obtain ⟨i, hi, rfl⟩ := row_at hr
  obtain ⟨a, b, hab, ha, hb, hw⟩ := W.two i hi h1
  refine ⟨h1, a, b, hab, ha, hb, fun q => hns (G.cl _ q i ?_), fun q => hns (G.cl _ q i ?_)⟩
  · rw [Int.neg_neg]; exact (hw a ha).mpr (.inl rfl)
  · rw [Int.neg_neg]; exact (hw b hb).mpr (.inr rfl)
theorem closed_of {F : Fix} {S0 V : List Int} (opp : ∀ c ∈ V, -c ∉ V) (hS : ∀ x ∈ S0, x ∈ V) (hr : ∀ r ∈ F.rows, Sat V r ∨ ∃ a b, a ≠ b ∧ a ∈ r ∧ b ∈ r ∧ -a ∉ V ∧ -b ∉ V) {x : Int} (D : Der F.rows S0 x) : x ∈ V := by
  induction D with
  | base h => exact hS _ h
  | @unit r l h1 h2 h3 ih =>
    rcases hr r h1 with ⟨w, w1, w2⟩ | ⟨a, b, hab, ha, hb, na, nb⟩
    · by_cases e : w = l
      · rw [← e]; exact w2
      · exact absurd (ih w w1 e) (opp w w2)
    · by_cases e : a = l
      · exact absurd (ih b hb fun q => hab (e.trans q.symm)) nb
      · exact absurd (ih a ha e) na
theorem Good.two {F : Fix} {sent : Int → List Int} {V : List Int} (G : Good F sent V) (W : Watch F sent) (R : RowsOk F) : ∀ r ∈ F.rows, Sat V r ∨ ∃ a b, a ≠ b ∧ a ∈ r ∧ b ∈ r ∧ -a ∉ V ∧ -b ∉ V := fun r hr => by
  by_cases h : Sat V r
  · exact .inl h
  · exact .inr (G.watch_false W R hr h).2
theorem Good.congr {F : Fix} {sent : Int → List Int} {V V' : List Int} (G : Good F sent V) (c : Con F V') (e : ∀ x, x ∈ V' ↔ x ∈ V) : Good F sent V' :=
  ⟨c, fun b hb i hi => let ⟨x, h1, h2⟩ := G.cl b ((e b).mp hb) i hi; ⟨x, h1, (e x).mpr h2⟩, fun a ha => (e a).mpr (G.un a ha)⟩
theorem JJ.good {F : Fix} {c : Cfg} {st : SS} (J : JJ F c st) (hq : st.q = []) : Good F st.sent st.vs := by
  refine ⟨J.con, fun b hb i hi => ?_, fun a ha => ?_⟩
  · rcases J.pend b hb i hi with z | ⟨q1, o, q2, e, _⟩
    · exact z
    · rw [hq] at e; simp at e
  · rcases J.unit a ha with z | z
    · exact z
    · rw [hq] at z; cases z
theorem JJ.agree {F : Fix} {c : Cfg} {st : SS} (J : JJ F c st) (R : RowsOk F) (hq : st.q = []) {o : Option (List Int)} (B : Brought F c.S0 o) : ∃ d, o = some d ∧ Con F d ∧ ∀ x, x ∈ d ↔ x ∈ st.vs := by
  have G := J.good hq
  have sub : ∀ {x}, Der F.rows c.S0 x → x ∈ st.vs := fun D => closed_of J.con.opp (fun x hx => (J.base x hx).resolve_right fun z => by rw [hq] at z; cases z) (G.two J.watch R) D
  cases o with
  | none =>
    obtain ⟨cur, ⟨c1, c2, c3⟩, r, hr, hall⟩ := B
    exfalso
    have hv : ∀ x ∈ r, -x ∈ st.vs := fun x hx => sub (c2 _ (hall x hx))
    rcases G.two J.watch R r hr with ⟨w, w1, w2⟩ | ⟨a, b, _, ha, _, na, _⟩
    · exact J.con.opp w w2 (hv w w1)
    · exact na (hv a ha)
  | some d =>
    obtain ⟨⟨c1, c2, c3⟩, hr⟩ := B
    exact ⟨d, rfl, c3, fun x => ⟨fun hx => sub (c2 x hx), fun hx => closed_of c3.opp c1 hr (J.der x hx)⟩⟩
theorem JJ.clash {F : Fix} {c : Cfg} {st : SS} (J : JJ F c st) {q : List Int} {lit : Int} (hq : st.q = q ++ [lit]) (hl : -lit ∈ st.vs) {o : Option (List Int)} (B : Brought F c.S0 o) : o = none := by
  cases o with
  | none => rfl
  | some d =>
    obtain ⟨⟨c1, c2, c3⟩, hr⟩ := B
    have h1 := closed_of c3.opp c1 hr (J.qder lit (by rw [hq]; simp)).2.2
    have h2 := closed_of c3.opp c1 hr (J.der _ hl)
    exact absurd h2 (c3.opp _ h1)
/-- the levels, oldest first -/
inductive Stk (F : Fix) (sent : Int → List Int) : List Lev → List (List Int) → List Int → Prop
  | base {lv : Lev} {h : List Int} : Good F sent h → (∀ x, x ∈ h ↔ x ∈ lv.set) → Stk F sent [lv] [h] []
  | push {ls : List Lev} {hs : List (List Int)} {cs : List Int} {lv : Lev} {U h : List Int} : Stk F sent ls (hs ++ [U]) cs → Good F sent h → (∀ x, x ∈ h ↔ x ∈ U ∨ x ∈ lv.set) → (∀ x ∈ lv.set, x ∉ U) → lv.dec ∈ lv.set →
      Stk F sent (ls ++ [lv]) (hs ++ [U] ++ [h]) (cs ++ [lv.dec])
theorem Stk.len {F : Fix} {sent : Int → List Int} {ls : List Lev} {hs : List (List Int)} {cs : List Int} (S : Stk F sent ls hs cs) : ls.length = cs.length + 1 ∧ hs.length = cs.length + 1 := by
  induction S with
  | base => simp
  | push _ _ _ _ _ ih => simp at ih ⊢; omega
theorem Stk.ne {F : Fix} {sent : Int → List Int} {ls : List Lev} {hs : List (List Int)} {cs : List Int} (S : Stk F sent ls hs cs) : ls ≠ [] := fun e => by
  have := S.len; rw [e] at this; simp at this
theorem Stk.decs {F : Fix} {sent : Int → List Int} {ls : List Lev} {hs : List (List Int)} {cs : List Int} (S : Stk F sent ls hs cs) : (ls.drop 1).map (fun l => l.dec) = cs := by
  induction S with
  | base => rfl
  | @push ls hs cs lv U h S _ _ _ _ ih =>
    have := S.len
    cases ls with
    | nil => simp at this
    | cons a r => simp at ih ⊢; exact ih
theorem Stk.good {F : Fix} {sent : Int → List Int} {ls : List Lev} {H : List (List Int)} {cs : List Int} (S : Stk F sent ls H cs) : ∀ {hs h}, H = hs ++ [h] → Good F sent h := by
  cases S with
  | base g e =>
    intro hs h e
    have := List.append_inj' (s₁ := []) e rfl
    have := List.singleton_inj.mp this.2
    rw [← this]; exact g
  | push S g e d hdd =>
    intro hs h e
    have := List.append_inj' e rfl
    have := List.singleton_inj.mp this.2
    rw [← this]; exact g
theorem Stk.sub {F : Fix} {sent : Int → List Int} {ls : List Lev} {H : List (List Int)} {cs : List Int} (S : Stk F sent ls H cs) : ∀ {hs h}, H = hs ++ [h] → ∀ V ∈ H, ∀ b ∈ V, b ∈ h := by
  induction S with
  | base g e =>
    intro hs h e V hV b hb
    have := List.append_inj' (s₁ := []) e rfl
    have := List.singleton_inj.mp this.2
    rw [← this, ← List.mem_singleton.mp hV]; exact hb
  | @push ls hs cs lv U h S g e d hdd ih =>
    intro hs' h' e' V hV b hb
    have := List.append_inj' e' rfl
    have : h = h' := by simpa using this.2
    subst this
    rcases List.mem_append.mp hV with z | z
    · exact (e b).mpr (.inl (ih rfl V z b hb))
    · rw [← List.mem_singleton.mp z]; exact hb
theorem Good.mono {F : Fix} {sent sent' : Int → List Int} {V : List Int} (G : Good F sent V) (k : ∀ b ∈ V, ∀ x ∈ sent' (-b), x ∈ sent (-b)) : Good F sent' V := ⟨G.con, fun b hb i hi => G.cl b hb i (k b hb _ hi), G.un⟩
theorem Stk.mono {F : Fix} {sent sent' : Int → List Int} {ls : List Lev} {H : List (List Int)} {cs : List Int} (S : Stk F sent ls H cs) : (∀ V ∈ H, ∀ b ∈ V, ∀ x ∈ sent' (-b), x ∈ sent (-b)) → Stk F sent' ls H cs := by
  induction S with
  | base g e => exact fun k => .base (g.mono (k _ (by simp))) e
  | push S g e d hdd ih => exact fun k => .push (ih fun V hV => k V (List.mem_append_left _ hV)) (g.mono (k _ (by simp))) e d hdd
theorem Stk.pop {F : Fix} {sent : Int → List Int} {ls : List Lev} {H : List (List Int)} {cs : List Int} (S : Stk F sent ls H cs) : ∀ {hs h ds d}, H = hs ++ [h] → cs = ds ++ [d] →
    ∃ ls' lv hs' U, ls = ls' ++ [lv] ∧ hs = hs' ++ [U] ∧ lv.dec = d ∧ Stk F sent ls' (hs' ++ [U]) ds ∧ (∀ x, x ∈ h ↔ x ∈ U ∨ x ∈ lv.set) ∧ (∀ x ∈ lv.set, x ∉ U) ∧ lv.dec ∈ lv.set := by
  cases S with
  | base g e => intro hs h ds d _ e2; simp at e2
  | @push ls hs cs lv U h S g e d hdd =>
    intro hs' h' ds d' e1 e2
    have a := List.append_inj' e1 rfl
    have b := List.append_inj' e2 rfl
    have a2 : h = h' := by simpa using a.2
    have b2 : lv.dec = d' := by simpa using b.2
    subst a2
    exact ⟨ls, lv, hs, U, rfl, a.1.symm, b2, b.1 ▸ S, e, d, hdd⟩
structure Plain (F : Fix) (st : SS) (hs : List (List Int)) (h cs : List Int) : Prop where
  stk : Stk F st.sent st.lev (hs ++ [h]) cs
  vs : ∀ x, x ∈ st.vs ↔ x ∈ h
  vnd : st.vs.Nodup
  vset : VsetOk F st
  watch : Watch F st.sent
  q : st.q = []
  bad : st.bad = false
/-- one level may be taken back -/
structure Back (F : Fix) (st : SS) (ls : List Lev) (lv : Lev) (hs : List (List Int)) (U cs : List Int) : Prop where
  lev : st.lev = ls ++ [lv]
  stk : Stk F st.sent ls (hs ++ [U]) cs
  vs : ∀ x, x ∈ st.vs ↔ x ∈ U ∨ x ∈ lv.set
  dis : ∀ x ∈ lv.set, x ∉ U
  con : Con F st.vs
  vset : VsetOk F st
  watch : Watch F st.sent
  q : st.q = []
  bad : st.bad = false
theorem Plain.con {F : Fix} {st : SS} {hs : List (List Int)} {h cs : List Int} (P : Plain F st hs h cs) : Con F st.vs := by
  have G := P.stk.good rfl
  exact ⟨P.vnd, fun x hx => G.con.lit x ((P.vs x).mp hx), fun x hx hx2 => G.con.opp x ((P.vs x).mp hx) ((P.vs _).mp hx2)⟩
theorem Plain.back {F : Fix} {st : SS} {hs : List (List Int)} {h cs : List Int} {d : Int} (P : Plain F st hs h (cs ++ [d])) : ∃ ls lv hs' U, hs = hs' ++ [U] ∧ lv.dec = d ∧ lv.dec ∈ lv.set ∧ Back F st ls lv hs' U cs := by
  obtain ⟨ls, lv, hs', U, e1, e2, e3, S, e, dd, hdd⟩ := P.stk.pop rfl rfl
  exact ⟨ls, lv, hs', U, e2, e3, hdd, e1, S, fun x => (P.vs x).trans (e x), dd, P.con, P.vset, P.watch, P.q, P.bad⟩
theorem Back.undo {F : Fix} {st st' : SS} {ls : List Lev} {lv : Lev} {hs : List (List Int)} {U cs js : List Int} (B : Back F st ls lv hs U cs) (hj : js.Perm lv.set) (D : Undo F st js st') (hl : st'.lev = ls) (hnd : st'.vs.Nodup) : Plain F st' hs U cs := by
  have hjv : ∀ x ∈ js, x ∈ st.vs := fun x hx => (B.vs x).mpr (.inr (hj.mem_iff.mp hx))
  refine ⟨by rw [D.sent, hl]; exact B.stk, fun x => ?_, hnd, fun c hc => ?_, by rw [D.sent]; exact B.watch, D.q.trans B.q, D.bad.trans B.bad⟩
  · rw [D.vs x, B.vs x, hj.mem_iff]
    constructor
    · rintro ⟨z | z, n⟩
      · exact z
      · exact absurd z n
    · exact fun z => ⟨.inl z, fun q => B.dis x q z⟩
  · rw [D.vset, D.vs, D.vs, Bool.and_eq_true, B.vset c hc, Bool.not_eq_true', List.any_eq_false]
    constructor
    · rintro ⟨z | z, n⟩
      · exact .inl ⟨z, fun q => n c q (by simp)⟩
      · exact .inr ⟨z, fun q => n (-c) q (by simp)⟩
    · rintro (⟨z, n⟩ | ⟨z, n⟩)
      · refine ⟨.inl z, fun l hl e => ?_⟩
        rcases Int.natAbs_eq_natAbs_iff.mp (by simpa using e) with q | q
        · exact n (q ▸ hl)
        · exact B.con.opp c z (by rw [← q]; exact hjv l hl)
      · refine ⟨.inr z, fun l hl e => ?_⟩
        rcases Int.natAbs_eq_natAbs_iff.mp (by simpa using e) with q | q
        · exact B.con.opp _ z (by rw [Int.neg_neg, ← q]; exact hjv l hl)
        · exact n (q ▸ hl)
structure HeapOk (F : Fix) (st : SS) (ex : Int) : Prop where
  ok : ∀ p ∈ st.hp, IsLit F p.2 ∧ p.1 = F.sc p.2
  all : ∀ l, IsLit F l → st.vset l.natAbs = false → l ≠ ex → (F.sc l, l) ∈ st.hp
theorem entries_all {F : Fix} {j l : Int} (h : j.natAbs = l.natAbs) : (F.sc l, l) ∈ entries F j := by
  unfold entries
  rcases Int.natAbs_eq l with q | q
  · rw [h, ← q]; simp
  · have : -((j.natAbs : Nat) : Int) = l := by omega
    rw [this]; simp
theorem entries_ok {F : Fix} {j : Int} (h : IsLit F j) {p : Pair} (hp : p ∈ entries F j) : IsLit F p.2 ∧ p.1 = F.sc p.2 := by
  unfold entries at hp
  have h1 := h.1
  have h2 := h.2
  rcases List.mem_cons.mp hp with rfl | hp
  · exact ⟨⟨by show ((j.natAbs : Nat) : Int) ≠ 0; omega, by show ((j.natAbs : Nat) : Int).natAbs ≤ _; omega⟩, rfl⟩
  · rw [List.mem_singleton.mp hp]
    exact ⟨⟨by show -((j.natAbs : Nat) : Int) ≠ 0; omega, by show (-((j.natAbs : Nat) : Int)).natAbs ≤ _; omega⟩, rfl⟩
theorem HeapOk.undo {F : Fix} {st st' : SS} {js : List Int} {ex : Int} (H : HeapOk F st ex) (D : Undo F st js st') (hj : ∀ x ∈ js, IsLit F x) (hex : IsLit F ex → st.vset ex.natAbs = true) : HeapOk F st' 0 := by
  refine ⟨fun p hp => ?_, fun l hl hv _ => ?_⟩
  · rcases List.mem_append.mp (D.hp.mem_iff.mp hp) with z | z
    · exact H.ok p z
    · obtain ⟨j, h1, h2⟩ := List.mem_flatMap.mp z
      exact entries_ok (hj j h1) h2
  · refine D.hp.mem_iff.mpr (List.mem_append.mpr ?_)
    rw [D.vset] at hv
    cases hs : st.vset l.natAbs with
    | false => exact .inl (H.all l hl hs fun e => by subst e; rw [hex hl] at hs; cases hs)
    | true =>
      rw [hs, Bool.true_and, Bool.not_eq_false'] at hv
      obtain ⟨j, h1, h2⟩ := List.any_eq_true.mp hv
      exact .inr (List.mem_flatMap.mpr ⟨j, h1, entries_all (by simpa using h2)⟩)
theorem entries_len {F : Fix} (js : List Int) : (js.flatMap (entries F)).length = 2 * js.length := by
  induction js with
  | nil => rfl
  | cons a r ih => rw [List.flatMap_cons, List.length_append, ih]; simp [entries]; omega
theorem lits_len {F : Fix} {l : List Int} (h : l.Nodup) (hl : ∀ x ∈ l, IsLit F x) : l.length ≤ 2 * F.many := by
  have := nodup_le (m := (List.range F.many).flatMap fun k => [((k : Nat) : Int) + 1, -(((k : Nat) : Int) + 1)]) h fun x hx => by
    have h1 := (hl x hx).1
    have h2 := (hl x hx).2
    refine List.mem_flatMap.mpr ⟨x.natAbs - 1, List.mem_range.mpr (by omega), ?_⟩
    rcases Int.natAbs_eq x with q | q
    · have : ((x.natAbs - 1 : Nat) : Int) + 1 = x := by omega
      rw [this]; simp
    · have : -(((x.natAbs - 1 : Nat) : Int) + 1) = x := by omega
      rw [this]; simp
  refine Nat.le_trans this ?_
  have : ∀ n, ((List.range n).flatMap fun k => [((k : Nat) : Int) + 1, -(((k : Nat) : Int) + 1)]).length = 2 * n := fun n => by
    induction n with
    | zero => rfl
    | succ n ih => rw [List.range_succ, List.flatMap_append, List.length_append, ih]; simp; omega
  rw [this]; exact Nat.le_refl _
def cfg (st : SS) (h : List Int) (word : Int) (b : Bool) : Cfg := ⟨st.lev, word, b, h, h ++ [word], st.sent, st.hp⟩
structure Small (F : Fix) : Prop where
  many : F.many ≤ 50
  rows : F.rows.length ≤ 50
theorem unset_le {F : Fix} {st : SS} : unset F st ≤ F.many := by
  unfold unset
  refine Nat.le_trans (List.length_filter_le _ _) ?_
  simp
theorem Small.qlen {F : Fix} (S : Small F) {st : SS} (h : st.q.length ≤ 1) : st.q.length + F.rows.length * unset F st ≤ 9000 := by
  have : F.rows.length * unset F st ≤ 50 * 50 := Nat.mul_le_mul S.rows (Nat.le_trans unset_le S.many)
  omega
theorem Plain.start {F : Fix} {st : SS} {hs : List (List Int)} {h cs : List Int} {word : Int} {b : Bool} (P : Plain F st hs h cs) (S : Small F) (hw : IsLit F word) (h1 : word ∉ h) : JJ F (cfg st h word b) { st with lev := st.lev ++ [⟨word, [], b⟩], q := [word] } := by
  have G := P.stk.good rfl
  refine ⟨⟨[], rfl, .nil, fun x => by rw [P.vs x]; simp [cfg], fun x hx => nomatch hx⟩, P.con, P.vset, P.watch, fun b hb x hx => hx, fun x hx => .base (by simp [cfg]; exact .inl ((P.vs x).mp hx)), fun x hx => ?_, fun x hx => ?_, fun d hd i hi => ?_, fun a ha => .inl ((P.vs a).mpr (G.un a ha)), S.qlen (by simp), P.bad, rfl⟩
  · rw [List.mem_singleton.mp hx]
    exact ⟨hw, h1, .base (by simp [cfg])⟩
  · rcases List.mem_append.mp hx with z | z
    · exact .inl ((P.vs x).mpr z)
    · exact .inr z
  · obtain ⟨x, h1, h2⟩ := G.cl d ((P.vs d).mp hd) i hi
    exact .inl ⟨x, h1, (P.vs x).mpr h2⟩
theorem fold_vs {F : Fix} {lit : Int} : ∀ (js : List Nat) (st : SS), (js.foldl (stepA F lit) st).vs = st.vs
  | [], st => rfl
  | i :: r, st => by
    rw [List.foldl_cons, fold_vs r]
    unfold stepA
    split
    · rfl
    · split
      · rfl
      · split <;> rfl
theorem nextS_vs {F : Fix} {st : SS} {q : List Int} {lit : Int} {ls : List Lev} {lv : Lev} {js : List Int} : (nextS F st q lit ls lv js).vs = adds st.vs lit := by
  unfold nextS; rw [fold_vs]; rfl
theorem Plain.first {F : Fix} {st : SS} {hs : List (List Int)} {h cs : List Int} {word : Int} {b : Bool} (P : Plain F st hs h cs) (R : RowsOk F) (S : Small F) (hw : IsLit F word) (h1 : word ∉ h) (h2 : -word ∉ h) (js : List Int) (hj : js.Perm (st.sent (-word))) :
    JJ F (cfg st h word b) ((js.map Int.toNat).foldl (stepA F word) (begin_ { st with lev := st.lev ++ [⟨word, [], b⟩] } st.lev ⟨word, [], b⟩ word)) ∧ word ∈ ((js.map Int.toNat).foldl (stepA F word) (begin_ { st with lev := st.lev ++ [⟨word, [], b⟩] } st.lev ⟨word, [], b⟩ word)).vs := by
  have J := P.start (b := b) S hw h1
  have := (J.step R (q := []) (lit := word) rfl rfl (fun z => h2 ((P.vs _).mp z)) hj).1
  have e : nextS F { st with lev := st.lev ++ [⟨word, [], b⟩], q := [word] } [] word st.lev ⟨word, [], b⟩ js = (js.map Int.toNat).foldl (stepA F word) (begin_ { st with lev := st.lev ++ [⟨word, [], b⟩] } st.lev ⟨word, [], b⟩ word) := by
    unfold nextS
    have := P.q
    obtain ⟨a1, a2, a3, a4, a5, a6, a7⟩ := st
    dsimp only at this
    subst this
    rfl
  rw [e] at this
  refine ⟨this, ?_⟩
  rw [← e, nextS_vs]
  exact mem_adds.mpr (.inr rfl)
/-- what the settling carries -/
def JW (F : Fix) (st0 : SS) (h : List Int) (word : Int) (b : Bool) (st : SS) : Prop := JJ F (cfg st0 h word b) st ∧ word ∈ st.vs
theorem JW.step {F : Fix} {st0 : SS} {h : List Int} {word : Int} {b : Bool} (R : RowsOk F) : ∀ st q lit ls lv js, JW F st0 h word b st → st.q = q ++ [lit] → st.lev = ls ++ [lv] → -lit ∉ st.vs → js.Perm (st.sent (-lit)) →
    JW F st0 h word b (nextS F st q lit ls lv js) ∧ (unset F (nextS F st q lit ls lv js) < unset F st ∨ (unset F (nextS F st q lit ls lv js) = unset F st ∧ (nextS F st q lit ls lv js).q.length < st.q.length)) := fun st q lit ls lv js J hq hl hn hj => by
  have := J.1.step R hq hl hn hj
  exact ⟨⟨this.1, by rw [nextS_vs]; exact mem_adds.mpr (.inl J.2)⟩, this.2⟩
theorem JJ.fit {F : Fix} {c : Cfg} {st : SS} (J : JJ F c st) (S : Small F) : Fit F st := by
  obtain ⟨s, h1, h2, h3, h4⟩ := J.lev
  refine ⟨by rw [h1]; simp, ?_, fun ls lv e => ?_, fun l hl => ?_, ?_, fun l hl x hx => ?_, fun l hl => (J.qder l hl).1⟩
  · have := lits_len J.con.nd J.con.lit; have := S.many; omega
  · have := List.append_inj' (e.symm.trans h1) rfl
    have : lv = ⟨c.dec, s, c.flip⟩ := by simpa using this.2
    subst this
    have := nodup_le (m := st.vs) h2 fun x hx => (h3 x).mpr (.inr hx)
    have := lits_len J.con.nd J.con.lit; have := S.many
    show s.length ≤ 900
    omega
  · have := J.watch.len hl; have := S.rows; omega
  · have := J.qlen; omega
  · obtain ⟨i, rfl, hi, _⟩ := J.watch.rng l hl x hx
    exact ⟨by omega, by omega⟩
theorem Plain.fit {F : Fix} {st : SS} {hs : List (List Int)} {h cs : List Int} (P : Plain F st hs h cs) (S : Small F) (hset : ∀ ls lv, st.lev = ls ++ [lv] → lv.set.length ≤ 900) : Fit F st := by
  refine ⟨P.stk.ne, ?_, hset, fun l hl => ?_, by rw [P.q]; simp, fun l hl x hx => ?_, fun l hl => by rw [P.q] at hl; cases hl⟩
  · have := lits_len P.con.nd P.con.lit; have := S.many; omega
  · have := P.watch.len hl; have := S.rows; omega
  · obtain ⟨i, rfl, hi, _⟩ := P.watch.rng l hl x hx
    exact ⟨by omega, by omega⟩
theorem JJ.plain {F : Fix} {st0 st : SS} {hs : List (List Int)} {h cs d : List Int} {word : Int} {b : Bool} (P : Plain F st0 hs h cs) (J : JJ F (cfg st0 h word b) st) (hw : word ∈ st.vs) (hwn : word ∉ h) (hq : st.q = []) (hc : Con F d) (hd : ∀ x, x ∈ d ↔ x ∈ st.vs) : Plain F st (hs ++ [h]) d (cs ++ [word]) := by
  obtain ⟨s, h1, h2, h3, h4⟩ := J.lev
  refine ⟨?_, fun x => (hd x).symm, J.con.nd, J.vset, J.watch, hq, J.bad⟩
  rw [h1]
  exact .push (lv := ⟨word, s, b⟩) (P.stk.mono fun V hV b hb x hx => J.low b (P.stk.sub rfl V hV b hb) x hx) ((J.good hq).congr hc hd) (fun x => (hd x).trans (h3 x)) h4 (((h3 word).mp hw).resolve_left hwn)
theorem JJ.back {F : Fix} {st0 st : SS} {hs : List (List Int)} {h cs : List Int} {word : Int} {b : Bool} (P : Plain F st0 hs h cs) (J : JJ F (cfg st0 h word b) st) : ∃ s, Back F { st with q := [], bad := false } st0.lev ⟨word, s, b⟩ hs h cs := by
  obtain ⟨s, h1, h2, h3, h4⟩ := J.lev
  exact ⟨s, h1, P.stk.mono fun V hV b hb x hx => J.low b (P.stk.sub rfl V hV b hb) x hx, h3, h4, J.con, J.vset, J.watch, rfl, rfl⟩
theorem JW.heap {F : Fix} {st0 st : SS} {hs : List (List Int)} {h cs : List Int} {word : Int} {b : Bool} (P : Plain F st0 hs h cs) (H : HeapOk F st0 word) (J : JW F st0 h word b st) : HeapOk F st 0 ∧ st.hp = st0.hp := by
  have hp : st.hp = st0.hp := J.1.hp
  obtain ⟨s, h1, h2, h3, h4⟩ := J.1.lev
  refine ⟨⟨by rw [hp]; exact H.ok, fun l hl hv _ => ?_⟩, hp⟩
  rw [hp]
  have hn : ∀ {p : Prop}, (l ∈ st.vs ∨ -l ∈ st.vs) → p := fun z => by rw [(J.1.vset l hl).mpr z] at hv; cases hv
  refine H.all l hl ?_ fun e => hn (.inl (e ▸ J.2))
  cases hc : st0.vset l.natAbs with
  | false => rfl
  | true =>
    rcases (P.vset l hl).mp hc with z | z
    · exact hn (.inl ((h3 _).mpr (.inl ((P.vs _).mp z))))
    · exact hn (.inr ((h3 _).mpr (.inl ((P.vs _).mp z))))
/-! the choice -/
def tally (F : Fix) (l : Int) : Nat := (F.rows.filter fun r => decide (1 < r.length) && decide (l ∈ r)).length
def ChoiceIs (F : Fix) (settled : List Int) (n : Int) : Prop :=
  (n = 0 ∧ ∀ l, IsLit F l → l ∈ settled ∨ -l ∈ settled) ∨
  (IsLit F n ∧ n ∉ settled ∧ -n ∉ settled ∧ ∀ l, IsLit F l → l ∉ settled → -l ∉ settled → tally F l < tally F n ∨ (tally F l = tally F n ∧ n ≤ l))
def ScOk (F : Fix) : Prop := ∀ l, IsLit F l → F.sc l = -(tally F l : Int)
theorem Plain.choice {F : Fix} {st : SS} {hs : List (List Int)} {h cs : List Int} {hp' : List Pair} {lit n : Int} (P : Plain F st hs h cs) (H : HeapOk F st 0) (sc : ScOk F) (C : Calc st.vset st.hp hp' lit) (N : ChoiceIs F h n) :
    lit = n ∧ (lit ≠ 0 → IsLit F lit ∧ lit ∉ h ∧ -lit ∉ h) := by
  have hun : ∀ l, IsLit F l → (st.vset l.natAbs = false ↔ l ∉ h ∧ -l ∉ h) := fun l hl => by
    have := P.vset l hl
    rw [P.vs, P.vs] at this
    cases hv : st.vset l.natAbs with
    | true => rw [hv] at this; simp at this ⊢; intro q; exact this.resolve_left q
    | false => rw [hv] at this; simp at this ⊢; exact this
  have hin : ∀ l, IsLit F l → l ∉ h → -l ∉ h → (F.sc l, l) ∈ st.hp ∧ st.vset l.natAbs = false := fun l hl h1 h2 => by
    have := (hun l hl).mpr ⟨h1, h2⟩
    exact ⟨H.all l hl this hl.1, this⟩
  rcases C.ans with ⟨rfl, hall⟩ | ⟨s, hs, hv, hle⟩
  · refine ⟨?_, fun h => absurd rfl h⟩
    rcases N with ⟨rfl, _⟩ | ⟨n1, n2, n3, _⟩
    · rfl
    · obtain ⟨h1, h2⟩ := hin n n1 n2 n3
      have := hall _ h1
      rw [h2] at this; cases this
  · obtain ⟨hl, hse⟩ := H.ok _ hs
    have hse : s = F.sc lit := hse
    have hl : IsLit F lit := hl
    subst hse
    obtain ⟨u1, u2⟩ := (hun lit hl).mp hv
    refine ⟨?_, fun _ => ⟨hl, u1, u2⟩⟩
    rcases N with ⟨_, n2⟩ | ⟨n1, n2, n3, n4⟩
    · rcases n2 lit hl with z | z
      · exact absurd z u1
      · exact absurd z u2
    · obtain ⟨h1, h2⟩ := hin n n1 n2 n3
      have a := hle _ h1 h2
      have b := n4 lit hl u1 u2
      unfold PLe at a
      dsimp only at a
      rw [sc lit hl, sc n n1] at a
      omega
theorem Calc.heap {F : Fix} {st st' : SS} {lit : Int} (H : HeapOk F st 0) (B : ButHp st st') (C : Calc st.vset st.hp st'.hp lit) : HeapOk F st' lit := by
  refine ⟨fun p hp => H.ok p (C.sub p hp), fun l hl hv hne => ?_⟩
  rw [B.vset] at hv
  exact (C.keep _ (H.all l hl hv hl.1) hv).resolve_left hne
theorem Plain.butHp {F : Fix} {st st' : SS} {hs : List (List Int)} {h cs : List Int} (P : Plain F st hs h cs) (B : ButHp st st') : Plain F st' hs h cs := by
  obtain ⟨b1, b2, b3, b4, b5, b6⟩ := B
  exact ⟨by rw [b3, b6]; exact P.stk, by rw [b1]; exact P.vs, by rw [b1]; exact P.vnd, by unfold VsetOk; rw [b2, b1]; exact P.vset, by rw [b3]; exact P.watch, b4.trans P.q, b5.trans P.bad⟩
/-! each row of two words or more has two watches -/
theorem filter_two {l : List Int} {a b : Int} {p : Int → Bool} (h : l.Nodup) (ha : a ∈ l) (hb : b ∈ l) (hab : a ≠ b) (hp : ∀ c ∈ l, (p c = true ↔ c = a ∨ c = b)) : (l.filter p).length = 2 := by
  have h1 := nodup_le (l := l.filter p) (m := [a, b]) (h.filter _) fun x hx => by
    obtain ⟨x1, x2⟩ := List.mem_filter.mp hx
    have := (hp x x1).mp x2
    simpa using this
  have h2 := nodup_le (l := [a, b]) (m := l.filter p) (by simp [hab]) fun x hx => by
    have : x = a ∨ x = b := by simpa using hx
    rcases this with rfl | rfl
    · exact List.mem_filter.mpr ⟨ha, (hp _ ha).mpr (.inl rfl)⟩
    · exact List.mem_filter.mpr ⟨hb, (hp _ hb).mpr (.inr rfl)⟩
  simp at h1 h2; omega
theorem Watch.filter {F : Fix} {sent : Int → List Int} (W : Watch F sent) (R : RowsOk F) {i : Nat} (hi : i < F.rows.length) (h1 : 1 < (rowAt F i).length) : ((rowAt F i).filter fun c => decide ((i : Int) ∈ sent c)).length = 2 := by
  obtain ⟨a, b, hab, ha, hb, hw⟩ := W.two i hi h1
  exact filter_two (R.nd _ (rowAt_mem hi)) ha hb hab fun c hc => by rw [decide_eq_true_eq]; exact hw c hc
end Mine
end
section
open PySem PySem.W PySem.Calls PyProof.Rows
set_option Elab.async false
set_option maxRecDepth 100000
set_option linter.all false
namespace Mine
/-! the plain look, one step -/
def unsat (F : Fix) (V : List Int) : Nat := (F.rows.filter fun r => !(r.any fun w => decide (w ∈ V))).length
def Fine (V r : List Int) : Prop := Sat V r ∨ ∃ a b, a ≠ b ∧ a ∈ r ∧ b ∈ r ∧ -a ∉ V ∧ -b ∉ V
theorem sat_filter {V r : List Int} : r.filter (fun w => decide (w ∈ V)) ≠ [] ↔ Sat V r := by
  constructor
  · intro h
    obtain ⟨x, hx⟩ := List.exists_mem_of_ne_nil _ h
    obtain ⟨h1, h2⟩ := List.mem_filter.mp hx
    exact ⟨x, h1, of_decide_eq_true h2⟩
  · rintro ⟨x, h1, h2⟩ h
    have : x ∈ r.filter fun w => decide (w ∈ V) := List.mem_filter.mpr ⟨h1, decide_eq_true h2⟩
    rw [h] at this; cases this
theorem left_nil {V r : List Int} (h : r.filter (fun w => !decide (-w ∈ V)) = []) : ∀ c ∈ r, -c ∈ V := fun c hc => by
  have := List.filter_eq_nil_iff.mp h c hc
  simpa using this
theorem cur_add {F : Fix} {S0 cur r : List Int} {c : Int} (R : RowsOk F) (C : Cur F S0 cur) (hr : r ∈ F.rows) (hs : ¬ Sat cur r) (hf : r.filter (fun w => !decide (-w ∈ cur)) = [c]) : Cur F S0 (cur ++ [c]) ∧ unsat F (cur ++ [c]) < unsat F cur := by
  have hc : c ∈ r.filter fun w => !decide (-w ∈ cur) := by rw [hf]; simp
  obtain ⟨c1, c2⟩ := List.mem_filter.mp hc
  have c2 : -c ∉ cur := by simpa using c2
  have c3 : c ∉ cur := fun q => hs ⟨c, c1, q⟩
  have hl := R.lit r hr c c1
  have hl0 := hl.1
  refine ⟨⟨fun x hx => List.mem_append_left _ (C.1 x hx), fun x hx => ?_, ?_, fun x hx => ?_, fun x hx hx2 => ?_⟩, ?_⟩
  · rcases List.mem_append.mp hx with z | z
    · exact C.2.1 x z
    · rw [List.mem_singleton.mp z]
      refine .unit hr c1 fun d hd hne => C.2.1 _ ?_
      by_cases q : -d ∈ cur
      · exact q
      · have : d ∈ r.filter fun w => !decide (-w ∈ cur) := List.mem_filter.mpr ⟨hd, by simpa using q⟩
        rw [hf] at this
        exact absurd (List.mem_singleton.mp this) hne
  · refine List.nodup_append.mpr ⟨C.2.2.nd, by simp, fun a ha b hb e => ?_⟩
    rw [List.mem_singleton.mp hb] at e
    exact c3 (e ▸ ha)
  · rcases List.mem_append.mp hx with z | z
    · exact C.2.2.lit x z
    · rw [List.mem_singleton.mp z]; exact hl
  · rcases List.mem_append.mp hx with z | z
    · rcases List.mem_append.mp hx2 with z2 | z2
      · exact C.2.2.opp x z z2
      · have := List.mem_singleton.mp z2
        exact c2 (by rw [← this, Int.neg_neg]; exact z)
    · have e := List.mem_singleton.mp z
      rcases List.mem_append.mp hx2 with z2 | z2
      · exact c2 (by rw [← e]; exact z2)
      · have := List.mem_singleton.mp z2
        omega
  · unfold unsat
    refine filter_lt' (y := r) (fun x _ hx => ?_) hr ?_ ?_
    · simp only [Bool.not_eq_true'] at hx ⊢
      rw [List.any_eq_false] at hx ⊢
      intro w hw
      have := hx w hw
      simp at this ⊢
      exact this.1
    · simp only [Bool.not_eq_true']
      rw [← Bool.not_eq_true, sat_iff]; exact hs
    · simp only [Bool.not_eq_false']
      rw [sat_iff]; exact ⟨c, c1, by simp⟩
theorem fine_two {V r : List Int} (hn : r.Nodup) (h0 : r.filter (fun w => !decide (-w ∈ V)) ≠ []) (h1 : (r.filter fun w => !decide (-w ∈ V)).length ≠ 1) : Fine V r := by
  right
  have hnd := hn.filter (fun w => !decide (-w ∈ V))
  match hm : r.filter fun w => !decide (-w ∈ V), h0, h1 with
  | [a], _, h1 => simp at h1
  | a :: b :: rest, _, _ =>
    rw [hm] at hnd
    have ha : a ∈ r.filter fun w => !decide (-w ∈ V) := by rw [hm]; simp
    have hb : b ∈ r.filter fun w => !decide (-w ∈ V) := by rw [hm]; simp
    obtain ⟨a1, a2⟩ := List.mem_filter.mp ha
    obtain ⟨b1, b2⟩ := List.mem_filter.mp hb
    refine ⟨a, b, fun e => ?_, a1, b1, by simpa using a2, by simpa using b2⟩
    rw [e] at hnd
    simp at hnd
end Mine
end
section
open PySem PySem.W PySem.Calls PyProof.Rows
set_option Elab.async false
set_option maxRecDepth 100000
set_option linter.all false
namespace Mine
/-- a list of lists of ints -/
structure RowsH (h : Heap) (a : Addr) (rows : List (List Int)) : Prop where
  has : ∃ o vs, h.get? a = some o ∧ LsO vs o ∧ vs.length = rows.length ∧ ∀ (i : Nat) v, vs[i]? = some v → ∃ T oT, v = .ref T ∧ h.get? T = some oT ∧ IntsO (rows.getD i []) oT
theorem RowsH.keep {h h' : Heap} {a : Addr} {rows : List (List Int)} (x : RowsH h a rows) (k : Keep h h') : RowsH h' a rows := by
  obtain ⟨o, vs, e, L, hl, hv⟩ := x.has
  exact ⟨o, vs, k _ _ e, L, hl, fun i v hi => let ⟨T, oT, e1, e2, e3⟩ := hv i v hi; ⟨T, oT, e1, k _ _ e2, e3⟩⟩
theorem keep_hid0 (h : Heap) : Keep h (hid h []) := fun b o e => hid_get e (by simp)
section
variable {κ : Kx} {env : Env} {h : Heap}
/-- `[x for x in row if test]` over a list of ints -/
theorem LCore_sieve {x : Str} {px py : Pos} {iter test : Expr} {scope : Scope} {pos : Pos} {cl : List (Str × Addr)} {Q : Value → Heap → Prop} {m : Nat} (R : Room κ m) (p : Int → Bool)
    (e : T κ (eval iter env) (fun xv h₁ => ∃ a o row, xv = .ref a ∧ h₁.get? a = some o ∧ IntsO row o ∧ row.length ≤ 1000 ∧ TopIn κ.w h₁ ∧
      (∀ C w tw l H' h', Keep h₁ H' → w ∈ row → St κ.w H' C ((x, .int w tw) :: l) [] [] h' → T κ (isTrue test (compEnvC scope cl C env) (eval test (compEnvC scope cl C env))) (fun b h₄ => b = p w ∧ ∃ X', St κ.w H' C ((x, .int w tw) :: l) [] X' h₄) h') ∧
      (∀ D o h', IntsO (row.filter p) o → Nw h₁ D o h' → Q (.ref D) h')) h)
    (hkind : scope.kind = .function := by rfl) (hx : scope.names.lookup x = some .local := by rfl) (hd : (x == ("__debug__" : Str)) = false := by decide) :
    LCoreE κ env (.Name x py) (.Name x px) iter [test] [] scope pos (fun cl' X0 => cl' = cl ∧ X0 = []) Q h := by
  refine LCore_lro (e.mono fun xv h₁ z => ?_) hkind hx
  obtain ⟨a, o, row, rfl, ho, ⟨vs, L, i⟩, hlen, top, turn, done⟩ := z
  have hvl : vs.length = row.length := i.length
  refine T_iter_list R L ho fun I h' it => ?_
  refine LRo.pure (fun j ys => IntsAre ys ((row.take j).filter p)) (by rw [hvl]; omega) it (fun q hq => by rw [List.mem_singleton.mp hq]; exact ho) top .nil (fun C j v ys l H' h' hk hj hP hI S => ?_) (fun ys D o h' hI L' c => ?_)
  · obtain ⟨w, tw, hw, rfl⟩ := ints_of_at i hP
    have htk := take_succ_of hw
    refine T_tests_one ((turn C w tw l H' h' hk (List.mem_of_getElem? hw) S).mono fun b h₄ ⟨hb, X', S4⟩ => ?_)
    subst hb
    cases hp : p w with
    | true =>
      rw [if_pos rfl]
      refine T_loc (v := .int w tw) S4 (by simp [look]) ?_ rfl hkind (lookup_relabel_local hx) hd
      refine ⟨_, _, S4, ?_⟩
      rw [htk, List.filter_append, List.filter_cons_of_pos hp, List.filter_nil]
      exact ints_app hI (.cons _ _ .nil)
    | false =>
      rw [if_neg (by simp)]
      refine ⟨_, _, S4, ?_⟩
      rw [htk, List.filter_append, List.filter_cons_of_neg (by rw [hp]; simp), List.filter_nil, List.append_nil]
      exact hI
  · refine done D o h' ⟨ys, L', ?_⟩ c
    rw [hvl, List.take_length] at hI
    exact hI
theorem T_sieve {x : Str} {px py : Pos} {iter test : Expr} {scope : Scope} {pos : Pos} {cl : List (Str × Addr)} {Q : Value → Heap → Prop} {m : Nat} (R : Room κ m) (p : Int → Bool)
    (e : T κ (eval iter env) (fun xv h₁ => ∃ a o row, xv = .ref a ∧ h₁.get? a = some o ∧ IntsO row o ∧ row.length ≤ 1000 ∧ TopIn κ.w h₁ ∧
      (∀ C w tw l H' h', Keep h₁ H' → w ∈ row → St κ.w H' C ((x, .int w tw) :: l) [] [] h' → T κ (isTrue test (compEnvC scope cl C env) (eval test (compEnvC scope cl C env))) (fun b h₄ => b = p w ∧ ∃ X', St κ.w H' C ((x, .int w tw) :: l) [] X' h₄) h') ∧
      (∀ D o h', IntsO (row.filter p) o → Nw h₁ D o h' → Q (.ref D) h')) h)
    (hclos : closureFor scope env = pure cl := by rfl) (hkind : scope.kind = .function := by rfl) (hnames : ∀ y ∈ scope.names, y.2 = .local → scope.names.lookup y.1 = some .local := by decide) (hs : ∀ x, foldedSetIterable iter env x = pure x := by intro _; rfl)
    (hcell : ∀ y ∈ scope.names, y.2 ≠ .cell := by decide) (hx : scope.names.lookup x = some .local := by rfl) (hd : (x == ("__debug__" : Str)) = false := by decide) :
    T κ (eval (.ListComp (.Name x py) [⟨.Name x px, iter, [test], 0⟩] scope pos) env) Q h :=
  T_listcomp_core hclos hkind hnames hs (NewEnv.plain hcell hkind) (LCore_sieve R p e hkind hx hd)
end
end Mine
end
section
open PySem PySem.W PySem.Calls PyProof.Rows
set_option Elab.async false
set_option maxRecDepth 100000
set_option linter.all false
namespace Mine

set_option hygiene false in
local macro_rules | `(tactic| walk_at "e") => `(tactic| ((with_reducible show T _ (eval _ _) _ _); first
  | ((with_reducible show T _ (eval (Expr.Name _ _) _) _ _); first
    | ((with_reducible show T _ (eval (Expr.Name "len" _) _) _ _); refine N_len S (by k_is) ?_)
    | ((with_reducible show T _ (eval (Expr.Name "abs" _) _) _ _); refine N_abs S (by k_is) ?_)
    | ((with_reducible show T _ (eval (Expr.Name "sorted" _) _) _ _); refine N_sorted S (by k_is) ?_)
    | ((with_reducible show T _ (eval (Expr.Name "list" _) _) _ _); refine N_list S (by k_is) ?_)
    | ((with_reducible show T _ (eval (Expr.Name "range" _) _) _ _); refine N_range S (by k_is) ?_)
    | ((with_reducible show T _ (eval (Expr.Name "set" _) _) _ _); refine N_set S (by k_is) ?_)
    | ((with_reducible show T _ (eval (Expr.Name "enumerate" _) _) _ _); refine N_enumerate S (by k_is) ?_)
    | refine T_loc S (by first | rfl | exact hn1 | exact hn2 | exact hn3 | exact hn4 | exact hn5) ?_
    | refine T_glob S (by k_is) ?_)
  | ((with_reducible show T _ (eval (Expr.Constant (Const.int _) _ _) _) _ _); refine T_int (fun t => ?_))
  | ((with_reducible show T _ (eval (Expr.Attribute _ _ _) _) _ _); refine T_attr ?_)
  | ((with_reducible show T _ (eval (Expr.Subscript _ _ _) _) _ _); refine T_item ?_)
  | ((with_reducible show T _ (eval (Expr.Call (Expr.Attribute _ _ _) _ [] _) _) _ _); refine T_Method ?_)
  | ((with_reducible show T _ (eval (Expr.Call _ _ [] _) _) _ _); refine T_Call ?_)
  | ((with_reducible show T _ (eval (Expr.BinOp _ _ _ _) _) _ _); refine T_binop ?_)
  | ((with_reducible show T _ (eval (Expr.UnaryOp _ _ _) _) _ _); refine T_unop ?_)
  | ((with_reducible show T _ (eval (Expr.Compare _ _ _ _) _) _ _); refine T_cmp ?_)
  | ((with_reducible show T _ (eval (Expr.Constant Const.none _ _) _) _ _); refine T_none ?_)
  | ((with_reducible show T _ (eval (Expr.Constant (Const.bool _) _ _) _) _ _); refine T_bool ?_)
  | ((with_reducible show T _ (eval (Expr.Constant (Const.str _) _ _) _) _ _); refine T_str (fun t => ?_))
  | ((with_reducible show T _ (eval (Expr.Dict [] [] _) _) _ _); refine T_dict0 (fun a h c => ?_))
  | ((with_reducible show T _ (eval (Expr.List _ _) _) _ _); refine T_list ?_)
  | ((with_reducible show T _ (eval (Expr.Tuple _ _ _) _) _ _); refine T_tuple ?_)
  | ((with_reducible show T _ (eval (Expr.BoolOp BoolOp.Or [_, _] _) _) _ _); refine T_or2 ?_)
  | ((with_reducible show T _ (eval (Expr.IfExp _ _ _ _) _) _ _); refine T_ifexp ?_)))
set_option hygiene false in
local macro_rules | `(tactic| walk_at "s") => `(tactic| first
  | ((with_reducible show T _ (execs (_ :: _) _) _ _); refine T_seq ?_)
  | ((with_reducible show T _ (execs [] _) _ _); refine T_nil ?_)
  | ((with_reducible show T _ (exec _ _) _ _); first
    | ((with_reducible show T _ (exec (Stmt.Assign [Expr.Name _ _] _ _) _) _ _); refine T_assign ?_)
    | ((with_reducible show T _ (exec (Stmt.If _ _ _ _) _) _ _); refine T_if ?_)
    | ((with_reducible show T _ (exec (Stmt.Return (some _) _) _) _ _); refine T_return ?_)
    | ((with_reducible show T _ (exec (Stmt.Return none _) _) _ _); refine T_return0 ?_)
    | ((with_reducible show T _ (exec (Stmt.Expr _ _) _) _ _); refine T_expr' ?_)
    | ((with_reducible show T _ (exec (Stmt.Assign [Expr.Attribute _ _ _] _ _) _) _ _); refine T_setattr_stmt ?_)
    | ((with_reducible show T _ (exec (Stmt.Assign [Expr.Subscript _ _ _] _ _) _) _ _); refine T_setitem_stmt ?_)
    | ((with_reducible show T _ (exec (Stmt.For (Expr.Name _ _) _ _ [] _) _) _ _); refine T_for ?_)
    | ((with_reducible show T _ (exec (Stmt.AugAssign (Expr.Name _ _) _ _ _) _) _ _); refine T_aug_name ?_)
    | ((with_reducible show T _ (exec (Stmt.AugAssign (Expr.Subscript _ _ _) _ _ _) _) _ _); refine T_aug_item ?_)
    | ((with_reducible show T _ (exec (Stmt.Pass _) _) _ _); refine T_pass ?_)
    | ((with_reducible show T _ (exec (Stmt.Break _) _) _ _); refine T_break ?_)
    | ((with_reducible show T _ (exec (Stmt.Continue _) _) _ _); refine T_continue ?_))
  | ((with_reducible show T _ (storeName _ _ _) _ _); refine T_store S (fun h S => ?_))
  | ((with_reducible show T _ (isTrue _ _ _) _ _); first
    | ((with_reducible show T _ (isTrue (Expr.Compare _ _ _ _) _ _) _ _); refine T_isTrue_cmp ?_)
    | ((with_reducible show T _ (isTrue (Expr.UnaryOp UnaryOp.Not _ _) _ _) _ _); refine T_isTrue_not ?_)
    | ((with_reducible show T _ (isTrue (Expr.BoolOp BoolOp.Or [_, _] _) _ _) _ _); refine T_isTrue_or2 ?_)
    | ((with_reducible show T _ (isTrue (Expr.BoolOp BoolOp.And [_, _] _) _ _) _ _); refine T_isTrue_and2 ?_)
    | ((with_reducible show T _ (isTrue (Expr.BoolOp BoolOp.And [_, _, _] _) _ _) _ _); refine T_isTrue_and3 ?_)
    | (refine T_isTrue_val ?_))
  | ((with_reducible show T _ (truthy (Value.bool _)) _ _); refine T_truthy_bool ?_)
  | ((with_reducible show T _ (truthy (Value.int _ _)) _ _); refine T_truthy_int ?_)
  | ((with_reducible show T _ (truthy Value.none) _ _); refine T_truthy_none ?_)
  | ((with_reducible show T _ (PySem.call (Value.builtin "abs") ([] ++ [Value.int _ _])) _ _); refine T_abs (fun t => ?_))
  | ((with_reducible show Args _ _ (_ :: _) _ _); refine Args_cons ?_)
  | ((with_reducible show Args _ _ [] _ _); refine Args_nil ?_)
  | ((with_reducible show T _ (callWith _ (Value.builtin _) _ _ _) _ _); refine CW_bi ?_)
  | ((with_reducible show T _ (callWith _ (Value.type _) _ _ _) _ _); refine CW_ty ?_)
  | ((with_reducible show T _ (binaryOp Operator.Add (Value.int _ _) (Value.int _ _)) _ _); refine T_add (fun t => ?_))
  | ((with_reducible show T _ (binaryOp Operator.Sub (Value.int _ _) (Value.int _ _)) _ _); refine T_sub (fun t => ?_))
  | ((with_reducible show T _ (unaryOp UnaryOp.USub (Value.int _ _)) _ _); refine T_neg (fun t => ?_))
  | ((with_reducible show T _ (compareOp CmpOp.Eq (Value.int _ _) (Value.int _ _)) _ _); refine T_eq ?_)
  | ((with_reducible show T _ (compareOp CmpOp.NotEq (Value.int _ _) (Value.int _ _)) _ _); refine T_ne ?_)
  | ((with_reducible show T _ (compareOp CmpOp.Lt (Value.int _ _) (Value.int _ _)) _ _); refine T_lt ?_)
  | ((with_reducible show T _ (compareOp CmpOp.Gt (Value.int _ _) (Value.int _ _)) _ _); refine T_gt ?_)
  | ((with_reducible show T _ (compareOp CmpOp.Is _ Value.none) _ _); refine T_is_none ?_)
  | ((with_reducible show T _ (compareOp CmpOp.IsNot _ Value.none) _ _); refine T_isnot_none ?_)
  | walk_at "e")
set_option hygiene false in
local macro_rules | `(tactic| walk_at "w") => `(tactic| repeat (walk_at "s"))
theorem fill_fragG1 : (PySem.Challenge.rw_at6042_01, Mine.hd.heap_39) = (PySem.Challenge.rw_at6042_01, Mine.hd.heap_39) := by k_fill; rfl
section
variable {κ : Kx} {F : Fix} {h H : Heap} {L : Addr} {l : List (Str × Value)} {N X : Ledger} {adr : Role → Addr} {st : SS} {n : Nat}
set_option maxHeartbeats 4000000 in
theorem brought_spec (R : Room κ (n + 4)) (top : TopIn κ.w (hid h [])) {a s : Addr} {os : Obj} {S0 : List Int} (hr : RowsH h a F.rows) (RO : RowsOk F) (sm : Small F) (hlen : ∀ r ∈ F.rows, r.length ≤ 1000) (es : h.get? s = some os) (IS : IntsO S0 os) (C0 : Con F S0) :
    C κ (.call (.ref 257) ⟨[.ref a, .ref s], []⟩) (Out h [] fun v N' => ∃ o, Brought F S0 o ∧ match o with | none => v = .none | some d => ∃ D od, v = .ref D ∧ (D, od) ∈ N' ∧ IntsO d od) h := by
  refine C_defC [("rows", .ref a), ("settled", .ref s)] [("rows", .ref a)] (fun y => if y = "settled" then some (.ref s) else none) (n := n + 3) R top (fun p hp => nomatch hp) (by k_is) (by k_is) (by rfl) (fun m => ?_) (fun L cl => ?_) (fun L cl => ?_) (fun κ L h₁ X0 ew hX0 S R => ?_)
  · intro y hy
    rcases List.mem_cons.mp hy with rfl | hy
    · exact .inl rfl
    · rw [List.mem_singleton.mp hy]; exact .inr ⟨rfl, rfl⟩
  · funext y; rfl
  · funext y; rfl
  · rw [← ew] at top
    have hr : RowsH (hid h []) a F.rows := hr.keep (keep_hid0 h)
    have es : (hid h []).get? s = some os := keep_hid0 h _ _ es
    generalize hid h [] = G at S top hr es ⊢
    obtain ⟨oc, mc, hc⟩ := hX0 "settled" (L + 1) (by rfl)
    clear hX0 ew
    walk_at "w"
    refine T_cell (c := L + 1) (by rfl) (S.gx mc) hc ?_
    walk_at "w"
    have C00 : S0.length ≤ 100 := by have := lits_len C0.nd C0.lit; have := sm.many; omega
    obtain ⟨vs, Ls, is⟩ := IS
    refine T_list_list Ls (S.base es) (by have := is.length; omega) fun D h oD LD c => ?_
    replace S := S.newN c
    clear c
    refine T_store_cell S (by rfl) mc hc (fun h oc hc S => ?_)
    replace mc := mem_upd_self (o := oc) mc
    generalize Mine.upd X0 (L + 1) oc = X0 at S mc
    walk_at "w"
    have hcur0 : Cur F S0 S0 := ⟨fun x hx => hx, fun x hx => .base hx, C0⟩
    refine T_while (fun k h => ∃ cur N' X' l' mb oD, St κ.w G L l' N' X' h ∧ look l' "rows" = some (.ref a) ∧ look l' "more" = some (.bool mb) ∧ (L + 1, oc) ∈ X' ∧ (D, oD) ∈ N' ∧ IntsO cur oD ∧ Cur F S0 cur ∧
        ((mb = true ∧ k = unsat F cur + 1) ∨ (mb = false ∧ k = 0 ∧ ∀ r ∈ F.rows, Fine cur r))) (unsat F S0 + 1)
      ⟨S0, _, _, _, true, oD, S, rfl, rfl, mc, .head _, ⟨vs, LD, is⟩, hcur0, .inl ⟨rfl, rfl⟩⟩ (fun k h z => ?_)
    clear S mc LD Ls is hcur0
    obtain ⟨cur, N', X', l', mb, oD, S, hn1, hn2, mc, mD, iD, hcur, hk⟩ := z
    walk_at "w"
    refine ⟨fun hb => ?_, fun hb => ?_⟩
    · subst hb
      have hk : k = unsat F cur + 1 := by
        rcases hk with ⟨_, h⟩ | ⟨h, _⟩
        · exact h
        · cases h
      subst hk
      walk_at "w"
      obtain ⟨orows, vrows, erows, Lrows, hvrows, hrow⟩ := hr.has
      refine T_iter_list R Lrows (S.base erows) fun I h' it => ?_
      refine ForAt.mk3 ["left", "more"] S it (fun i m N' X' => ∃ cur' mb oD, m "more" = some (.bool mb) ∧ (L + 1, oc) ∈ X' ∧ (D, oD) ∈ N' ∧ IntsO cur' oD ∧ Cur F S0 cur' ∧ unsat F cur' ≤ unsat F cur ∧ (mb = true → unsat F cur' < unsat F cur) ∧ (mb = false → ∀ j, j < i → Fine cur' (rowAt F j)))
        ⟨cur, false, oD, rfl, mc, mD, iD, hcur, Nat.le_refl _, (fun h => by cases h), fun _ j hj => absurd hj (Nat.not_lt_zero _)⟩
        (fun i m N' X' _ p hp => by rw [List.mem_singleton.mp hp]; exact .inr (.inr erows)) (fun i v l2 N2 X2 H2 h2 hk2 hi hP hI hl2 S2 => ?_) (fun l2 N2 X2 h2 hI hl2 S2 => ?_)
      · clear S mc mD iD hcur it
        obtain ⟨cur1, mb1, oD1, hm1, mc, mD, iD, hcur, hun, hmb1, hmb2⟩ := hI
        have S := S2
        clear S2
        obtain ⟨Tr, oT, rfl, eT, iT⟩ := hrow i v hP
        have hiF : i < F.rows.length := by rw [← hvrows]; exact hi
        have hmem : rowAt F i ∈ F.rows := rowAt_mem hiF
        have iT : IntsO (rowAt F i) oT := iT
        have topH : TopIn κ.w H2 := top.keep hk2
        have hsafe : cur1.length ≤ 100 := by have := lits_len hcur.2.2.nd hcur.2.2.lit; have := sm.many; omega
        walk_at "w"
        refine T_sieve R (fun w => decide (w ∈ cur1)) ?_
        walk_at "w"
        refine ⟨_, _, _, rfl, S.base (hk2 _ _ eT), iT, hlen _ hmem, S.topH, fun C w tw l3 H3 h3 hk3 hw S3 => ?_, fun D2 o2 h3 i2 c2 => ?_⟩
        · have g1 := S3.base (hk3 _ _ (S.gx mc))
          have g2 := S3.base (hk3 _ _ (S.gn mD))
          clear S
          have S := S3
          walk_at "w"
          refine T_cell (c := L + 1) (by rfl) g1 hc ?_
          refine T_in_ints g2 iD ?_
          walk_at "w"
          exact ⟨rfl, _, S⟩
        · replace S := S.new c2
          walk_at "w"
          refine ⟨by decide, fun e0 h4 c0 => ?_⟩
          replace S := S.new c0
          refine T_ne_ints R (S.gx (.tail _ (.head _))) i2 (S.gx (.head _)) ⟨[], LsO.new [], .nil⟩ ?_
          walk_at "w"
          refine ⟨fun hb => ?_, fun hb => ?_⟩
          · have hsat : Sat cur1 (rowAt F i) := sat_filter.mp (by simpa using hb)
            walk_at "w"
            refine ⟨_, _, _, S, fun y h1 h2 => ?_, cur1, mb1, oD1, hm1, .tail _ (.tail _ mc), mD, iD, hcur, hun, hmb1, fun hf j hj => ?_⟩
            · simp only [look, if_neg h1]; exact hl2 y h1 h2
            · rcases Nat.lt_succ_iff_lt_or_eq.mp hj with q | rfl
              · exact hmb2 hf j q
              · exact .inl hsat
          · have hns : ¬ Sat cur1 (rowAt F i) := fun q => by have := sat_filter.mpr q; simp at hb; exact this (by simpa using hb)
            walk_at "w"
            refine T_assign_comp (NewEnv.plain (by decide) rfl) (LCore_sieve R (fun w => !decide (-w ∈ cur1)) ?_)
            walk_at "w"
            refine ⟨_, _, _, rfl, S.base (hk2 _ _ eT), iT, hlen _ hmem, S.topH, fun C w tw l3 H3 h3 hk3 hw S3 => ?_, fun D3 o3 h3 i3 c3 => ?_⟩
            · have g1 := S3.base (hk3 _ _ (S.gx (.tail _ (.tail _ mc))))
              have g2 := S3.base (hk3 _ _ (S.gn mD))
              clear S
              have S := S3
              walk_at "w"
              refine T_cell (c := L + 1) (by rfl) g1 hc ?_
              refine T_notIn_ints g2 iD ?_
              walk_at "w"
              exact ⟨rfl, _, S⟩
            · refine ⟨_, _, _, _, S.new c3, fun h3 S4 => ?_⟩
              clear S
              have S := S4
              clear S4
              walk_at "w"
              refine ⟨by decide, fun e1 h5 c1 => ?_⟩
              replace S := S.new c1
              refine T_eq_ints R (S.gx (.tail _ (.head _))) i3 (S.gx (.head _)) ⟨[], LsO.new [], .nil⟩ ?_
              walk_at "w"
              refine ⟨fun hb2 => ?_, fun hb2 => ?_⟩
              · have hb2 := of_decide_eq_true hb2
                walk_at "w"
                refine ⟨_, _, _, S.back hk2 top, none, ⟨cur1, hcur, _, hmem, left_nil hb2⟩, rfl⟩
              · have hb2 := of_decide_eq_false hb2
                obtain ⟨vl, Ll, il⟩ := id i3
                have hvl : vl.length = ((rowAt F i).filter fun w => !decide (-w ∈ cur1)).length := il.length
                have hle : ((rowAt F i).filter fun w => !decide (-w ∈ cur1)).length ≤ 1000 := Nat.le_trans (List.length_filter_le _ _) (hlen _ hmem)
                walk_at "w"
                refine T_len_list Ll (S.gx (.tail _ (.head _))) (by omega) (fun t => ?_)
                walk_at "w"
                refine ⟨fun hb3 => ?_, fun hb3 => ?_⟩
                · have hb3 : ((rowAt F i).filter fun w => !decide (-w ∈ cur1)).length = 1 := by rw [hvl] at hb3; have := of_decide_eq_true hb3; omega
                  obtain ⟨c, hcf⟩ := List.length_eq_one_iff.mp hb3
                  obtain ⟨hcur2, hun2⟩ := cur_add RO hcur hmem hns hcf
                  obtain ⟨vD, LD, iDD⟩ := iD
                  rw [hcf] at il
                  walk_at "w"
                  refine T_cell (c := L + 1) (by rfl) (S.gx (.tail _ (.tail _ (.tail _ (.tail _ mc))))) hc ?_
                  refine T_m_append LD (S.gn mD) ?_
                  walk_at "w"
                  cases il with
                  | cons _ tc il2 =>
                    cases il2
                    refine T_item_list Ll (S.gx (.tail _ (.head _))) (by decide) (by decide) rfl ?_
                    walk_at "w"
                    refine T_append LD (S.gn mD) (by have := iDD.length; omega) (fun h6 o6 L6 c6 => ?_)
                    replace S := S.updN mD c6
                    walk_at "w"
                    refine ⟨_, _, _, S, fun y h1 h2 => ?_, cur1 ++ [c], true, o6, rfl, .tail _ (.tail _ (.tail _ (.tail _ mc))), mem_upd_self mD, ⟨_, L6, ints_app iDD (.cons _ _ .nil)⟩, hcur2, by omega, fun _ => by omega, fun hf => by cases hf⟩
                    have e1 : y ≠ "more" := fun e => h2 (by rw [e]; exact .tail _ (.head _))
                    have e2 : y ≠ "left" := fun e => h2 (by rw [e]; exact .head _)
                    have h3 := hl2 y h1 h2; simp only [look, if_neg h1, if_neg e1, if_neg e2] at h3 ⊢; exact h3
                · have hb3 : ((rowAt F i).filter fun w => !decide (-w ∈ cur1)).length ≠ 1 := fun e => by rw [hvl, e] at hb3; simp at hb3
                  walk_at "w"
                  refine ⟨_, _, _, S, fun y h1 h2 => ?_, cur1, mb1, oD1, ?_, .tail _ (.tail _ (.tail _ (.tail _ mc))), mD, iD, hcur, hun, hmb1, fun hf j hj => ?_⟩
                  · have e2 : y ≠ "left" := fun e => h2 (by rw [e]; exact .head _)
                    simp only [look, if_neg h1, if_neg e2]; exact hl2 y h1 h2
                  · exact hm1
                  · rcases Nat.lt_succ_iff_lt_or_eq.mp hj with q | rfl
                    · exact hmb2 hf j q
                    · exact fine_two (RO.nd _ hmem) hb2 hb3
      · clear S mc mD iD hcur it
        obtain ⟨cur1, mb1, oD1, hm1, mc, mD, iD, hcur, hun, hmb1, hmb2⟩ := hI
        have S := S2
        clear S2
        walk_at "w"
        have hrows : look l2 "rows" = some (.ref a) := (hl2 "rows" (by decide) (by decide)).trans hn1
        cases mb1 with
        | true => exact ⟨unsat F cur1 + 1, by have := hmb1 rfl; omega, cur1, _, _, _, true, oD1, S, hrows, hm1, mc, mD, iD, hcur, .inl ⟨rfl, rfl⟩⟩
        | false =>
          refine ⟨0, by omega, cur1, _, _, _, false, oD1, S, hrows, hm1, mc, mD, iD, hcur, .inr ⟨rfl, rfl, fun r hr => ?_⟩⟩
          obtain ⟨j, hj, rfl⟩ := row_at hr
          exact hmb2 rfl j (by rw [hvrows]; exact hj)
    · subst hb
      have hfin : ∀ r ∈ F.rows, Fine cur r := by
        rcases hk with ⟨h, _⟩ | ⟨_, _, h⟩
        · cases h
        · exact h
      walk_at "w"
      refine T_cell (c := L + 1) (by rfl) (S.gx mc) hc ?_
      exact ⟨_, _, _, S, some cur, ⟨hcur, hfin⟩, D, oD, rfl, mD, iD⟩
end
end Mine
end
section
open PySem PySem.W PySem.Calls PyProof.Rows
set_option Elab.async false
set_option maxRecDepth 100000
set_option linter.all false
namespace Mine

set_option hygiene false in
local macro_rules | `(tactic| walk_at "e") => `(tactic| ((with_reducible show T _ (eval _ _) _ _); first
  | ((with_reducible show T _ (eval (Expr.Name _ _) _) _ _); first
    | ((with_reducible show T _ (eval (Expr.Name "len" _) _) _ _); refine N_len S (by k_is) ?_)
    | ((with_reducible show T _ (eval (Expr.Name "abs" _) _) _ _); refine N_abs S (by k_is) ?_)
    | ((with_reducible show T _ (eval (Expr.Name "sorted" _) _) _ _); refine N_sorted S (by k_is) ?_)
    | ((with_reducible show T _ (eval (Expr.Name "list" _) _) _ _); refine N_list S (by k_is) ?_)
    | ((with_reducible show T _ (eval (Expr.Name "range" _) _) _ _); refine N_range S (by k_is) ?_)
    | ((with_reducible show T _ (eval (Expr.Name "set" _) _) _ _); refine N_set S (by k_is) ?_)
    | ((with_reducible show T _ (eval (Expr.Name "enumerate" _) _) _ _); refine N_enumerate S (by k_is) ?_)
    | refine T_loc S (by first | rfl | exact hn1 | exact hn2 | exact hn3 | exact hn4 | exact hn5) ?_
    | refine T_glob S (by k_is) ?_)
  | ((with_reducible show T _ (eval (Expr.Constant (Const.int _) _ _) _) _ _); refine T_int (fun t => ?_))
  | ((with_reducible show T _ (eval (Expr.Attribute _ _ _) _) _ _); refine T_attr ?_)
  | ((with_reducible show T _ (eval (Expr.Subscript _ _ _) _) _ _); refine T_item ?_)
  | ((with_reducible show T _ (eval (Expr.Call (Expr.Attribute _ _ _) _ [] _) _) _ _); refine T_Method ?_)
  | ((with_reducible show T _ (eval (Expr.Call _ _ [] _) _) _ _); refine T_Call ?_)
  | ((with_reducible show T _ (eval (Expr.BinOp _ _ _ _) _) _ _); refine T_binop ?_)
  | ((with_reducible show T _ (eval (Expr.UnaryOp _ _ _) _) _ _); refine T_unop ?_)
  | ((with_reducible show T _ (eval (Expr.Compare _ _ _ _) _) _ _); refine T_cmp ?_)
  | ((with_reducible show T _ (eval (Expr.Constant Const.none _ _) _) _ _); refine T_none ?_)
  | ((with_reducible show T _ (eval (Expr.Constant (Const.bool _) _ _) _) _ _); refine T_bool ?_)
  | ((with_reducible show T _ (eval (Expr.Constant (Const.str _) _ _) _) _ _); refine T_str (fun t => ?_))
  | ((with_reducible show T _ (eval (Expr.Dict [] [] _) _) _ _); refine T_dict0 (fun a h c => ?_))
  | ((with_reducible show T _ (eval (Expr.List _ _) _) _ _); refine T_list ?_)
  | ((with_reducible show T _ (eval (Expr.Tuple _ _ _) _) _ _); refine T_tuple ?_)
  | ((with_reducible show T _ (eval (Expr.BoolOp BoolOp.Or [_, _] _) _) _ _); refine T_or2 ?_)
  | ((with_reducible show T _ (eval (Expr.IfExp _ _ _ _) _) _ _); refine T_ifexp ?_)))
set_option hygiene false in
local macro_rules | `(tactic| walk_at "s") => `(tactic| first
  | ((with_reducible show T _ (execs (_ :: _) _) _ _); refine T_seq ?_)
  | ((with_reducible show T _ (execs [] _) _ _); refine T_nil ?_)
  | ((with_reducible show T _ (exec _ _) _ _); first
    | ((with_reducible show T _ (exec (Stmt.Assign [Expr.Name _ _] _ _) _) _ _); refine T_assign ?_)
    | ((with_reducible show T _ (exec (Stmt.If _ _ _ _) _) _ _); refine T_if ?_)
    | ((with_reducible show T _ (exec (Stmt.Return (some _) _) _) _ _); refine T_return ?_)
    | ((with_reducible show T _ (exec (Stmt.Return none _) _) _ _); refine T_return0 ?_)
    | ((with_reducible show T _ (exec (Stmt.Expr _ _) _) _ _); refine T_expr' ?_)
    | ((with_reducible show T _ (exec (Stmt.Assign [Expr.Attribute _ _ _] _ _) _) _ _); refine T_setattr_stmt ?_)
    | ((with_reducible show T _ (exec (Stmt.Assign [Expr.Subscript _ _ _] _ _) _) _ _); refine T_setitem_stmt ?_)
    | ((with_reducible show T _ (exec (Stmt.For (Expr.Name _ _) _ _ [] _) _) _ _); refine T_for ?_)
    | ((with_reducible show T _ (exec (Stmt.AugAssign (Expr.Name _ _) _ _ _) _) _ _); refine T_aug_name ?_)
    | ((with_reducible show T _ (exec (Stmt.AugAssign (Expr.Subscript _ _ _) _ _ _) _) _ _); refine T_aug_item ?_)
    | ((with_reducible show T _ (exec (Stmt.Pass _) _) _ _); refine T_pass ?_)
    | ((with_reducible show T _ (exec (Stmt.Break _) _) _ _); refine T_break ?_)
    | ((with_reducible show T _ (exec (Stmt.Continue _) _) _ _); refine T_continue ?_))
  | ((with_reducible show T _ (storeName _ _ _) _ _); refine T_store S (fun h S => ?_))
  | ((with_reducible show T _ (isTrue _ _ _) _ _); first
    | ((with_reducible show T _ (isTrue (Expr.Compare _ _ _ _) _ _) _ _); refine T_isTrue_cmp ?_)
    | ((with_reducible show T _ (isTrue (Expr.UnaryOp UnaryOp.Not _ _) _ _) _ _); refine T_isTrue_not ?_)
    | ((with_reducible show T _ (isTrue (Expr.BoolOp BoolOp.Or [_, _] _) _ _) _ _); refine T_isTrue_or2 ?_)
    | ((with_reducible show T _ (isTrue (Expr.BoolOp BoolOp.And [_, _] _) _ _) _ _); refine T_isTrue_and2 ?_)
    | ((with_reducible show T _ (isTrue (Expr.BoolOp BoolOp.And [_, _, _] _) _ _) _ _); refine T_isTrue_and3 ?_)
    | (refine T_isTrue_val ?_))
  | ((with_reducible show T _ (truthy (Value.bool _)) _ _); refine T_truthy_bool ?_)
  | ((with_reducible show T _ (truthy (Value.int _ _)) _ _); refine T_truthy_int ?_)
  | ((with_reducible show T _ (truthy Value.none) _ _); refine T_truthy_none ?_)
  | ((with_reducible show T _ (PySem.call (Value.builtin "abs") ([] ++ [Value.int _ _])) _ _); refine T_abs (fun t => ?_))
  | ((with_reducible show Args _ _ (_ :: _) _ _); refine Args_cons ?_)
  | ((with_reducible show Args _ _ [] _ _); refine Args_nil ?_)
  | ((with_reducible show T _ (callWith _ (Value.builtin _) _ _ _) _ _); refine CW_bi ?_)
  | ((with_reducible show T _ (callWith _ (Value.type _) _ _ _) _ _); refine CW_ty ?_)
  | ((with_reducible show T _ (binaryOp Operator.Add (Value.int _ _) (Value.int _ _)) _ _); refine T_add (fun t => ?_))
  | ((with_reducible show T _ (binaryOp Operator.Sub (Value.int _ _) (Value.int _ _)) _ _); refine T_sub (fun t => ?_))
  | ((with_reducible show T _ (unaryOp UnaryOp.USub (Value.int _ _)) _ _); refine T_neg (fun t => ?_))
  | ((with_reducible show T _ (compareOp CmpOp.Eq (Value.int _ _) (Value.int _ _)) _ _); refine T_eq ?_)
  | ((with_reducible show T _ (compareOp CmpOp.NotEq (Value.int _ _) (Value.int _ _)) _ _); refine T_ne ?_)
  | ((with_reducible show T _ (compareOp CmpOp.Lt (Value.int _ _) (Value.int _ _)) _ _); refine T_lt ?_)
  | ((with_reducible show T _ (compareOp CmpOp.Gt (Value.int _ _) (Value.int _ _)) _ _); refine T_gt ?_)
  | ((with_reducible show T _ (compareOp CmpOp.Is _ Value.none) _ _); refine T_is_none ?_)
  | ((with_reducible show T _ (compareOp CmpOp.IsNot _ Value.none) _ _); refine T_isnot_none ?_)
  | walk_at "e")
set_option hygiene false in
local macro_rules | `(tactic| walk_at "w") => `(tactic| repeat (walk_at "s"))
theorem fill_fragG2 : (PySem.Challenge.rw_at6042_01, Mine.hd.heap_39) = (PySem.Challenge.rw_at6042_01, Mine.hd.heap_39) := by k_fill; rfl
theorem PairO.inj {p q : Pair} {o : Obj} (x : PairO p o) (y : PairO q o) : p = q := by
  obtain ⟨t, u, rfl⟩ := x
  obtain ⟨t', u', e⟩ := y
  simp at e
  exact Prod.ext e.1.1 e.2.1
section
variable {κ : Kx} {F : Fix} {h H : Heap} {L : Addr} {l : List (Str × Value)} {N X : Ledger} {adr : Role → Addr} {st : SS} {n : Nat}
theorem T_item_pair0 {ve ie : PySem.Expr} {a : Addr} {o : Obj} {p : Pair} {t : Tok} {Q : Value → Heap → Prop} (P : PairO p o) (e : h.get? a = some o) (q : ∀ t, Q (.int p.1 t) h)
    (hs : subscripted ie false (.ref a) (.int 0 t) = operate [.ref a, .int 0 t] (getItem (.ref a) (.int 0 t)) := by with_unfolding_all rfl) : T κ (subscriptTail ve ie (.ref a) (.int 0 t)) Q h := fun d tk => by
  obtain ⟨u, v, rfl⟩ := P
  refine tail_any (s := ⟨h, κ.g, d, tk, κ.os⟩) (T := "tuple") ⟨_, e, rfl⟩ PySem.F.slot_tuple_getitem.lookup ?_ hs
  exact PyProof.Rows.getItem_tuple (j := 0) (x := .int p.1 u) ⟨_, e, rfl, _, rfl⟩ (by decide) (by decide) (by rfl) rfl ⟨rfl, rfl, q u⟩
def Cand (S0 : List Int) (l : Int) : Prop := l ≠ 0 ∧ l ∉ S0 ∧ -l ∉ S0
def BestIs (F : Fix) (S0 : List Int) (i : Nat) (b : Pair) : Prop :=
  (b = (0, 0) ∧ ∀ j : Nat, j < i → ¬ Cand S0 (-(F.many : Int) + j)) ∨
  (Cand S0 b.1 ∧ b.1.natAbs ≤ F.many ∧ b.2 = (tally F b.1 : Int) ∧ b.1 < -(F.many : Int) + i ∧ ∀ j : Nat, j < i → Cand S0 (-(F.many : Int) + j) → tally F (-(F.many : Int) + j) < tally F b.1 ∨ (tally F (-(F.many : Int) + j) = tally F b.1 ∧ b.1 ≤ -(F.many : Int) + j))
theorem BestIs.skip {F : Fix} {S0 : List Int} {i : Nat} {b : Pair} (B : BestIs F S0 i b) (h : ¬ Cand S0 (-(F.many : Int) + i)) : BestIs F S0 (i + 1) b := by
  rcases B with ⟨rfl, h1⟩ | ⟨h1, h2, h3, h4, h5⟩
  · refine .inl ⟨rfl, fun j hj => ?_⟩
    rcases Nat.lt_succ_iff_lt_or_eq.mp hj with q | rfl
    · exact h1 j q
    · exact h
  · refine .inr ⟨h1, h2, h3, by omega, fun j hj hc => ?_⟩
    rcases Nat.lt_succ_iff_lt_or_eq.mp hj with q | rfl
    · exact h5 j q hc
    · exact absurd hc h
theorem BestIs.stay {F : Fix} {S0 : List Int} {i : Nat} {b : Pair} (B : BestIs F S0 i b) (h0 : b ≠ (0, 0)) (ht : ¬ b.2 < (tally F (-(F.many : Int) + i) : Int)) : BestIs F S0 (i + 1) b := by
  rcases B with ⟨rfl, h1⟩ | ⟨h1, h2, h3, h4, h5⟩
  · exact absurd rfl h0
  · refine .inr ⟨h1, h2, h3, by omega, fun j hj hc => ?_⟩
    rcases Nat.lt_succ_iff_lt_or_eq.mp hj with q | rfl
    · exact h5 j q hc
    · rw [h3] at ht; omega
theorem BestIs.new {F : Fix} {S0 : List Int} {i : Nat} {b : Pair} (B : BestIs F S0 i b) (hc : Cand S0 (-(F.many : Int) + i)) (hi : (-(F.many : Int) + i).natAbs ≤ F.many) (ht : b = (0, 0) ∨ b.2 < (tally F (-(F.many : Int) + i) : Int)) :
    BestIs F S0 (i + 1) (-(F.many : Int) + i, (tally F (-(F.many : Int) + i) : Int)) := by
  refine .inr ⟨hc, hi, rfl, by show -(F.many : Int) + i < _; omega, fun j hj hcj => ?_⟩
  dsimp only
  rcases Nat.lt_succ_iff_lt_or_eq.mp hj with q | rfl
  · rcases B with ⟨rfl, h1⟩ | ⟨h1, h2, h3, h4, h5⟩
    · exact absurd hcj (h1 j q)
    · have := h5 j q hcj
      rcases ht with rfl | ht
      · exact absurd rfl h1.1
      · rw [h3] at ht; omega
  · exact .inr ⟨rfl, Int.le_refl _⟩
theorem BestIs.fin {F : Fix} {S0 : List Int} {b : Pair} (B : BestIs F S0 (2 * F.many + 1) b) : ChoiceIs F S0 b.1 := by
  have key : ∀ l : Int, IsLit F l → ∃ j : Nat, j < 2 * F.many + 1 ∧ -(F.many : Int) + j = l := fun l hl => by
    have := hl.2
    exact ⟨(l + F.many).toNat, by omega, by omega⟩
  rcases B with ⟨rfl, h1⟩ | ⟨h1, h2, h3, h4, h5⟩
  · refine .inl ⟨rfl, fun l hl => ?_⟩
    obtain ⟨j, hj, rfl⟩ := key l hl
    have := h1 j hj
    by_cases q : -(F.many : Int) + j ∈ S0
    · exact .inl q
    · by_cases q2 : -(-(F.many : Int) + j) ∈ S0
      · exact .inr q2
      · exact absurd ⟨hl.1, q, q2⟩ this
  · refine .inr ⟨⟨h1.1, h2⟩, h1.2.1, h1.2.2, fun l hl n1 n2 => ?_⟩
    obtain ⟨j, hj, rfl⟩ := key l hl
    exact h5 j hj ⟨hl.1, n1, n2⟩
set_option maxHeartbeats 4000000 in
theorem choice_spec (R : Room κ (n + 4)) (top : TopIn κ.w (hid h [])) {a s : Addr} {os : Obj} {S0 : List Int} {tm : Tok} (hr : RowsH h a F.rows) (sm : Small F) (hlen : ∀ r ∈ F.rows, r.length ≤ 1000) (es : h.get? s = some os) (IS : IntsO S0 os) :
    C κ (.call (.ref 262) ⟨[.ref a, .int F.many tm, .ref s], []⟩) (Out h [] fun v N' => ∃ n t, v = .int n t ∧ ChoiceIs F S0 n) h := by
  refine C_defC [("rows", .ref a), ("many", .int F.many tm), ("settled", .ref s)] [("settled", .ref s), ("many", .int F.many tm), ("rows", .ref a)] (fun y => none) (n := n + 3) R top (fun p hp => nomatch hp) (by k_is) (by k_is) (by rfl) (fun m => ?_) (fun L cl => ?_) (fun L cl => ?_) (fun κ L h₁ X0 ew hX0 S R => ?_)
  · intro y hy
    rcases List.mem_cons.mp hy with rfl | hy
    · exact .inl rfl
    · rcases List.mem_cons.mp hy with rfl | hy
      · exact .inl rfl
      · rw [List.mem_singleton.mp hy]; exact .inl rfl
  · funext y; rfl
  · funext y; rfl
  · rw [← ew] at top
    have hr : RowsH (hid h []) a F.rows := hr.keep (keep_hid0 h)
    have es : (hid h []).get? s = some os := keep_hid0 h _ _ es
    generalize hid h [] = G at S top hr es ⊢
    obtain ⟨oc, mc, hc⟩ := hX0 "number" (L + 1) (by rfl)
    clear hX0 ew
    walk_at "w"
    refine ⟨by show 2 ≤ sizeLine; decide, fun ba h cb => ?_⟩
    replace S := S.new cb
    have hm1 := sm.many
    walk_at "w"
    refine T_for2 (L := L) ?_
    walk_at "w"
    refine T_range2 fun r h v c => ?_
    replace S := S.new c
    refine T_iter_range R (S.gx (.head _)) (by omega) (by omega) fun I h' it => ?_
    have hcnt : ((F.many : Int) + 1 - -(F.many : Int)).toNat = 2 * F.many + 1 := by omega
    refine ⟨G, I, [I], [], _, _, _, _, _, _, fun i l N X => N = [] ∧ look l "rows" = some (.ref a) ∧ look l "settled" = some (.ref s) ∧ ∃ bp ba ob oc v0, look l "best" = some (.ref ba) ∧ (ba, ob) ∈ X ∧ PairO bp ob ∧ (L + 1, oc) ∈ X ∧ oc.data = .cell v0 ∧ BestIs F S0 i bp,
      rfl, it.two "number" _, S, ⟨rfl, rfl, rfl, (0, 0), ba, _, oc, none, rfl, .tail _ (.head _), ⟨_, _, rfl⟩, .tail _ (.tail _ mc), hc, .inl ⟨rfl, fun j hj => absurd hj (Nat.not_lt_zero _)⟩⟩, (fun _ _ _ _ _ p hp => nomatch hp), fun i v l N X H2 h0 h hk hi hP hI S2 => ?_, fun l N X h hI S2 => ?_⟩
    · clear S mc it
      obtain ⟨rfl, hn1, hn2, bp, ba, ob, oc, v0, hn3, mb, PB, mc, hc, hB⟩ := hI
      obtain ⟨tk, rfl⟩ := hP
      have S := S2
      clear S2
      rw [hcnt] at hi
      have hne : ba ≠ L + 1 := fun e => by
        have h1 := S.gx mb
        rw [e, S.gx mc] at h1
        obtain ⟨t, u, rfl⟩ := PB
        cases h1; cases hc
      refine T_assign_name (T_store_cell S (by rfl) mc hc (fun h oc2 hc2 S => ?_))
      have mb2 := mem_upd_of_ne (o := oc2) mb hne
      have mc2 := mem_upd_self (o := oc2) mc
      generalize Mine.upd X (L + 1) oc2 = X at S mb2 mc2
      clear mb mc hc
      have hr2 := hr.keep hk
      have es2 := hk _ _ es
      have topH : TopIn κ.w H2 := top.keep hk
      walk_at "w"
      refine T_cell (c := L + 1) (by rfl) (S.gx mc2) hc2 ?_
      walk_at "w"
      refine ⟨fun hb => ?_, fun hb => ?_⟩
      · refine ⟨fun hb => (by cases hb), fun _ => ?_⟩
        walk_at "w"
        refine ⟨_, _, _, S, rfl, hn1, hn2, bp, ba, ob, oc2, _, hn3, mb2, PB, mc2, hc2, hB.skip fun q => ?_⟩
        simp at hb; exact q.1 hb
      have hz : -(F.many : Int) + i ≠ 0 := by simpa using hb
      clear hb
      walk_at "w"
      refine T_cell (c := L + 1) (by rfl) (S.gx mc2) hc2 ?_
      walk_at "w"
      refine T_notIn_ints (S.base es2) IS ?_
      walk_at "w"
      refine ⟨fun hb => ?_, fun hb => ?_⟩
      · refine ⟨fun hb => (by cases hb), fun _ => ?_⟩
        walk_at "w"
        refine ⟨_, _, _, S, rfl, hn1, hn2, bp, ba, ob, oc2, _, hn3, mb2, PB, mc2, hc2, hB.skip fun q => ?_⟩
        exact q.2.1 (by simpa using hb)
      have hz1 : -(F.many : Int) + i ∉ S0 := by simpa using hb
      clear hb
      walk_at "w"
      refine T_cell (c := L + 1) (by rfl) (S.gx mc2) hc2 ?_
      walk_at "w"
      refine T_notIn_ints (S.base es2) IS ?_
      walk_at "w"
      refine ⟨fun hb => ?_, fun hb => ?_⟩
      rotate_left
      · walk_at "w"
        refine ⟨_, _, _, S, rfl, hn1, hn2, bp, ba, ob, oc2, _, hn3, mb2, PB, mc2, hc2, hB.skip fun q => ?_⟩
        exact q.2.2 (by simpa using hb)
      have hz2 : -(-(F.many : Int) + i) ∉ S0 := by simpa using hb
      clear hb
      have hcand : Cand S0 (-(F.many : Int) + i) := ⟨hz, hz1, hz2⟩
      have habs : (-(F.many : Int) + i).natAbs ≤ F.many := by omega
      generalize hnum : -(F.many : Int) + (i : Int) = num at hz hz1 hz2 hcand habs hc2
      walk_at "w"
      refine T_lro ?_
      walk_at "w"
      obtain ⟨orows, vrows, erows, Lrows, hvrows, hrow⟩ := hr2.has
      refine T_iter_list R Lrows (S.base erows) fun I2 h2 it2 => ?_
      refine LRo.pure (fun j ys => ys.length = ((F.rows.take j).filter fun r => decide (1 < r.length) && decide (num ∈ r)).length) (by have := sm.rows; omega) it2 (fun p hp => by rw [List.mem_singleton.mp hp]; exact S.base erows) S.topH rfl (fun C j v ys l2 H3 h3 hk3 hj hP hI S3 => ?_) (fun ys D o h3 hI L3 c3 => ?_)
      · obtain ⟨Tr, oT, rfl, eT, iT⟩ := hrow j v hP
        have hjF : j < F.rows.length := by rw [← hvrows]; exact hj
        have hmem : rowAt F j ∈ F.rows := rowAt_mem hjF
        have iT : IntsO (rowAt F j) oT := iT
        have htk : F.rows.take (j + 1) = F.rows.take j ++ [rowAt F j] := by
          rw [List.take_add_one, List.getElem?_eq_getElem hjF]
          unfold rowAt
          rw [List.getD_eq_getElem?_getD, List.getElem?_eq_getElem hjF]; rfl
        obtain ⟨vt, LT, iTT⟩ := id iT
        have hvt : vt.length = (rowAt F j).length := iTT.length
        have hl1 := hlen _ hmem
        have g1 := S3.base (hk3 _ _ (S.gx mc2))
        have g2 := S3.base (hk3 _ _ (S.base eT))
        clear S
        have S := S3
        have cnt : ∀ b, b = (decide (1 < (rowAt F j).length) && decide (num ∈ rowAt F j)) → ∀ ys' : List Value, ys'.length = ys.length + (if b = true then 1 else 0) → ys'.length = ((F.rows.take (j + 1)).filter fun r => decide (1 < r.length) && decide (num ∈ r)).length := fun b hb ys' hy => by
          rw [htk, List.filter_append, List.length_append, ← hI, hy]
          congr 1
          rw [List.filter_cons, ← hb]
          cases b <;> simp
        refine T_tests_one ?_
        walk_at "w"
        refine T_len_list LT g2 (by omega) (fun t => ?_)
        walk_at "w"
        refine ⟨fun hb => ?_, fun hb => ?_⟩
        · rw [if_neg (by simp)]
          have hb : ¬ (1 < (rowAt F j).length) := by have := of_decide_eq_false hb; rw [hvt] at this; omega
          exact ⟨_, _, S, cnt false (by rw [decide_eq_false hb]; rfl) ys (by simp)⟩
        · have hb : 1 < (rowAt F j).length := by have := of_decide_eq_true hb; rw [hvt] at this; omega
          walk_at "w"
          refine T_cell (c := L + 1) (by rfl) g1 hc2 ?_
          walk_at "w"
          refine T_in_ints g2 iT ?_
          walk_at "w"
          by_cases hin : num ∈ rowAt F j
          · rw [if_pos (decide_eq_true hin)]
            walk_at "w"
            exact ⟨_, _, S, cnt true (by rw [decide_eq_true hb, decide_eq_true hin]; rfl) _ (by simp)⟩
          · rw [if_neg (by simpa using hin)]
            exact ⟨_, _, S, cnt false (by rw [decide_eq_true hb, decide_eq_false hin]; rfl) ys (by simp)⟩
      · replace S := S.new c3
        rw [hvrows, List.take_length] at hI
        have hlen3 : ys.length = tally F num := hI
        have htl : tally F num ≤ 50 := by
          have := sm.rows
          unfold tally
          exact Nat.le_trans (List.length_filter_le _ _) this
        refine T_len_list L3 (S.gx (.head _)) (by omega) (fun t => ?_)
        walk_at "w"
        refine ⟨by show 2 ≤ sizeLine; decide, fun z0 h c0 => ?_⟩
        replace S := S.new c0
        refine T_eq_pair (q := (0, 0)) R (S.gx (.tail _ (.tail _ mb2))) PB (S.gx (.head _)) ⟨_, _, rfl⟩ ?_
        walk_at "w"
        refine ⟨fun hb => ?_, fun hb => ?_⟩
        · have hb : bp = (0, 0) := of_decide_eq_true hb
          refine ⟨fun _ => ?_, fun hb => (by cases hb)⟩
          walk_at "w"
          refine T_cell (c := L + 1) (by rfl) (S.gx (.tail _ (.tail _ mc2))) hc2 ?_
          walk_at "w"
          refine ⟨by show 2 ≤ sizeLine; decide, fun b1 h c1 => ?_⟩
          replace S := S.new c1
          walk_at "w"
          subst hnum
          refine ⟨_, _, _, S, rfl, hn1, hn2, (-(F.many : Int) + i, (tally F (-(F.many : Int) + i) : Int)), b1, _, oc2, _, rfl, .head _, ⟨_, _, by rw [← hlen3]⟩, .tail _ (.tail _ (.tail _ mc2)), hc2, hB.new hcand habs (.inl hb)⟩
        · have hb : bp ≠ (0, 0) := of_decide_eq_false hb
          walk_at "w"
          refine T_item_pair1 PB (S.gx (.tail _ (.tail _ mb2))) (fun t => ?_)
          walk_at "w"
          refine ⟨fun hb2 => ?_, fun hb2 => ?_⟩
          · have hb2 : bp.2 < (tally F num : Int) := by have := of_decide_eq_true hb2; omega
            walk_at "w"
            refine T_cell (c := L + 1) (by rfl) (S.gx (.tail _ (.tail _ mc2))) hc2 ?_
            walk_at "w"
            refine ⟨by show 2 ≤ sizeLine; decide, fun b1 h c1 => ?_⟩
            replace S := S.new c1
            walk_at "w"
            subst hnum
            refine ⟨_, _, _, S, rfl, hn1, hn2, (-(F.many : Int) + i, (tally F (-(F.many : Int) + i) : Int)), b1, _, oc2, _, rfl, .head _, ⟨_, _, by rw [← hlen3]⟩, .tail _ (.tail _ (.tail _ mc2)), hc2, hB.new hcand habs (.inr hb2)⟩
          · have hb2 : ¬ bp.2 < (tally F num : Int) := by have := of_decide_eq_false hb2; omega
            walk_at "w"
            subst hnum
            exact ⟨_, _, _, S, rfl, hn1, hn2, bp, ba, ob, oc2, _, hn3, .tail _ (.tail _ mb2), PB, .tail _ (.tail _ mc2), hc2, hB.stay hb hb2⟩
    · clear S mc it
      obtain ⟨rfl, hn1, hn2, bp, ba, ob, oc, v0, hn3, mb, PB, mc, hc, hB⟩ := hI
      have S := S2
      clear S2
      walk_at "w"
      refine T_item_pair0 PB (S.gx mb) (fun t => ?_)
      walk_at "w"
      rw [hcnt] at hB
      exact ⟨_, _, _, S, bp.1, _, rfl, hB.fin⟩
end
end Mine
end
section
open PySem PySem.W PySem.Calls PyProof.Rows
set_option Elab.async false
set_option maxRecDepth 100000
set_option linter.all false
namespace Mine

set_option hygiene false in
local macro_rules | `(tactic| walk_at "e") => `(tactic| ((with_reducible show T _ (eval _ _) _ _); first
  | ((with_reducible show T _ (eval (Expr.Name _ _) _) _ _); first
    | ((with_reducible show T _ (eval (Expr.Name "len" _) _) _ _); refine N_len S (by k_is) ?_)
    | ((with_reducible show T _ (eval (Expr.Name "abs" _) _) _ _); refine N_abs S (by k_is) ?_)
    | ((with_reducible show T _ (eval (Expr.Name "sorted" _) _) _ _); refine N_sorted S (by k_is) ?_)
    | ((with_reducible show T _ (eval (Expr.Name "list" _) _) _ _); refine N_list S (by k_is) ?_)
    | ((with_reducible show T _ (eval (Expr.Name "range" _) _) _ _); refine N_range S (by k_is) ?_)
    | ((with_reducible show T _ (eval (Expr.Name "set" _) _) _ _); refine N_set S (by k_is) ?_)
    | ((with_reducible show T _ (eval (Expr.Name "enumerate" _) _) _ _); refine N_enumerate S (by k_is) ?_)
    | refine T_loc S (by first | rfl | exact hn1 | exact hn2 | exact hn3 | exact hn4 | exact hn5) ?_
    | refine T_glob S (by k_is) ?_)
  | ((with_reducible show T _ (eval (Expr.Constant (Const.int _) _ _) _) _ _); refine T_int (fun t => ?_))
  | ((with_reducible show T _ (eval (Expr.Attribute _ _ _) _) _ _); refine T_attr ?_)
  | ((with_reducible show T _ (eval (Expr.Subscript _ _ _) _) _ _); refine T_item ?_)
  | ((with_reducible show T _ (eval (Expr.Call (Expr.Attribute _ _ _) _ [] _) _) _ _); refine T_Method ?_)
  | ((with_reducible show T _ (eval (Expr.Call _ _ [] _) _) _ _); refine T_Call ?_)
  | ((with_reducible show T _ (eval (Expr.BinOp _ _ _ _) _) _ _); refine T_binop ?_)
  | ((with_reducible show T _ (eval (Expr.UnaryOp _ _ _) _) _ _); refine T_unop ?_)
  | ((with_reducible show T _ (eval (Expr.Compare _ _ _ _) _) _ _); refine T_cmp ?_)
  | ((with_reducible show T _ (eval (Expr.Constant Const.none _ _) _) _ _); refine T_none ?_)
  | ((with_reducible show T _ (eval (Expr.Constant (Const.bool _) _ _) _) _ _); refine T_bool ?_)
  | ((with_reducible show T _ (eval (Expr.Constant (Const.str _) _ _) _) _ _); refine T_str (fun t => ?_))
  | ((with_reducible show T _ (eval (Expr.Dict [] [] _) _) _ _); refine T_dict0 (fun a h c => ?_))
  | ((with_reducible show T _ (eval (Expr.List _ _) _) _ _); refine T_list ?_)
  | ((with_reducible show T _ (eval (Expr.Tuple _ _ _) _) _ _); refine T_tuple ?_)
  | ((with_reducible show T _ (eval (Expr.BoolOp BoolOp.Or [_, _] _) _) _ _); refine T_or2 ?_)
  | ((with_reducible show T _ (eval (Expr.IfExp _ _ _ _) _) _ _); refine T_ifexp ?_)))
set_option hygiene false in
local macro_rules | `(tactic| walk_at "s") => `(tactic| first
  | ((with_reducible show T _ (execs (_ :: _) _) _ _); refine T_seq ?_)
  | ((with_reducible show T _ (execs [] _) _ _); refine T_nil ?_)
  | ((with_reducible show T _ (exec _ _) _ _); first
    | ((with_reducible show T _ (exec (Stmt.Assign [Expr.Name _ _] _ _) _) _ _); refine T_assign ?_)
    | ((with_reducible show T _ (exec (Stmt.If _ _ _ _) _) _ _); refine T_if ?_)
    | ((with_reducible show T _ (exec (Stmt.Return (some _) _) _) _ _); refine T_return ?_)
    | ((with_reducible show T _ (exec (Stmt.Return none _) _) _ _); refine T_return0 ?_)
    | ((with_reducible show T _ (exec (Stmt.Expr _ _) _) _ _); refine T_expr' ?_)
    | ((with_reducible show T _ (exec (Stmt.Assign [Expr.Attribute _ _ _] _ _) _) _ _); refine T_setattr_stmt ?_)
    | ((with_reducible show T _ (exec (Stmt.Assign [Expr.Subscript _ _ _] _ _) _) _ _); refine T_setitem_stmt ?_)
    | ((with_reducible show T _ (exec (Stmt.For (Expr.Name _ _) _ _ [] _) _) _ _); refine T_for ?_)
    | ((with_reducible show T _ (exec (Stmt.AugAssign (Expr.Name _ _) _ _ _) _) _ _); refine T_aug_name ?_)
    | ((with_reducible show T _ (exec (Stmt.AugAssign (Expr.Subscript _ _ _) _ _ _) _) _ _); refine T_aug_item ?_)
    | ((with_reducible show T _ (exec (Stmt.Pass _) _) _ _); refine T_pass ?_)
    | ((with_reducible show T _ (exec (Stmt.Break _) _) _ _); refine T_break ?_)
    | ((with_reducible show T _ (exec (Stmt.Continue _) _) _ _); refine T_continue ?_))
  | ((with_reducible show T _ (storeName _ _ _) _ _); refine T_store S (fun h S => ?_))
  | ((with_reducible show T _ (isTrue _ _ _) _ _); first
    | ((with_reducible show T _ (isTrue (Expr.Compare _ _ _ _) _ _) _ _); refine T_isTrue_cmp ?_)
    | ((with_reducible show T _ (isTrue (Expr.UnaryOp UnaryOp.Not _ _) _ _) _ _); refine T_isTrue_not ?_)
    | ((with_reducible show T _ (isTrue (Expr.BoolOp BoolOp.Or [_, _] _) _ _) _ _); refine T_isTrue_or2 ?_)
    | ((with_reducible show T _ (isTrue (Expr.BoolOp BoolOp.And [_, _] _) _ _) _ _); refine T_isTrue_and2 ?_)
    | ((with_reducible show T _ (isTrue (Expr.BoolOp BoolOp.And [_, _, _] _) _ _) _ _); refine T_isTrue_and3 ?_)
    | (refine T_isTrue_val ?_))
  | ((with_reducible show T _ (truthy (Value.bool _)) _ _); refine T_truthy_bool ?_)
  | ((with_reducible show T _ (truthy (Value.int _ _)) _ _); refine T_truthy_int ?_)
  | ((with_reducible show T _ (truthy Value.none) _ _); refine T_truthy_none ?_)
  | ((with_reducible show T _ (PySem.call (Value.builtin "abs") ([] ++ [Value.int _ _])) _ _); refine T_abs (fun t => ?_))
  | ((with_reducible show Args _ _ (_ :: _) _ _); refine Args_cons ?_)
  | ((with_reducible show Args _ _ [] _ _); refine Args_nil ?_)
  | ((with_reducible show T _ (callWith _ (Value.builtin _) _ _ _) _ _); refine CW_bi ?_)
  | ((with_reducible show T _ (callWith _ (Value.type _) _ _ _) _ _); refine CW_ty ?_)
  | ((with_reducible show T _ (binaryOp Operator.Add (Value.int _ _) (Value.int _ _)) _ _); refine T_add (fun t => ?_))
  | ((with_reducible show T _ (binaryOp Operator.Sub (Value.int _ _) (Value.int _ _)) _ _); refine T_sub (fun t => ?_))
  | ((with_reducible show T _ (unaryOp UnaryOp.USub (Value.int _ _)) _ _); refine T_neg (fun t => ?_))
  | ((with_reducible show T _ (compareOp CmpOp.Eq (Value.int _ _) (Value.int _ _)) _ _); refine T_eq ?_)
  | ((with_reducible show T _ (compareOp CmpOp.NotEq (Value.int _ _) (Value.int _ _)) _ _); refine T_ne ?_)
  | ((with_reducible show T _ (compareOp CmpOp.Lt (Value.int _ _) (Value.int _ _)) _ _); refine T_lt ?_)
  | ((with_reducible show T _ (compareOp CmpOp.Gt (Value.int _ _) (Value.int _ _)) _ _); refine T_gt ?_)
  | ((with_reducible show T _ (compareOp CmpOp.Is _ Value.none) _ _); refine T_is_none ?_)
  | ((with_reducible show T _ (compareOp CmpOp.IsNot _ Value.none) _ _); refine T_isnot_none ?_)
  | walk_at "e")
set_option hygiene false in
local macro_rules | `(tactic| walk_at "w") => `(tactic| repeat (walk_at "s"))
theorem fill_fragG3 : (PySem.Challenge.rw_at6042_01, Mine.hd.heap_39) = (PySem.Challenge.rw_at6042_01, Mine.hd.heap_39) := by k_fill; rfl
section
variable {κ : Kx} {F : Fix} {h H : Heap} {L : Addr} {l : List (Str × Value)} {N M X : Ledger} {adr : Role → Addr} {st : SS} {n : Nat}
/-- a call that changes nothing of what it reads -/
theorem T_outRo {f : Value} {args : List Value} {P : Value → Prop} {Q : Value → Heap → Prop} (S : St κ.w H L l M X h) (led : Led h N) (c : C κ (.call f ⟨args, []⟩) (Out h N fun v N' => N' = N ∧ P v) h) (q : ∀ v h', P v → St κ.w H L l M X h' → Keep h h' → Q v h') : T κ (PySem.call f args) Q h :=
  T.call (c.mono fun v h' ⟨N', led', kb, ni, e, p⟩ => by
    subst e
    have k : Keep h h' := fun b o e => by
      by_cases hb : b ∈ N'.map (·.1)
      · obtain ⟨p, hp, rfl⟩ := List.mem_map.mp hb
        have := led p hp
        rw [e] at this; cases this
        exact led' p hp
      · exact kb b o e hb
    exact q v h' p (S.keeps k) k)
theorem T_satL {name : Str} {v : Value} {expr : Bool} {Q : Value → Heap → Prop} (k : (hd.heap_39 κ.w.params).In h) (led : Led h N) (So : Sol κ.w F N adr st) (ok : AttrOk (hd.heap_39 κ.w.params) 207 name) (hv : ∀ f, DictOk adr st.bad f → f name = some v) (hh : handedIn v = true) (q : Q v h) :
    T κ (getAttr (.ref (adr .inst)) name expr) Q h := by
  obtain ⟨o1, m1, rfl⟩ := So.has .inst trivial
  obtain ⟨o2, m2, f, n, hn, D, ok'⟩ := So.has .dict trivial
  exact T_getAttr k ok (led _ m1) D (led _ m2) (hv f ok') hh q
theorem T_smethL {name : Str} {Fa : Addr} {pl : Sem Bool} {Q : Value × List Value → Heap → Prop} (k : (hd.heap_39 κ.w.params).In h) (led : Led h N) (So : Sol κ.w F N adr st) (ok : MethOk (hd.heap_39 κ.w.params) 207 name Fa) (hv : ∀ f, DictOk adr st.bad f → f name = none) (q : Q (.ref Fa, [.ref (adr .inst)]) h) :
    T κ (getMethod (.ref (adr .inst)) name pl) Q h := by
  obtain ⟨o1, m1, rfl⟩ := So.has .inst trivial
  obtain ⟨o2, m2, f, n, hn, D, ok'⟩ := So.has .dict trivial
  exact T_getMethod k ok (led _ m1) D (led _ m2) (hv f ok') q
theorem bool_snoc {f : Nat → Bool} {i : Nat} {ys : List Value} (h : ys = ((List.range i).map f).map Value.bool) {b : Bool} (hb : b = f i) : ys ++ [.bool b] = ((List.range (i + 1)).map f).map Value.bool := by
  rw [List.range_succ, List.map_append, List.map_append, h, hb]; rfl
set_option maxHeartbeats 4000000 in
theorem alike_spec (R : Room κ (n + 6)) (top : TopIn κ.w (hid h N)) (led : Led h N) (So : Sol κ.w F N adr st) {a s : Addr} {os : Obj} {d : List Int} {tm : Tok} (hr : RowsH (hid h N) a F.rows) (sm : Small F) (hm : F.many ≤ 20) (hlen : ∀ r ∈ F.rows, r.length ≤ 1000)
    (es : (hid h N).get? s = some os) (IS : IntsO d os) (cd : Con F d) (hd : ∀ x, x ∈ st.vs ↔ x ∈ d) (hv : VsetOk F st) :
    C κ (.call (.ref 267) ⟨[.ref (adr .inst), .ref a, .int F.many tm, .ref s], []⟩) (Out h N fun v N' => N' = N ∧ v = .bool true) h := by
  refine C_defC [("solver", .ref (adr .inst)), ("rows", .ref a), ("many", .int F.many tm), ("settled", .ref s)] [("many", .int F.many tm), ("rows", .ref a)] (fun y => if y = "settled" then some (.ref s) else if y = "solver" then some (.ref (adr .inst)) else none) (n := n + 5) R top led (by k_is) (by k_is) (by rfl) (fun m => ?_) (fun L cl => ?_) (fun L cl => ?_) (fun κ L h₁ X0 ew hX0 S R => ?_)
  · intro y hy
    rcases List.mem_cons.mp hy with rfl | hy
    · exact .inr ⟨rfl, rfl⟩
    · rcases List.mem_cons.mp hy with rfl | hy
      · exact .inl rfl
      · rcases List.mem_cons.mp hy with rfl | hy
        · exact .inl rfl
        · rw [List.mem_singleton.mp hy]; exact .inr ⟨rfl, rfl⟩
  · funext y; rfl
  · funext y; rfl
  · rw [← ew] at top So
    clear led
    generalize hid h N = G at S top hr es ⊢
    obtain ⟨o1, ms, hs⟩ := hX0 "solver" (L + 1) (by rfl)
    obtain ⟨o2, md, hd2⟩ := hX0 "settled" (L + 2) (by rfl)
    have hs : o1.data = .cell (some (.ref (adr .inst))) := hs
    have hd2 : o2.data = .cell (some (.ref s)) := hd2
    clear hX0 ew
    have hdl := lits_len cd.nd cd.lit
    obtain ⟨ovs, mvs, Dvs⟩ := So.has .vs trivial
    have hpm : st.vs.Perm d := (List.perm_ext_iff_of_nodup Dvs.nodup cd.nd).mpr hd
    have hvl : st.vs.length = d.length := hpm.length_eq
    walk_at "w"
    refine T_cell (c := L + 1) (by rfl) (S.gx ms) hs ?_
    refine T_sat S So A_vs (fun f ok => ok.vs) rfl ?_
    walk_at "w"
    refine T_sorted_set R.handled Dvs (S.gn mvs) (by omega) (fun r1 h o3 ns p1 w1 i1 c1 => ?_)
    replace S := S.new c1
    walk_at "w"
    refine T_cell (c := L + 2) (by rfl) (S.gx (.tail _ md)) hd2 ?_
    walk_at "w"
    refine T_sorted_list IS (S.base es) (by omega) (fun r2 h o4 ms' p2 w2 i2 c2 => ?_)
    replace S := S.new c2
    have heq : ns = ms' := List.Perm.eq_of_pairwise (fun x y _ _ h1 h2 => Int.le_antisymm h1 h2) w1 w2 ((p1.trans hpm).trans p2.symm)
    subst heq
    refine T_ne_ints R (S.gx (.tail _ (.head _))) i1 (S.gx (.head _)) i2 ?_
    walk_at "w"
    refine ⟨fun hb => (by simp at hb), fun _ => ?_⟩
    walk_at "w"
    have hm2 := sm.many
    refine T_lro ?_
    walk_at "w"
    refine T_range2 fun r3 h v c => ?_
    replace S := S.new c
    refine T_iter_range R (S.gx (.head _)) (by omega) (by omega) fun I h' it => ?_
    have hcnt : ((F.many : Int) + 1 - 1).toNat = F.many := by omega
    refine LRo.pure (fun i ys => ys = ((List.range i).map fun k => st.vset (k + 1)).map Value.bool) (by omega) it (fun p hp => nomatch hp) S.topH rfl (fun C i v ys l2 H3 h3 hk3 hi hP hI S3 => ?_) (fun ys D o h3 hI L3 c3 => ?_)
    · obtain ⟨tk, rfl⟩ := hP
      have led3 : Led h3 N := fun p hp => S3.base (hk3 _ _ (S.gn hp))
      have g1 := S3.base (hk3 _ _ (S.gx (.tail _ (.tail _ (.tail _ ms)))))
      clear S
      have S := S3
      rw [hcnt] at hi
      refine T_tests_nil ?_
      rw [if_pos rfl]
      walk_at "w"
      refine T_cell (c := L + 1) (by rfl) g1 hs ?_
      refine T_satL S.kin led3 So A_vset (fun f ok => ok.vset) rfl ?_
      walk_at "w"
      obtain ⟨ovt, mvt, Bvt⟩ := So.has .vset trivial
      have Bvt : LsO (((List.range (F.many + 1)).map st.vset).map Value.bool) ovt := Bvt
      refine T_item_list (x := .bool (st.vset (i + 1))) Bvt (led3 _ mvt) (by omega) (by omega) ?_ ?_
      · have e1 : (1 + (i : Int)).toNat = i + 1 := by omega
        have hnm : i + 1 < F.many + 1 := by omega
        rw [e1]
        simp [hnm]
      · exact ⟨_, _, S, bool_snoc hI rfl⟩
    replace S := S.new c3
    rw [hcnt] at hI
    subst hI
    refine T_lro ?_
    walk_at "w"
    refine T_range2 fun r4 h v c => ?_
    replace S := S.new c
    refine T_iter_range R (S.gx (.head _)) (by omega) (by omega) fun I h' it => ?_
    refine LRo.pure (fun i ys => ys = ((List.range i).map fun (k : Nat) => decide (((k : Int) + 1) ∈ d ∨ -((k : Int) + 1) ∈ d)).map Value.bool) (by omega) it (fun p hp => nomatch hp) S.topH rfl (fun C i v ys l2 H3 h3 hk3 hi hP hI S3 => ?_) (fun ys D2 o5 h3 hI L4 c4 => ?_)
    · obtain ⟨tk, rfl⟩ := hP
      have g1 := S3.base (hk3 _ _ (S.gx (.tail _ (.tail _ (.tail _ (.tail _ (.tail _ md)))))))
      have g2 := S3.base (hk3 _ _ (S.base es))
      clear S
      have S := S3
      rw [hcnt] at hi
      have ek : (1 + (i : Int)) = (i : Int) + 1 := by omega
      refine T_tests_nil ?_
      rw [if_pos rfl]
      walk_at "w"
      refine T_cell (c := L + 2) (by rfl) g1 hd2 ?_
      refine T_in_ints g2 IS ?_
      walk_at "w"
      refine ⟨fun hb => ?_, fun hb => ?_⟩
      · refine ⟨_, _, S, bool_snoc hI ?_⟩
        have hb := of_decide_eq_true hb
        rw [ek] at hb ⊢
        rw [decide_eq_true hb, decide_eq_true (.inl hb)]
      · have hb := of_decide_eq_false hb
        walk_at "w"
        refine T_cell (c := L + 2) (by rfl) g1 hd2 ?_
        refine T_in_ints g2 IS ?_
        refine ⟨_, _, S, bool_snoc hI ?_⟩
        rw [ek] at hb ⊢
        by_cases q : -((i : Int) + 1) ∈ d
        · rw [decide_eq_true q, decide_eq_true (.inr q)]
        · rw [decide_eq_false q, decide_eq_false fun z => z.elim hb q]
    replace S := S.new c4
    rw [hcnt] at hI
    subst hI
    have hveq : ((List.range F.many).map fun k => st.vset (k + 1)) = ((List.range F.many).map fun (k : Nat) => decide (((k : Int) + 1) ∈ d ∨ -((k : Int) + 1) ∈ d)) := by
      refine List.map_congr_left fun k hk => ?_
      have hk := List.mem_range.mp hk
      have := hv ((k : Int) + 1) ⟨by omega, by omega⟩
      rw [hd, hd, show ((k : Int) + 1).natAbs = k + 1 by omega] at this
      rw [Bool.eq_iff_iff, this, decide_eq_true_eq]
    rw [hveq] at L3
    refine T_ne_bools R (S.gx (.tail _ (.tail _ (.head _)))) L3 (S.gx (.head _)) L4 ?_
    walk_at "w"
    refine ⟨fun hb => (by simp at hb), fun _ => ?_⟩
    walk_at "w"
    clear L3 L4 hveq
    refine T_lro ?_
    walk_at "w"
    obtain ⟨orows, vrows, erows, Lrows, hvrows, hrow⟩ := hr.has
    refine T_len_list Lrows (S.base erows) (by have := sm.rows; omega) (fun t => ?_)
    rw [hvrows]
    refine T_range1 fun r5 h t v c => ?_
    replace S := S.new c
    have hm3 := sm.rows
    refine T_iter_range R (S.gx (.head _)) (by omega) (by omega) fun I h' it => ?_
    have hcn2 : ((F.rows.length : Int) - 0).toNat = F.rows.length := by omega
    have hmsX := S.gx (.tail _ (.tail _ (.tail _ (.tail _ (.tail _ (.tail _ (.tail _ ms)))))))
    have hmdX := S.gx (.tail _ (.tail _ (.tail _ (.tail _ (.tail _ (.tail _ (.tail _ md)))))))
    refine LRo.pure (fun i ys => ys = ((List.range i).map fun k => (rowAt F k).any fun l => decide (l ∈ st.vs)).map Value.bool) (by omega) it (fun p hp => nomatch hp) S.topH rfl (fun C i v ys l2 H3 h3 hk3 hi hP hI S3 => ?_) (fun ys D o h3 hI L3 c3 => ?_)
    · obtain ⟨tk, rfl⟩ := hP
      have led3 : Led h3 N := fun p hp => S3.base (hk3 _ _ (S.gn hp))
      have top3 : TopIn κ.w (hid h3 N) := S.topN.keep fun b o e => by
        refine hid_get (S3.base (hk3 _ _ (hid_sub _ _ e))) fun hm => ?_
        obtain ⟨p, hp, rfl⟩ := List.mem_map.mp hm
        rw [hid_none hp] at e; cases e
      have g1 := S3.base (hk3 _ _ hmsX)
      clear S
      have S := S3
      rw [hcn2] at hi
      have ek : (0 + (i : Int)) = (i : Int) := by omega
      rw [ek] at S
      refine T_tests_nil ?_
      rw [if_pos rfl]
      walk_at "w"
      refine T_cell (c := L + 1) (by rfl) g1 hs ?_
      refine T_smethL S.kin led3 So K_sat (fun f ok => ok.m1) ?_
      refine CW_K (by k_is) ?_
      walk_at "w"
      refine ⟨S.kin, T_outRo S led3 (sat_spec (n := n + 2) (R.le (by omega)) top3 led3 So hi (by omega)) fun v h hP S k => ?_⟩
      subst hP
      exact ⟨_, _, S, bool_snoc hI rfl⟩
    replace S := S.new c3
    rw [hcn2] at hI
    subst hI
    refine T_lro ?_
    walk_at "w"
    refine T_iter_list R Lrows (S.base erows) fun I2 h2 it2 => ?_
    refine LRo.pure (fun i ys => ys = ((List.range i).map fun k => (rowAt F k).any fun l => decide (l ∈ st.vs)).map Value.bool) (by omega) it2 (fun p hp => by rw [List.mem_singleton.mp hp]; exact S.base erows) S.topH rfl (fun C j v ys l2 H3 h3 hk3 hj hP hI S3 => ?_) (fun ys D2 o5 h3 hI L4 c4 => ?_)
    · obtain ⟨Tr, oT, rfl, eT, iT⟩ := hrow j v hP
      have hjF : j < F.rows.length := by rw [← hvrows]; exact hj
      have hmem : rowAt F j ∈ F.rows := rowAt_mem hjF
      have iT : IntsO (rowAt F j) oT := iT
      have g1 := S3.base (hk3 _ _ (S.gx (.tail _ (.tail _ (.tail _ (.tail _ (.tail _ (.tail _ (.tail _ (.tail _ md))))))))))
      have g2 := S3.base (hk3 _ _ (S.base es))
      have g3 := S3.base (hk3 _ _ (S.base eT))
      clear S
      have S := S3
      refine T_tests_nil ?_
      rw [if_pos rfl]
      walk_at "w"
      refine T_sieve R (fun w => decide (w ∈ d)) ?_
      walk_at "w"
      refine ⟨_, _, _, rfl, g3, iT, hlen _ hmem, S.topH, fun C2 w tw l3 H4 h4 hk4 hw S4 => ?_, fun D3 o6 h4 i6 c6 => ?_⟩
      · have g5 := S4.base (hk4 _ _ g1)
        have g6 := S4.base (hk4 _ _ g2)
        clear S
        have S := S4
        walk_at "w"
        refine T_cell (c := L + 2) (by rfl) g5 hd2 ?_
        refine T_in_ints g6 IS ?_
        walk_at "w"
        exact ⟨rfl, _, S⟩
      · replace S := S.new c6
        walk_at "w"
        refine ⟨by decide, fun e0 h c0 => ?_⟩
        replace S := S.new c0
        refine T_ne_ints R (S.gx (.tail _ (.head _))) i6 (S.gx (.head _)) ⟨[], LsO.new [], .nil⟩ ?_
        refine ⟨_, _, S, bool_snoc hI ?_⟩
        rw [Bool.eq_iff_iff, sat_iff, Bool.not_eq_true', decide_eq_false_iff_not]
        have := sat_filter (V := d) (r := rowAt F j)
        rw [show (List.filter (fun w => decide (w ∈ d)) (rowAt F j) = []) ↔ ¬ Sat d (rowAt F j) from ⟨fun e q => this.mpr q e, fun q => Classical.byContradiction fun e => q (this.mp e)⟩]
        constructor
        · intro q
          obtain ⟨x, x1, x2⟩ := Classical.byContradiction q
          exact ⟨x, x1, (hd x).mpr x2⟩
        · rintro ⟨x, x1, x2⟩ q
          exact q ⟨x, x1, (hd x).mp x2⟩
    replace S := S.new c4
    rw [hvrows] at hI
    subst hI
    refine T_eq_bools R (S.gx (.tail _ (.head _))) L3 (S.gx (.head _)) L4 ?_
    rw [decide_eq_true rfl]
    exact ⟨_, _, _, S, rfl, rfl⟩
end
end Mine
end
section
open PySem PySem.W PySem.Calls PyProof.Rows
set_option Elab.async false
set_option maxRecDepth 100000
set_option linter.all false
namespace Mine

set_option hygiene false in
local macro_rules | `(tactic| walk_at "e") => `(tactic| ((with_reducible show T _ (eval _ _) _ _); first
  | ((with_reducible show T _ (eval (Expr.Name _ _) _) _ _); first
    | ((with_reducible show T _ (eval (Expr.Name "len" _) _) _ _); refine N_len S (by k_is) ?_)
    | ((with_reducible show T _ (eval (Expr.Name "abs" _) _) _ _); refine N_abs S (by k_is) ?_)
    | ((with_reducible show T _ (eval (Expr.Name "sorted" _) _) _ _); refine N_sorted S (by k_is) ?_)
    | ((with_reducible show T _ (eval (Expr.Name "list" _) _) _ _); refine N_list S (by k_is) ?_)
    | ((with_reducible show T _ (eval (Expr.Name "range" _) _) _ _); refine N_range S (by k_is) ?_)
    | ((with_reducible show T _ (eval (Expr.Name "set" _) _) _ _); refine N_set S (by k_is) ?_)
    | ((with_reducible show T _ (eval (Expr.Name "enumerate" _) _) _ _); refine N_enumerate S (by k_is) ?_)
    | refine T_loc S (by first | rfl | exact hn1 | exact hn2 | exact hn3 | exact hn4 | exact hn5) ?_
    | refine T_glob S (by k_is) ?_)
  | ((with_reducible show T _ (eval (Expr.Constant (Const.int _) _ _) _) _ _); refine T_int (fun t => ?_))
  | ((with_reducible show T _ (eval (Expr.Attribute _ _ _) _) _ _); refine T_attr ?_)
  | ((with_reducible show T _ (eval (Expr.Subscript _ _ _) _) _ _); refine T_item ?_)
  | ((with_reducible show T _ (eval (Expr.Call (Expr.Attribute _ _ _) _ [] _) _) _ _); refine T_Method ?_)
  | ((with_reducible show T _ (eval (Expr.Call _ _ [] _) _) _ _); refine T_Call ?_)
  | ((with_reducible show T _ (eval (Expr.BinOp _ _ _ _) _) _ _); refine T_binop ?_)
  | ((with_reducible show T _ (eval (Expr.UnaryOp _ _ _) _) _ _); refine T_unop ?_)
  | ((with_reducible show T _ (eval (Expr.Compare _ _ _ _) _) _ _); refine T_cmp ?_)
  | ((with_reducible show T _ (eval (Expr.Constant Const.none _ _) _) _ _); refine T_none ?_)
  | ((with_reducible show T _ (eval (Expr.Constant (Const.bool _) _ _) _) _ _); refine T_bool ?_)
  | ((with_reducible show T _ (eval (Expr.Constant (Const.str _) _ _) _) _ _); refine T_str (fun t => ?_))
  | ((with_reducible show T _ (eval (Expr.Dict [] [] _) _) _ _); refine T_dict0 (fun a h c => ?_))
  | ((with_reducible show T _ (eval (Expr.List _ _) _) _ _); refine T_list ?_)
  | ((with_reducible show T _ (eval (Expr.Tuple _ _ _) _) _ _); refine T_tuple ?_)
  | ((with_reducible show T _ (eval (Expr.BoolOp BoolOp.Or [_, _] _) _) _ _); refine T_or2 ?_)
  | ((with_reducible show T _ (eval (Expr.IfExp _ _ _ _) _) _ _); refine T_ifexp ?_)))
set_option hygiene false in
local macro_rules | `(tactic| walk_at "s") => `(tactic| first
  | ((with_reducible show T _ (execs (_ :: _) _) _ _); refine T_seq ?_)
  | ((with_reducible show T _ (execs [] _) _ _); refine T_nil ?_)
  | ((with_reducible show T _ (exec _ _) _ _); first
    | ((with_reducible show T _ (exec (Stmt.Assign [Expr.Name _ _] _ _) _) _ _); refine T_assign ?_)
    | ((with_reducible show T _ (exec (Stmt.If _ _ _ _) _) _ _); refine T_if ?_)
    | ((with_reducible show T _ (exec (Stmt.Return (some _) _) _) _ _); refine T_return ?_)
    | ((with_reducible show T _ (exec (Stmt.Return none _) _) _ _); refine T_return0 ?_)
    | ((with_reducible show T _ (exec (Stmt.Expr _ _) _) _ _); refine T_expr' ?_)
    | ((with_reducible show T _ (exec (Stmt.Assign [Expr.Attribute _ _ _] _ _) _) _ _); refine T_setattr_stmt ?_)
    | ((with_reducible show T _ (exec (Stmt.Assign [Expr.Subscript _ _ _] _ _) _) _ _); refine T_setitem_stmt ?_)
    | ((with_reducible show T _ (exec (Stmt.For (Expr.Name _ _) _ _ [] _) _) _ _); refine T_for ?_)
    | ((with_reducible show T _ (exec (Stmt.AugAssign (Expr.Name _ _) _ _ _) _) _ _); refine T_aug_name ?_)
    | ((with_reducible show T _ (exec (Stmt.AugAssign (Expr.Subscript _ _ _) _ _ _) _) _ _); refine T_aug_item ?_)
    | ((with_reducible show T _ (exec (Stmt.Pass _) _) _ _); refine T_pass ?_)
    | ((with_reducible show T _ (exec (Stmt.Break _) _) _ _); refine T_break ?_)
    | ((with_reducible show T _ (exec (Stmt.Continue _) _) _ _); refine T_continue ?_))
  | ((with_reducible show T _ (storeName _ _ _) _ _); refine T_store S (fun h S => ?_))
  | ((with_reducible show T _ (isTrue _ _ _) _ _); first
    | ((with_reducible show T _ (isTrue (Expr.Compare _ _ _ _) _ _) _ _); refine T_isTrue_cmp ?_)
    | ((with_reducible show T _ (isTrue (Expr.UnaryOp UnaryOp.Not _ _) _ _) _ _); refine T_isTrue_not ?_)
    | ((with_reducible show T _ (isTrue (Expr.BoolOp BoolOp.Or [_, _] _) _ _) _ _); refine T_isTrue_or2 ?_)
    | ((with_reducible show T _ (isTrue (Expr.BoolOp BoolOp.And [_, _] _) _ _) _ _); refine T_isTrue_and2 ?_)
    | ((with_reducible show T _ (isTrue (Expr.BoolOp BoolOp.And [_, _, _] _) _ _) _ _); refine T_isTrue_and3 ?_)
    | (refine T_isTrue_val ?_))
  | ((with_reducible show T _ (truthy (Value.bool _)) _ _); refine T_truthy_bool ?_)
  | ((with_reducible show T _ (truthy (Value.int _ _)) _ _); refine T_truthy_int ?_)
  | ((with_reducible show T _ (truthy Value.none) _ _); refine T_truthy_none ?_)
  | ((with_reducible show T _ (PySem.call (Value.builtin "abs") ([] ++ [Value.int _ _])) _ _); refine T_abs (fun t => ?_))
  | ((with_reducible show Args _ _ (_ :: _) _ _); refine Args_cons ?_)
  | ((with_reducible show Args _ _ [] _ _); refine Args_nil ?_)
  | ((with_reducible show T _ (callWith _ (Value.builtin _) _ _ _) _ _); refine CW_bi ?_)
  | ((with_reducible show T _ (callWith _ (Value.type _) _ _ _) _ _); refine CW_ty ?_)
  | ((with_reducible show T _ (binaryOp Operator.Add (Value.int _ _) (Value.int _ _)) _ _); refine T_add (fun t => ?_))
  | ((with_reducible show T _ (binaryOp Operator.Sub (Value.int _ _) (Value.int _ _)) _ _); refine T_sub (fun t => ?_))
  | ((with_reducible show T _ (unaryOp UnaryOp.USub (Value.int _ _)) _ _); refine T_neg (fun t => ?_))
  | ((with_reducible show T _ (compareOp CmpOp.Eq (Value.int _ _) (Value.int _ _)) _ _); refine T_eq ?_)
  | ((with_reducible show T _ (compareOp CmpOp.NotEq (Value.int _ _) (Value.int _ _)) _ _); refine T_ne ?_)
  | ((with_reducible show T _ (compareOp CmpOp.Lt (Value.int _ _) (Value.int _ _)) _ _); refine T_lt ?_)
  | ((with_reducible show T _ (compareOp CmpOp.Gt (Value.int _ _) (Value.int _ _)) _ _); refine T_gt ?_)
  | ((with_reducible show T _ (compareOp CmpOp.Is _ Value.none) _ _); refine T_is_none ?_)
  | ((with_reducible show T _ (compareOp CmpOp.IsNot _ Value.none) _ _); refine T_isnot_none ?_)
  | walk_at "e")
set_option hygiene false in
local macro_rules | `(tactic| walk_at "w") => `(tactic| repeat (walk_at "s"))
theorem fill_fragG4 : (PySem.Challenge.rw_at6042_01, Mine.hd.heap_39) = (PySem.Challenge.rw_at6042_01, Mine.hd.heap_39) := by k_fill; rfl
def DrawOk (N : Ledger) (da la : Addr) : Prop := ∃ xs seed, DrawAt N da la xs seed ∧ xs.length ≤ 1000 ∧ 0 ≤ seed ∧ seed < 2147483647
section
variable {κ : Kx} {F : Fix} {h H : Heap} {L : Addr} {l : List (Str × Value)} {N M X : Ledger} {adr : Role → Addr} {st : SS} {n : Nat}
theorem T_take {da la : Addr} {k : Int} {tk : Tok} {Q : Value → Heap → Prop} (R : Room κ (n + 5)) (S : St κ.w H L l N X h) (D : DrawOk N da la) (hk : 0 < k)
    (q : ∀ x t N' h', 0 ≤ x → x < k → DrawOk N' da la → St κ.w H L l N' X h' → Q (.int x t) h') : T κ (PySem.call (.ref 245) [.ref da, .int k tk]) Q h := by
  obtain ⟨xs, seed, D, h1, h2, h3⟩ := D
  refine T_out S (take_spec (n := n) R S.topN S.ledN D h1 ⟨h2, h3⟩ (by omega)) fun v N' h' ⟨t, e, D'⟩ S' => ?_
  subst e
  refine q _ t N' h' (Int.fmod_nonneg_of_pos _ hk) (Int.fmod_lt_of_pos _ hk) ⟨_, _, D', ?_, ?_, ?_⟩ S'
  · cases xs with
    | nil => exact h1
    | cons a r => show r.length ≤ 1000; simp at h1; omega
  · cases xs with
    | nil => exact Int.fmod_nonneg_of_pos _ (by decide)
    | cons a r => exact h2
  · cases xs with
    | nil => exact Int.fmod_lt_of_pos _ (by decide)
    | cons a r => exact h3
theorem T_iter_listL {l : Addr} {o : Obj} {items : List Value} {Q : Value → Heap → Prop} {m : Nat} (R : Room κ m) (L : ∀ h' : Heap, h'.get? l = some o → h'.IsList l items.toArray) (e : h.get? l = some o)
    (q : ∀ I h', ItNew κ h I [(l, o)] items.length (fun i v => items[i]? = some v) h' → Q (.ref I) h') : T κ (pyIter (.ref l)) Q h := fun d tk => by
  refine wpAny_pyIter_list (s := ⟨h, κ.g, d, tk, κ.os⟩) (L h e) ⟨rfl, rfl, q _ _ ⟨get_size_none h, keep_push _ _, ?_⟩⟩
  have hne : l ≠ h.objs.size := Nat.ne_of_lt (Heap.lt_size e)
  have W := Walks.list (prog := PW) (w := κ.w) (A := κ.A) R.handled h.objs.size l hne items.toArray
  refine ⟨[], fun i h' => h'.IsListIter h.objs.size l i ∧ h'.IsList l items.toArray, (fun p hp => (nomatch hp)), ⟨by simpa using W, ?_⟩, ?_⟩
  · rintro i h' ⟨⟨o, ho, _⟩, _⟩; exact ⟨o, ho⟩
  · exact ⟨⟨_, Heap.get?_push_size _ rfl, rfl, rfl⟩, (L h e).at fun o e => Heap.get?_push_of_some _ e⟩
set_option maxHeartbeats 4000000 in
theorem draw_spec (R : Room κ (n + 3)) (top : TopIn κ.w (hid h [])) {s : Addr} {os : Obj} {S0 : List Int} {vs : List Value} (es : h.get? s = some os) (Ls : ∀ h' : Heap, h'.get? s = some os → h'.IsList s vs.toArray) (is : IntsAre vs S0) (hl : S0.length ≤ 100) :
    C κ (.call (.ref 238) ⟨[.ref s], []⟩) (Out h [] fun v N' => ∃ da la, v = .ref da ∧ DrawOk N' da la) h := by
  refine C_def [("script", .ref s)] _ (n := n + 2) R top (fun p hp => nomatch hp) (by k_is) (by k_is) (fun s _ => BindsTo.of_eq rfl) (locs rfl) rfl (fun κ L h₁ ew S R => ?_)
  rw [← ew] at top
  have es : (hid h []).get? s = some os := keep_hid0 h _ _ es
  generalize hid h [] = G at S top es ⊢
  have hvl : vs.length = S0.length := is.length
  walk_at "w"
  refine T_iter_listL R Ls (S.base es) fun I h' it => ?_
  refine ForAt.mk3 ["seed"] S it (fun i m N' X' => N' = [] ∧ ∃ seed t, m "seed" = some (.int seed t) ∧ 0 ≤ seed ∧ seed < 2147483647) ⟨rfl, 7, _, rfl, by decide, by decide⟩ (fun i m N' X' _ p hp => by rw [List.mem_singleton.mp hp]; exact .inr (.inr es))
    (fun i v l2 N2 X2 H2 h2 hk2 hi hP hI hl2 S2 => ?_) (fun l2 N2 X2 h2 hI hl2 S2 => ?_)
  · obtain ⟨rfl, seed, ts, hn1, h1, h2⟩ := hI
    obtain ⟨c, tc, hc, rfl⟩ := ints_of_at is hP
    clear S it
    have S := S2
    walk_at "w"
    refine T_mul (IntMulOk.of_right (by decide)) (fun t => ?_)
    walk_at "w"
    refine T_mod (by decide) (fun t => ?_)
    walk_at "w"
    refine T_mod (by decide) (fun t => ?_)
    walk_at "w"
    refine ⟨_, _, _, S, fun y h1 h2 => ?_, rfl, _, _, rfl, Int.fmod_nonneg_of_pos _ (by decide), Int.fmod_lt_of_pos _ (by decide)⟩
    have e1 : y ≠ "seed" := fun e => h2 (by rw [e]; exact .head _)
    have h3 := hl2 y h1 h2
    simp only [look, if_neg h1, if_neg e1] at h3 ⊢; exact h3
  · obtain ⟨rfl, seed, ts, hn2, h1, h2⟩ := hI
    clear S it
    have S := S2
    have hn1 : look l2 "script" = some (.ref s) := (hl2 "script" (by decide) (by decide)).trans rfl
    refine T_seq (T_return (T_list (Args_cons (T_slice' ?_))))
    refine T_lro ?_
    walk_at "w"
    refine T_iter_listL R Ls (S.base es) fun I h' it => ?_
    refine LRo.pure (fun i ys => ys.length = i ∧ ∃ ns, IntsAre ys ns) (by omega) it (fun p hp => by rw [List.mem_singleton.mp hp]; exact S.base es) S.topH ⟨rfl, [], .nil⟩ (fun C i v ys l3 H3 h3 hk3 hi hP hI S3 => ?_) (fun ys D o h3 hI L3 c3 => ?_)
    · obtain ⟨c, tc, hc, rfl⟩ := ints_of_at is hP
      clear S
      have S := S3
      refine T_tests_nil ?_
      rw [if_pos rfl]
      walk_at "w"
      obtain ⟨i1, ns, i2⟩ := hI
      exact ⟨_, _, S, by simp [i1], _, ints_app i2 (.cons _ _ .nil)⟩
    · obtain ⟨i1, ns, i2⟩ := hI
      replace S := S.new c3
      refine T_part_none ?_
      refine T_part_some ?_
      walk_at "w"
      refine ⟨_, _, _, _, _, rfl, S.gx (.head _), L3, by omega, .none, .int _ _, fun r h o ys2 hys hL c => ?_⟩
      have hys2 : ys2 = ys.take 60 := by
        have := slicePick_upto' ys.toArray 60
        have e : (((60 : Nat) : Int)) = 60 := rfl
        rw [e] at this
        rw [this] at hys
        simpa using (congrArg Array.toList hys).symm
      subst hys2
      replace S := S.dropX (X' := []) fun p hp => nomatch hp
      replace S := S.newN c
      walk_at "w"
      refine ⟨by show 2 ≤ sizeLine; decide, fun da h cd => ?_⟩
      have hne : da ≠ r := fun e => by have := S.gn (.head _); rw [← e, cd.fresh] at this; cases this
      replace S := S.newN cd
      refine ⟨_, _, _, S, da, r, rfl, ns.take 60, seed, ⟨⟨_, ts, .head _, LsO.new _⟩, ⟨o, .tail _ (.head _), _, hL, ?_⟩, hne⟩, by have := i2.length; simp; omega, h1, h2⟩
      have key : ∀ (k : Nat) {ys : List Value} {ns : List Int}, IntsAre ys ns → IntsAre (ys.take k) (ns.take k) := fun k => by
        induction k with
        | zero => intro ys ns _; exact .nil
        | succ k ih =>
          intro ys ns x
          cases x with
          | nil => exact .nil
          | cons a t y => exact .cons a t (ih y)
      exact key 60 i2
end
end Mine
end
section
open PySem PySem.W PySem.Calls PyProof.Rows
set_option Elab.async false
set_option maxRecDepth 100000
set_option linter.all false
namespace Mine

set_option hygiene false in
local macro_rules | `(tactic| walk_at "e") => `(tactic| ((with_reducible show T _ (eval _ _) _ _); first
  | ((with_reducible show T _ (eval (Expr.Name _ _) _) _ _); first
    | ((with_reducible show T _ (eval (Expr.Name "len" _) _) _ _); refine N_len S (by k_is) ?_)
    | ((with_reducible show T _ (eval (Expr.Name "abs" _) _) _ _); refine N_abs S (by k_is) ?_)
    | ((with_reducible show T _ (eval (Expr.Name "sorted" _) _) _ _); refine N_sorted S (by k_is) ?_)
    | ((with_reducible show T _ (eval (Expr.Name "list" _) _) _ _); refine N_list S (by k_is) ?_)
    | ((with_reducible show T _ (eval (Expr.Name "range" _) _) _ _); refine N_range S (by k_is) ?_)
    | ((with_reducible show T _ (eval (Expr.Name "set" _) _) _ _); refine N_set S (by k_is) ?_)
    | ((with_reducible show T _ (eval (Expr.Name "enumerate" _) _) _ _); refine N_enumerate S (by k_is) ?_)
    | refine T_loc S (by first | rfl | exact hn1 | exact hn2 | exact hn3 | exact hn4 | exact hn5) ?_
    | refine T_glob S (by k_is) ?_)
  | ((with_reducible show T _ (eval (Expr.Constant (Const.int _) _ _) _) _ _); refine T_int (fun t => ?_))
  | ((with_reducible show T _ (eval (Expr.Attribute _ _ _) _) _ _); refine T_attr ?_)
  | ((with_reducible show T _ (eval (Expr.Subscript _ _ _) _) _ _); refine T_item ?_)
  | ((with_reducible show T _ (eval (Expr.Call (Expr.Attribute _ _ _) _ [] _) _) _ _); refine T_Method ?_)
  | ((with_reducible show T _ (eval (Expr.Call _ _ [] _) _) _ _); refine T_Call ?_)
  | ((with_reducible show T _ (eval (Expr.BinOp _ _ _ _) _) _ _); refine T_binop ?_)
  | ((with_reducible show T _ (eval (Expr.UnaryOp _ _ _) _) _ _); refine T_unop ?_)
  | ((with_reducible show T _ (eval (Expr.Compare _ _ _ _) _) _ _); refine T_cmp ?_)
  | ((with_reducible show T _ (eval (Expr.Constant Const.none _ _) _) _ _); refine T_none ?_)
  | ((with_reducible show T _ (eval (Expr.Constant (Const.bool _) _ _) _) _ _); refine T_bool ?_)
  | ((with_reducible show T _ (eval (Expr.Constant (Const.str _) _ _) _) _ _); refine T_str (fun t => ?_))
  | ((with_reducible show T _ (eval (Expr.Dict [] [] _) _) _ _); refine T_dict0 (fun a h c => ?_))
  | ((with_reducible show T _ (eval (Expr.List _ _) _) _ _); refine T_list ?_)
  | ((with_reducible show T _ (eval (Expr.Tuple _ _ _) _) _ _); refine T_tuple ?_)
  | ((with_reducible show T _ (eval (Expr.BoolOp BoolOp.Or [_, _] _) _) _ _); refine T_or2 ?_)
  | ((with_reducible show T _ (eval (Expr.IfExp _ _ _ _) _) _ _); refine T_ifexp ?_)))
set_option hygiene false in
local macro_rules | `(tactic| walk_at "s") => `(tactic| first
  | ((with_reducible show T _ (execs (_ :: _) _) _ _); refine T_seq ?_)
  | ((with_reducible show T _ (execs [] _) _ _); refine T_nil ?_)
  | ((with_reducible show T _ (exec _ _) _ _); first
    | ((with_reducible show T _ (exec (Stmt.Assign [Expr.Name _ _] _ _) _) _ _); refine T_assign ?_)
    | ((with_reducible show T _ (exec (Stmt.If _ _ _ _) _) _ _); refine T_if ?_)
    | ((with_reducible show T _ (exec (Stmt.Return (some _) _) _) _ _); refine T_return ?_)
    | ((with_reducible show T _ (exec (Stmt.Return none _) _) _ _); refine T_return0 ?_)
    | ((with_reducible show T _ (exec (Stmt.Expr _ _) _) _ _); refine T_expr' ?_)
    | ((with_reducible show T _ (exec (Stmt.Assign [Expr.Attribute _ _ _] _ _) _) _ _); refine T_setattr_stmt ?_)
    | ((with_reducible show T _ (exec (Stmt.Assign [Expr.Subscript _ _ _] _ _) _) _ _); refine T_setitem_stmt ?_)
    | ((with_reducible show T _ (exec (Stmt.For (Expr.Name _ _) _ _ [] _) _) _ _); refine T_for ?_)
    | ((with_reducible show T _ (exec (Stmt.AugAssign (Expr.Name _ _) _ _ _) _) _ _); refine T_aug_name ?_)
    | ((with_reducible show T _ (exec (Stmt.AugAssign (Expr.Subscript _ _ _) _ _ _) _) _ _); refine T_aug_item ?_)
    | ((with_reducible show T _ (exec (Stmt.Pass _) _) _ _); refine T_pass ?_)
    | ((with_reducible show T _ (exec (Stmt.Break _) _) _ _); refine T_break ?_)
    | ((with_reducible show T _ (exec (Stmt.Continue _) _) _ _); refine T_continue ?_))
  | ((with_reducible show T _ (storeName _ _ _) _ _); refine T_store S (fun h S => ?_))
  | ((with_reducible show T _ (isTrue _ _ _) _ _); first
    | ((with_reducible show T _ (isTrue (Expr.Compare _ _ _ _) _ _) _ _); refine T_isTrue_cmp ?_)
    | ((with_reducible show T _ (isTrue (Expr.UnaryOp UnaryOp.Not _ _) _ _) _ _); refine T_isTrue_not ?_)
    | ((with_reducible show T _ (isTrue (Expr.BoolOp BoolOp.Or [_, _] _) _ _) _ _); refine T_isTrue_or2 ?_)
    | ((with_reducible show T _ (isTrue (Expr.BoolOp BoolOp.And [_, _] _) _ _) _ _); refine T_isTrue_and2 ?_)
    | ((with_reducible show T _ (isTrue (Expr.BoolOp BoolOp.And [_, _, _] _) _ _) _ _); refine T_isTrue_and3 ?_)
    | (refine T_isTrue_val ?_))
  | ((with_reducible show T _ (truthy (Value.bool _)) _ _); refine T_truthy_bool ?_)
  | ((with_reducible show T _ (truthy (Value.int _ _)) _ _); refine T_truthy_int ?_)
  | ((with_reducible show T _ (truthy Value.none) _ _); refine T_truthy_none ?_)
  | ((with_reducible show T _ (PySem.call (Value.builtin "abs") ([] ++ [Value.int _ _])) _ _); refine T_abs (fun t => ?_))
  | ((with_reducible show Args _ _ (_ :: _) _ _); refine Args_cons ?_)
  | ((with_reducible show Args _ _ [] _ _); refine Args_nil ?_)
  | ((with_reducible show T _ (callWith _ (Value.builtin _) _ _ _) _ _); refine CW_bi ?_)
  | ((with_reducible show T _ (callWith _ (Value.type _) _ _ _) _ _); refine CW_ty ?_)
  | ((with_reducible show T _ (binaryOp Operator.Add (Value.int _ _) (Value.int _ _)) _ _); refine T_add (fun t => ?_))
  | ((with_reducible show T _ (binaryOp Operator.Sub (Value.int _ _) (Value.int _ _)) _ _); refine T_sub (fun t => ?_))
  | ((with_reducible show T _ (unaryOp UnaryOp.USub (Value.int _ _)) _ _); refine T_neg (fun t => ?_))
  | ((with_reducible show T _ (compareOp CmpOp.Eq (Value.int _ _) (Value.int _ _)) _ _); refine T_eq ?_)
  | ((with_reducible show T _ (compareOp CmpOp.NotEq (Value.int _ _) (Value.int _ _)) _ _); refine T_ne ?_)
  | ((with_reducible show T _ (compareOp CmpOp.Lt (Value.int _ _) (Value.int _ _)) _ _); refine T_lt ?_)
  | ((with_reducible show T _ (compareOp CmpOp.Gt (Value.int _ _) (Value.int _ _)) _ _); refine T_gt ?_)
  | ((with_reducible show T _ (compareOp CmpOp.Is _ Value.none) _ _); refine T_is_none ?_)
  | ((with_reducible show T _ (compareOp CmpOp.IsNot _ Value.none) _ _); refine T_isnot_none ?_)
  | walk_at "e")
set_option hygiene false in
local macro_rules | `(tactic| walk_at "w") => `(tactic| repeat (walk_at "s"))
theorem fill_fragG5 : (PySem.Challenge.rw_at6042_01, Mine.hd.heap_39) = (PySem.Challenge.rw_at6042_01, Mine.hd.heap_39) := by k_fill; rfl
/-- a list of lists of ints in a ledger -/
structure RowsL (X : Ledger) (ra : Addr) (rows : List (List Int)) (P : Addr → Prop) : Prop where
  has : ∃ o vs, (ra, o) ∈ X ∧ LsO vs o ∧ vs.length = rows.length ∧ ∀ (i : Nat) v, vs[i]? = some v → ∃ Tr oT, v = .ref Tr ∧ (Tr, oT) ∈ X ∧ IntsO (rows.getD i []) oT ∧ Tr ≠ ra ∧ P Tr
theorem RowsL.more {X X' : Ledger} {ra : Addr} {rows : List (List Int)} {P P' : Addr → Prop} (x : RowsL X ra rows P) (k : ∀ p ∈ X, p ∈ X') (hp : ∀ a o, (a, o) ∈ X → P a → P' a) : RowsL X' ra rows P' := by
  obtain ⟨o, vs, m, L, hl, hv⟩ := x.has
  exact ⟨o, vs, k _ m, L, hl, fun i v hi => let ⟨T, oT, e1, e2, e3, e4, e5⟩ := hv i v hi; ⟨T, oT, e1, k _ e2, e3, e4, hp _ _ e2 e5⟩⟩
theorem RowsL.upd {X : Ledger} {ra rw : Addr} {rows : List (List Int)} {P : Addr → Prop} {o : Obj} (x : RowsL X ra rows P) (h : ra ≠ rw) (hp : ∀ a, P a → a ≠ rw) : RowsL (Mine.upd X rw o) ra rows P := by
  obtain ⟨o, vs, m, L, hl, hv⟩ := x.has
  exact ⟨o, vs, mem_upd_of_ne m h, L, hl, fun i v hi => let ⟨T, oT, e1, e2, e3, e4, e5⟩ := hv i v hi; ⟨T, oT, e1, mem_upd_of_ne e2 (hp _ e5), e3, e4, e5⟩⟩
theorem RowsL.push {X : Ledger} {ra rw : Addr} {rows : List (List Int)} {row : List Int} {P P' : Addr → Prop} {o o' orow : Obj} {vs : List Value} (m : (ra, o) ∈ X) (L' : LsO (vs ++ [.ref rw]) o') (hl : vs.length = rows.length)
    (hv : ∀ (i : Nat) v, vs[i]? = some v → ∃ Tr oT, v = .ref Tr ∧ (Tr, oT) ∈ X ∧ IntsO (rows.getD i []) oT ∧ Tr ≠ ra ∧ P Tr) (hr : (rw, orow) ∈ X) (ir : IntsO row orow) (hne : rw ≠ ra) (hP : ∀ a, P a → P' a) (hw : P' rw) : RowsL (Mine.upd X ra o') ra (rows ++ [row]) P' := by
  refine ⟨o', _, mem_upd_self m, L', by simp [hl], fun i v hi => ?_⟩
  rcases Nat.lt_or_ge i vs.length with q | q
  · rw [List.getElem?_append_left q] at hi
    obtain ⟨T, oT, e1, e2, e3, e4, e5⟩ := hv i v hi
    refine ⟨T, oT, e1, mem_upd_of_ne e2 e4, ?_, e4, hP _ e5⟩
    rw [List.getD_eq_getElem?_getD, List.getElem?_append_left (by omega), ← List.getD_eq_getElem?_getD]; exact e3
  · have hiv : i = vs.length := by
      rcases Nat.lt_or_ge i (vs.length + 1) with z | z
      · omega
      · rw [List.getElem?_eq_none (by simp; omega)] at hi; cases hi
    subst hiv
    have : v = .ref rw := by simpa using hi.symm
    subst this
    refine ⟨rw, orow, rfl, mem_upd_of_ne hr hne, ?_, hne, hw⟩
    rw [List.getD_eq_getElem?_getD, hl]; simpa using ir
def RowOk (many : Nat) (r : List Int) : Prop := r.Nodup ∧ (∀ c ∈ r, -c ∉ r) ∧ ∀ c ∈ r, c ≠ 0 ∧ c.natAbs ≤ many
theorem RowOk.add {many : Nat} {r : List Int} {w : Int} (h : RowOk many r) (h1 : w ∉ r) (h2 : -w ∉ r) (h3 : w ≠ 0) (h4 : w.natAbs ≤ many) : RowOk many (r ++ [w]) := by
  refine ⟨List.nodup_append.mpr ⟨h.1, by simp, fun a ha b hb e => ?_⟩, fun c hc hc2 => ?_, fun c hc => ?_⟩
  · rw [List.mem_singleton.mp hb] at e; exact h1 (e ▸ ha)
  · rcases List.mem_append.mp hc with z | z <;> rcases List.mem_append.mp hc2 with z2 | z2
    · exact h.2.1 c z z2
    · have := List.mem_singleton.mp z2
      exact h2 (by rw [← this, Int.neg_neg]; exact z)
    · rw [List.mem_singleton.mp z] at z2; exact h2 z2
    · have a := List.mem_singleton.mp z
      have b := List.mem_singleton.mp z2
      omega
  · rcases List.mem_append.mp hc with z | z
    · exact h.2.2 c z
    · rw [List.mem_singleton.mp z]; exact ⟨h3, h4⟩
structure RowsGood (many : Nat) (rows : List (List Int)) : Prop where
  len : rows.length ≤ 6
  row : ∀ r ∈ rows, r ≠ [] ∧ RowOk many r ∧ r.length ≤ 3
section
variable {κ : Kx} {F : Fix} {h H : Heap} {L : Addr} {l : List (Str × Value)} {N M X : Ledger} {adr : Role → Addr} {st : SS} {n : Nat}
theorem St.merge (S : St κ.w H L l N X h) : St κ.w H L l (N ++ X) [] h :=
  ⟨S.top, S.ns, S.keep, S.offL, fun p hp => (List.mem_append.mp hp).elim (S.n p) (S.x p), (fun p hp => nomatch hp), (fun p hp => nomatch hp)⟩
set_option maxHeartbeats 4000000 in
theorem clauses_spec (R : Room κ (n + 8)) (top : TopIn κ.w (hid h N)) (led : Led h N) {da la : Addr} {many : Nat} {tm : Tok} (D : DrawOk N da la) (hm : 2 ≤ many ∧ many ≤ 5) :
    C κ (.call (.ref 252) ⟨[.ref da, .int many tm], []⟩) (Out h N fun v N' => ∃ ND NR ra rows, N' = ND ++ NR ∧ v = .ref ra ∧ DrawOk ND da la ∧ RowsL NR ra rows (fun _ => True) ∧ Off NR ND ∧ RowsGood many rows) h := by
  refine C_def [("draw", .ref da), ("many", .int many tm)] _ (n := n + 7) R top led (by k_is) (by k_is) (fun s _ => BindsTo.of_eq rfl) (locs rfl) rfl (fun κ L h₁ ew S R => ?_)
  clear led
  rw [← ew] at top
  generalize hid h N = G at S top ⊢
  walk_at "w"
  refine ⟨by decide, fun ra h ca => ?_⟩
  replace S := S.new ca
  walk_at "w"
  refine CW_K (by k_is) ?_
  walk_at "w"
  refine ⟨S.kin, T_take (n := n + 2) (R.le (by omega)) S D (by decide) fun x tx N1 h x0 x6 D1 S1 => ?_⟩
  clear S D
  have S := S1
  clear S1
  walk_at "w"
  refine T_range1 fun r1 h t v c => ?_
  replace S := S.new c
  refine T_iter_range R (S.gx (.head _)) (by omega) (by omega) fun I h' it => ?_
  have hcnt : ((1 + x - 0).toNat : Int) = 1 + x := by omega
  refine ForAt.mk3 ["row", "j", "number"] S it (fun i m N' X' => DrawOk N' da la ∧ ∃ rows, RowsL X' ra rows (fun _ => True) ∧ rows.length ≤ i ∧ ∀ r ∈ rows, r ≠ [] ∧ RowOk many r ∧ r.length ≤ 3)
    ⟨D1, [], ⟨_, [], .tail _ (.head _), LsO.new [], rfl, fun i v h => by simp at h⟩, Nat.le_refl _, fun r h => nomatch h⟩ (fun i m N' X' _ p hp => nomatch hp) (fun i v l2 N2 X2 H2 h2 hk2 hi hP hI hl2 S2 => ?_) (fun l2 N2 X2 h2 hI hl2 S2 => ?_)
  · obtain ⟨D2, rows, hrl, hlen, hrows⟩ := hI
    obtain ⟨tk, rfl⟩ := hP
    have e0 : (0 + (i : Int)) = (i : Int) := by omega
    rw [e0] at S2
    clear S it
    have S := S2
    clear S2
    have hn1 : look l2 "draw" = some (.ref da) := (hl2 "draw" (by decide) (by decide)).trans rfl
    have hn2 : look l2 "many" = some (.int many tm) := (hl2 "many" (by decide) (by decide)).trans rfl
    have hn3 : look l2 "rows" = some (.ref ra) := (hl2 "rows" (by decide) (by decide)).trans rfl
    walk_at "w"
    refine ⟨by decide, fun rw_ h crw => ?_⟩
    have hfr : ∀ a o, (a, o) ∈ X2 → a ≠ rw_ := fun a o hm e => by have := S.gx hm; rw [e, crw.fresh] at this; cases this
    replace S := S.new crw
    have hne : ra ≠ rw_ := by obtain ⟨o, vs, m, _⟩ := hrl.has; exact hfr _ _ m
    have hrl : RowsL ((rw_, lso [] 0) :: X2) ra rows (fun a => a ≠ rw_) := hrl.more (fun p hp => .tail _ hp) fun a o hm _ => hfr a o hm
    walk_at "w"
    refine CW_K (by k_is) ?_
    walk_at "w"
    refine ⟨S.kin, T_take (n := n + 2) (R.le (by omega)) S D2 (by decide) fun x2 tx N3 h x20 x23 D3 S1 => ?_⟩
    clear S D2
    have S := S1
    clear S1
    walk_at "w"
    refine T_range1 fun r2 h t v c => ?_
    replace S := S.new c
    refine T_iter_range R (S.gx (.head _)) (by omega) (by omega) fun I h' it => ?_
    refine ForAt.mk3 ["number"] S it (fun i m N' X' => DrawOk N' da la ∧ ∃ row orow, (rw_, orow) ∈ X' ∧ IntsO row orow ∧ RowsL X' ra rows (fun a => a ≠ rw_) ∧ RowOk many row ∧ row.length ≤ i ∧ (0 < i → row ≠ []))
      ⟨D3, [], _, .tail _ (.head _), ⟨[], LsO.new [], .nil⟩, hrl.more (fun p hp => .tail _ hp) (fun a o _ (h : a ≠ rw_) => h), ⟨.nil, (fun c h => nomatch h), fun c h => nomatch h⟩, Nat.le_refl _, fun h => absurd h (Nat.lt_irrefl _)⟩ (fun i m N' X' _ p hp => nomatch hp) (fun j v l4 N4 X4 H4 h4 hk4 hj hP hI hl4 S4 => ?_) (fun l4 N4 X4 h4 hI hl4 S4 => ?_)
    · clear hrl D3
      obtain ⟨D3, row, orow, mw, iw, hrl, hok, hrlen, hr0⟩ := hI
      obtain ⟨tk, rfl⟩ := hP
      clear S it
      have S := S4
      clear S4
      obtain ⟨vw, Lw, iw⟩ := iw
      have hvw := iw.length
      have hn4 : look l4 "draw" = some (.ref da) := (hl4 "draw" (by decide) (by decide)).trans hn1
      have hn5 : look l4 "row" = some (.ref rw_) := (hl4 "row" (by decide) (by decide)).trans rfl
      have hn3 : look l4 "many" = some (.int many tm) := (hl4 "many" (by decide) (by decide)).trans hn2
      walk_at "w"
      refine CW_K (by k_is) ?_
      walk_at "w"
      refine ⟨S.kin, T_take (n := n + 2) (R.le (by omega)) S D3 (by omega) fun x3 tx3 N5 h x30 x33 D3 S1 => ?_⟩
      clear S
      have S := S1
      clear S1
      walk_at "w"
      refine T_notIn_ints (S.gx mw) ⟨_, Lw, iw⟩ ?_
      walk_at "w"
      refine ⟨fun hb => ?_, fun hb => ?_⟩
      · refine ⟨fun hb => (by cases hb), fun _ => ?_⟩
        have hb : 1 + x3 ∈ row := by simpa using hb
        walk_at "w"
        refine ⟨_, _, _, S, fun y h1 h2 => ?_, D3, row, orow, mw, ⟨_, Lw, iw⟩, hrl, hok, by omega, fun _ e => by rw [e] at hb; cases hb⟩
        have e1 : y ≠ "number" := fun e => h2 (by rw [e]; exact .head _)
        have h3 := hl4 y h1 h2
        simp only [look, if_neg h1, if_neg e1] at h3 ⊢; exact h3
      have hb1 : 1 + x3 ∉ row := by simpa using hb
      clear hb
      walk_at "w"
      refine T_notIn_ints (S.gx mw) ⟨_, Lw, iw⟩ ?_
      walk_at "w"
      refine ⟨fun hb => ?_, fun hb => ?_⟩
      rotate_left
      · have hb : -(1 + x3) ∈ row := by simpa using hb
        walk_at "w"
        refine ⟨_, _, _, S, fun y h1 h2 => ?_, D3, row, orow, mw, ⟨_, Lw, iw⟩, hrl, hok, by omega, fun _ e => by rw [e] at hb; cases hb⟩
        have e1 : y ≠ "number" := fun e => h2 (by rw [e]; exact .head _)
        have h3 := hl4 y h1 h2
        simp only [look, if_neg h1, if_neg e1] at h3 ⊢; exact h3
      have hb2 : -(1 + x3) ∉ row := by simpa using hb
      clear hb
      walk_at "w"
      refine T_m_append Lw (S.gx mw) ?_
      walk_at "w"
      refine CW_K (by k_is) ?_
      walk_at "w"
      refine ⟨S.kin, T_take (n := n + 2) (R.le (by omega)) S D3 (by decide) fun x4 tx4 N6 h x40 x43 D3 S1 => ?_⟩
      clear S
      have S := S1
      clear S1
      walk_at "w"
      refine ⟨fun hb => ?_, fun hb => ?_⟩
      · walk_at "w"
        refine T_append Lw (S.gx mw) (by have := iw.length; omega) (fun h o3 L3 c3 => ?_)
        replace S := S.updX mw c3
        walk_at "w"
        refine ⟨_, _, _, S, fun y h1 h2 => ?_, D3, row ++ [1 + x3], o3, mem_upd_self mw, ⟨_, L3, ints_app iw (.cons _ _ .nil)⟩, hrl.upd hne (fun a ha => ha), hok.add hb1 hb2 (by omega) (by omega), by simp; omega, fun _ => by simp⟩
        have e1 : y ≠ "number" := fun e => h2 (by rw [e]; exact .head _)
        have h3 := hl4 y h1 h2
        simp only [look, if_neg h1, if_neg e1] at h3 ⊢; exact h3
      · walk_at "w"
        refine T_append Lw (S.gx mw) (by have := iw.length; omega) (fun h o3 L3 c3 => ?_)
        replace S := S.updX mw c3
        walk_at "w"
        refine ⟨_, _, _, S, fun y h1 h2 => ?_, D3, row ++ [-(1 + x3)], o3, mem_upd_self mw, ⟨_, L3, ints_app iw (.cons _ _ .nil)⟩, hrl.upd hne (fun a ha => ha), hok.add hb2 (by rw [Int.neg_neg]; exact hb1) (by omega) (by omega), by simp; omega, fun _ => by simp⟩
        have e1 : y ≠ "number" := fun e => h2 (by rw [e]; exact .head _)
        have h3 := hl4 y h1 h2
        simp only [look, if_neg h1, if_neg e1] at h3 ⊢; exact h3
    · clear hrl D3
      obtain ⟨D3, row, orow, mw, iw, hrl, hok, hrlen, hr0⟩ := hI
      clear S it
      have S := S4
      clear S4
      have hne0 : row ≠ [] := hr0 (by omega)
      have hrlen : row.length ≤ 3 := by omega
      obtain ⟨vw, Lw, iw⟩ := iw
      have hvw := iw.length
      have hn4 : look l4 "row" = some (.ref rw_) := (hl4 "row" (by decide) (by decide)).trans rfl
      have hn5 : look l4 "rows" = some (.ref ra) := (hl4 "rows" (by decide) (by decide)).trans hn3
      have hn1 : look l4 "k" = some (.int i tk) := (hl4 "k" (by decide) (by decide)).trans rfl
      have hlk : ∀ y : Str, y ≠ "k" → y ∉ (["row", "j", "number"] : List Str) → look l4 y = look l2 y := fun y h1 h2 => by
        have e1 : y ≠ "row" := fun e => h2 (by rw [e]; exact .head _)
        have e2 : y ≠ "j" := fun e => h2 (by rw [e]; exact .tail _ (.head _))
        have e3 : y ≠ "number" := fun e => h2 (by rw [e]; exact .tail _ (.tail _ (.head _)))
        have h3 := hl4 y e2 (by simpa using e3)
        simp only [look, if_neg h1, if_neg e1] at h3 ⊢; exact h3
      obtain ⟨ora, vra, mra, Lra, hvl, hvv⟩ := hrl.has
      walk_at "w"
      refine T_len_list Lw (S.gx mw) (by omega) (fun t => ?_)
      walk_at "w"
      refine ⟨fun hb => ?_, fun hb => ?_⟩
      · refine ⟨fun _ => ?_, fun hb => (by cases hb)⟩
        walk_at "w"
        refine T_m_append Lra (S.gx mra) ?_
        walk_at "w"
        refine T_append Lra (S.gx mra) (by omega) (fun h o5 L5 c5 => ?_)
        replace S := S.updX mra c5
        walk_at "w"
        refine ⟨_, _, _, S, fun y h1 h2 => (hlk y h1 h2).trans (hl2 y h1 h2), D3, rows ++ [row], RowsL.push mra L5 hvl hvv mw ⟨_, Lw, iw⟩ (Ne.symm hne) (fun _ _ => trivial) trivial, by simp; omega, fun r hr => ?_⟩
        rcases List.mem_append.mp hr with z | z
        · exact hrows r z
        · rw [List.mem_singleton.mp z]; exact ⟨hne0, hok, hrlen⟩
      · walk_at "w"
        refine ⟨fun hb2 => ?_, fun hb2 => ?_⟩
        · walk_at "w"
          refine T_m_append Lra (S.gx mra) ?_
          walk_at "w"
          refine T_append Lra (S.gx mra) (by omega) (fun h o5 L5 c5 => ?_)
          replace S := S.updX mra c5
          walk_at "w"
          refine ⟨_, _, _, S, fun y h1 h2 => (hlk y h1 h2).trans (hl2 y h1 h2), D3, rows ++ [row], RowsL.push mra L5 hvl hvv mw ⟨_, Lw, iw⟩ (Ne.symm hne) (fun _ _ => trivial) trivial, by simp; omega, fun r hr => ?_⟩
          rcases List.mem_append.mp hr with z | z
          · exact hrows r z
          · rw [List.mem_singleton.mp z]; exact ⟨hne0, hok, hrlen⟩
        · walk_at "w"
          refine ⟨_, _, _, S, fun y h1 h2 => (hlk y h1 h2).trans (hl2 y h1 h2), D3, rows, hrl.more (fun p hp => hp) (fun _ _ _ _ => trivial), by omega, hrows⟩
  · obtain ⟨D2, rows, hrl, hlen, hrows⟩ := hI
    clear S it
    have S := S2
    clear S2
    have hn3 : look l2 "rows" = some (.ref ra) := (hl2 "rows" (by decide) (by decide)).trans rfl
    walk_at "w"
    exact ⟨_, _, _, S.merge, N2, X2, ra, rows, rfl, rfl, D2, hrl, S.off, by omega, hrows⟩
end
end Mine
end
section
open PySem PySem.W PySem.Calls PyProof.Rows
set_option Elab.async false
set_option maxRecDepth 100000
set_option linter.all false
namespace Mine

set_option hygiene false in
local macro_rules | `(tactic| walk_at "e") => `(tactic| ((with_reducible show T _ (eval _ _) _ _); first
  | ((with_reducible show T _ (eval (Expr.Name _ _) _) _ _); first
    | ((with_reducible show T _ (eval (Expr.Name "len" _) _) _ _); refine N_len S (by k_is) ?_)
    | ((with_reducible show T _ (eval (Expr.Name "abs" _) _) _ _); refine N_abs S (by k_is) ?_)
    | ((with_reducible show T _ (eval (Expr.Name "sorted" _) _) _ _); refine N_sorted S (by k_is) ?_)
    | ((with_reducible show T _ (eval (Expr.Name "list" _) _) _ _); refine N_list S (by k_is) ?_)
    | ((with_reducible show T _ (eval (Expr.Name "range" _) _) _ _); refine N_range S (by k_is) ?_)
    | ((with_reducible show T _ (eval (Expr.Name "set" _) _) _ _); refine N_set S (by k_is) ?_)
    | ((with_reducible show T _ (eval (Expr.Name "enumerate" _) _) _ _); refine N_enumerate S (by k_is) ?_)
    | refine T_loc S (by first | rfl | exact hn1 | exact hn2 | exact hn3 | exact hn4 | exact hn5) ?_
    | refine T_glob S (by k_is) ?_)
  | ((with_reducible show T _ (eval (Expr.Constant (Const.int _) _ _) _) _ _); refine T_int (fun t => ?_))
  | ((with_reducible show T _ (eval (Expr.Attribute _ _ _) _) _ _); refine T_attr ?_)
  | ((with_reducible show T _ (eval (Expr.Subscript _ _ _) _) _ _); refine T_item ?_)
  | ((with_reducible show T _ (eval (Expr.Call (Expr.Attribute _ _ _) _ [] _) _) _ _); refine T_Method ?_)
  | ((with_reducible show T _ (eval (Expr.Call _ _ [] _) _) _ _); refine T_Call ?_)
  | ((with_reducible show T _ (eval (Expr.BinOp _ _ _ _) _) _ _); refine T_binop ?_)
  | ((with_reducible show T _ (eval (Expr.UnaryOp _ _ _) _) _ _); refine T_unop ?_)
  | ((with_reducible show T _ (eval (Expr.Compare _ _ _ _) _) _ _); refine T_cmp ?_)
  | ((with_reducible show T _ (eval (Expr.Constant Const.none _ _) _) _ _); refine T_none ?_)
  | ((with_reducible show T _ (eval (Expr.Constant (Const.bool _) _ _) _) _ _); refine T_bool ?_)
  | ((with_reducible show T _ (eval (Expr.Constant (Const.str _) _ _) _) _ _); refine T_str (fun t => ?_))
  | ((with_reducible show T _ (eval (Expr.Dict [] [] _) _) _ _); refine T_dict0 (fun a h c => ?_))
  | ((with_reducible show T _ (eval (Expr.List _ _) _) _ _); refine T_list ?_)
  | ((with_reducible show T _ (eval (Expr.Tuple _ _ _) _) _ _); refine T_tuple ?_)
  | ((with_reducible show T _ (eval (Expr.BoolOp BoolOp.Or [_, _] _) _) _ _); refine T_or2 ?_)
  | ((with_reducible show T _ (eval (Expr.IfExp _ _ _ _) _) _ _); refine T_ifexp ?_)))
set_option hygiene false in
local macro_rules | `(tactic| walk_at "s") => `(tactic| first
  | ((with_reducible show T _ (execs (_ :: _) _) _ _); refine T_seq ?_)
  | ((with_reducible show T _ (execs [] _) _ _); refine T_nil ?_)
  | ((with_reducible show T _ (exec _ _) _ _); first
    | ((with_reducible show T _ (exec (Stmt.Assign [Expr.Name _ _] _ _) _) _ _); refine T_assign ?_)
    | ((with_reducible show T _ (exec (Stmt.If _ _ _ _) _) _ _); refine T_if ?_)
    | ((with_reducible show T _ (exec (Stmt.Return (some _) _) _) _ _); refine T_return ?_)
    | ((with_reducible show T _ (exec (Stmt.Return none _) _) _ _); refine T_return0 ?_)
    | ((with_reducible show T _ (exec (Stmt.Expr _ _) _) _ _); refine T_expr' ?_)
    | ((with_reducible show T _ (exec (Stmt.Assign [Expr.Attribute _ _ _] _ _) _) _ _); refine T_setattr_stmt ?_)
    | ((with_reducible show T _ (exec (Stmt.Assign [Expr.Subscript _ _ _] _ _) _) _ _); refine T_setitem_stmt ?_)
    | ((with_reducible show T _ (exec (Stmt.For (Expr.Name _ _) _ _ [] _) _) _ _); refine T_for ?_)
    | ((with_reducible show T _ (exec (Stmt.AugAssign (Expr.Name _ _) _ _ _) _) _ _); refine T_aug_name ?_)
    | ((with_reducible show T _ (exec (Stmt.AugAssign (Expr.Subscript _ _ _) _ _ _) _) _ _); refine T_aug_item ?_)
    | ((with_reducible show T _ (exec (Stmt.Pass _) _) _ _); refine T_pass ?_)
    | ((with_reducible show T _ (exec (Stmt.Break _) _) _ _); refine T_break ?_)
    | ((with_reducible show T _ (exec (Stmt.Continue _) _) _ _); refine T_continue ?_))
  | ((with_reducible show T _ (storeName _ _ _) _ _); refine T_store S (fun h S => ?_))
  | ((with_reducible show T _ (isTrue _ _ _) _ _); first
    | ((with_reducible show T _ (isTrue (Expr.Compare _ _ _ _) _ _) _ _); refine T_isTrue_cmp ?_)
    | ((with_reducible show T _ (isTrue (Expr.UnaryOp UnaryOp.Not _ _) _ _) _ _); refine T_isTrue_not ?_)
    | ((with_reducible show T _ (isTrue (Expr.BoolOp BoolOp.Or [_, _] _) _ _) _ _); refine T_isTrue_or2 ?_)
    | ((with_reducible show T _ (isTrue (Expr.BoolOp BoolOp.And [_, _] _) _ _) _ _); refine T_isTrue_and2 ?_)
    | ((with_reducible show T _ (isTrue (Expr.BoolOp BoolOp.And [_, _, _] _) _ _) _ _); refine T_isTrue_and3 ?_)
    | (refine T_isTrue_val ?_))
  | ((with_reducible show T _ (truthy (Value.bool _)) _ _); refine T_truthy_bool ?_)
  | ((with_reducible show T _ (truthy (Value.int _ _)) _ _); refine T_truthy_int ?_)
  | ((with_reducible show T _ (truthy Value.none) _ _); refine T_truthy_none ?_)
  | ((with_reducible show T _ (PySem.call (Value.builtin "abs") ([] ++ [Value.int _ _])) _ _); refine T_abs (fun t => ?_))
  | ((with_reducible show Args _ _ (_ :: _) _ _); refine Args_cons ?_)
  | ((with_reducible show Args _ _ [] _ _); refine Args_nil ?_)
  | ((with_reducible show T _ (callWith _ (Value.builtin _) _ _ _) _ _); refine CW_bi ?_)
  | ((with_reducible show T _ (callWith _ (Value.type _) _ _ _) _ _); refine CW_ty ?_)
  | ((with_reducible show T _ (binaryOp Operator.Add (Value.int _ _) (Value.int _ _)) _ _); refine T_add (fun t => ?_))
  | ((with_reducible show T _ (binaryOp Operator.Sub (Value.int _ _) (Value.int _ _)) _ _); refine T_sub (fun t => ?_))
  | ((with_reducible show T _ (unaryOp UnaryOp.USub (Value.int _ _)) _ _); refine T_neg (fun t => ?_))
  | ((with_reducible show T _ (compareOp CmpOp.Eq (Value.int _ _) (Value.int _ _)) _ _); refine T_eq ?_)
  | ((with_reducible show T _ (compareOp CmpOp.NotEq (Value.int _ _) (Value.int _ _)) _ _); refine T_ne ?_)
  | ((with_reducible show T _ (compareOp CmpOp.Lt (Value.int _ _) (Value.int _ _)) _ _); refine T_lt ?_)
  | ((with_reducible show T _ (compareOp CmpOp.Gt (Value.int _ _) (Value.int _ _)) _ _); refine T_gt ?_)
  | ((with_reducible show T _ (compareOp CmpOp.Is _ Value.none) _ _); refine T_is_none ?_)
  | ((with_reducible show T _ (compareOp CmpOp.IsNot _ Value.none) _ _); refine T_isnot_none ?_)
  | walk_at "e")
set_option hygiene false in
local macro_rules | `(tactic| walk_at "w") => `(tactic| repeat (walk_at "s"))
theorem fill_fragI1 : (PySem.Challenge.rw_at6042_01, Mine.hd.heap_39) = (PySem.Challenge.rw_at6042_01, Mine.hd.heap_39) := by k_fill; rfl
section
variable {κ : Kx}
theorem A_occ : AttrOk (hd.heap_39 κ.w.params) 207 "occurrence_count" := ⟨by k_is, by k_is, ⟨none, by k_is, by k_is⟩, by k_is, by k_is, by k_is⟩
theorem K_iv : MethOk (hd.heap_39 κ.w.params) 207 "_initialize_variables" 83 := ⟨by k_is, by k_is, by k_is⟩
theorem K_ic : MethOk (hd.heap_39 κ.w.params) 207 "_initialize_clauses" 88 := ⟨by k_is, by k_is, by k_is⟩
theorem K_vi : MethOk (hd.heap_39 κ.w.params) 207 "_vsids_init" 157 := ⟨by k_is, by k_is, by k_is⟩
end
/-- the words in the order of the solver -/
def litsOf (many : Nat) : List Int := (List.range (many * 2)).map fun i => if i % 2 = 0 then ((i / 2 : Nat) : Int) + 1 else -(((i / 2 : Nat) : Int) + 1)
theorem mem_litsOf {many : Nat} {l : Int} : l ∈ litsOf many ↔ l ≠ 0 ∧ l.natAbs ≤ many := by
  unfold litsOf
  rw [List.mem_map]
  constructor
  · rintro ⟨i, hi, rfl⟩
    have := List.mem_range.mp hi
    split <;> omega
  · rintro ⟨h1, h2⟩
    by_cases q : 0 < l
    · refine ⟨2 * (l.natAbs - 1), List.mem_range.mpr (by omega), ?_⟩
      rw [if_pos (by omega)]; omega
    · refine ⟨2 * (l.natAbs - 1) + 1, List.mem_range.mpr (by omega), ?_⟩
      rw [if_neg (by omega)]; omega
theorem litsOf_nodup (many : Nat) : (litsOf many).Nodup := by
  unfold litsOf
  rw [List.nodup_iff_pairwise_ne, List.pairwise_map]
  refine List.Pairwise.imp ?_ (List.nodup_iff_pairwise_ne.mp List.nodup_range)
  intro a b hab e
  split at e <;> split at e <;> omega
section
variable {κ : Kx} {F : Fix} {h H : Heap} {L : Addr} {l : List (Str × Value)} {N M X : Ledger} {adr : Role → Addr} {st : SS} {n : Nat}
theorem St.nodupN {a : Addr} {o : Obj} {h' : Heap} (S : St κ.w H L l N X h) (nd : (N.map (·.1)).Nodup) (c : Nw h a o h') : (((a, o) :: N).map (·.1)).Nodup := by
  rw [List.map_cons, List.nodup_cons]
  refine ⟨fun hm => ?_, nd⟩
  obtain ⟨p, hp, e⟩ := List.mem_map.mp hm
  have := S.gn hp
  have e : p.1 = a := e
  rw [e, c.fresh] at this; cases this
theorem nodup_merge {N' : Ledger} (S : St κ.w H L l N X h) (nd : (N.map (·.1)).Nodup) (nd' : (N'.map (·.1)).Nodup) (ni : NewIn h [] N') : ((N' ++ N).map (·.1)).Nodup := by
  rw [List.map_append]
  refine List.nodup_append.mpr ⟨nd', nd, fun a ha b hb e => ?_⟩
  obtain ⟨p, hp, rfl⟩ := List.mem_map.mp ha
  obtain ⟨q, hq, rfl⟩ := List.mem_map.mp hb
  have h1 := (ni p hp).resolve_left (by simp)
  have h2 := S.gn hq
  rw [← e, h1] at h2; cases h2
/-- a ledger that has grown by the objects at A; that at dx may be another -/
structure Grow (N N3 : Ledger) (dx : Addr) (A : List Addr) : Prop where
  old : ∀ p ∈ N, p.1 ≠ dx → p ∈ N3
  map : N3.map (·.1) = A ++ N.map (·.1)
  nd : (N3.map (·.1)).Nodup
theorem Grow.refl {N : Ledger} {dx : Addr} (nd : (N.map (·.1)).Nodup) : Grow N N dx [] := ⟨fun p hp _ => hp, rfl, nd⟩
theorem Grow.ne {N N3 : Ledger} {dx a : Addr} {A : List Addr} (G : Grow N N3 dx A) (hd : dx ∈ N.map (·.1)) (ha : a ∈ A) : a ≠ dx := by
  have := G.nd
  rw [G.map] at this
  exact (List.nodup_append.mp this).2.2 a ha dx hd
theorem Grow.upd {N N3 : Ledger} {dx : Addr} {A : List Addr} {o : Obj} (G : Grow N N3 dx A) : Grow N (Mine.upd N3 dx o) dx A :=
  ⟨fun p hp hne => mem_upd_of_ne (G.old p hp hne) hne, by rw [upd_fst]; exact G.map, by rw [upd_fst]; exact G.nd⟩
theorem Grow.new {N N3 : Ledger} {dx a : Addr} {A : List Addr} {o : Obj} {h' : Heap} (G : Grow N N3 dx A) (S : St κ.w H L l N3 X h) (c : Nw h a o h') : Grow N ((a, o) :: N3) dx (a :: A) :=
  ⟨fun p hp hne => .tail _ (G.old p hp hne), by rw [List.map_cons, G.map]; rfl, S.nodupN G.nd c⟩
/-- a name of the object at x, its dict at dx, stored -/
theorem T_put {x dx : Addr} {N3 : Ledger} {A : List Addr} {od : Obj} {f : Str → Option Value} {m : Nat} {name : Str} {v : Value} {Cc : Addr} {Q : Unit → Heap → Prop} (S : St κ.w H L l N3 X h) (G : Grow N N3 dx A) (ok : AttrOk (hd.heap_39 κ.w.params) Cc name) (hx : (x, instObj Cc dx) ∈ N3) (hd : (dx, od) ∈ N3) (hne : x ≠ dx) (D : DictA f m od) (hm : m ≤ 90)
    (q : ∀ h' od', St κ.w H L l (Mine.upd N3 dx od') X h' → Grow N (Mine.upd N3 dx od') dx A → (x, instObj Cc dx) ∈ Mine.upd N3 dx od' → (dx, od') ∈ Mine.upd N3 dx od' → DictA (fun y => if y = name then some v else f y) (m + 1) od' → (∀ p ∈ N3, p.1 ≠ dx → p ∈ Mine.upd N3 dx od') → Q () h') :
    T κ (setAttr (.ref x) name v) Q h :=
  T_setAttr S.kin ok (S.gn hx) D (S.gn hd) (by omega) fun h' od' D' c =>
    q h' od' (S.updN hd c) G.upd (mem_upd_of_ne hx hne) (mem_upd_self hd) (D'.le (by split <;> omega)) fun p hp hne => mem_upd_of_ne hp hne
theorem lits_ints {many : Nat} {ys : List Value} (hl : ys.length = many * 2) (hy : ∀ i j, i < many → j < 2 → ∃ y, ys[i * 2 + j]? = some y ∧ ∃ t, y = .int ((if j = 0 then 1 else -1) * (1 + (i : Int))) t) : IntsAre ys (litsOf many) := by
  have := ints_of_fun (k := 0) (vs := ys) (f := fun i => if i % 2 = 0 then ((i / 2 : Nat) : Int) + 1 else -(((i / 2 : Nat) : Int) + 1)) fun j v hv => by
    have hj : j < many * 2 := by
      rcases Nat.lt_or_ge j (many * 2) with q | q
      · exact q
      · rw [List.getElem?_eq_none (by omega)] at hv; cases hv
    obtain ⟨y, h1, t, h2⟩ := hy (j / 2) (j % 2) (by omega) (by omega)
    rw [show j / 2 * 2 + j % 2 = j by omega, hv] at h1
    cases h1
    refine ⟨t, ?_⟩
    rw [h2]
    congr 1
    rw [Nat.zero_add]
    by_cases q : j % 2 = 0
    · rw [if_pos q, if_pos q]; omega
    · rw [if_neg q, if_neg q]; omega
  rw [hl] at this
  unfold litsOf
  rw [List.range_eq_range']
  exact this
set_option maxHeartbeats 4000000 in
theorem initvars_spec (R : Room κ (n + 6)) (top : TopIn κ.w (hid h N)) (led : Led h N) {x dx rg : Addr} {od : Obj} {f : Str → Option Value} {m many : Nat} {t u v : Tok} (hx : (x, instObj 207 dx) ∈ N) (hd : (dx, od) ∈ N) (hne : x ≠ dx) (D : DictA f m od) (hm : m ≤ 50)
    (er : (hid h N).get? rg = some (rangeO 1 ((many : Int) + 1) t u v)) (hmany : 1 ≤ many ∧ many ≤ 20) (nd : (N.map (·.1)).Nodup) :
    C κ (.call (.ref 83) ⟨[.ref x, .ref rg], []⟩) (Out h N fun v N' => v = .none ∧ ∃ od' sd oc va osd ooc ova fs fo, ∃ sa : Int → Addr,
      (∀ p ∈ N, p.1 ≠ dx → p ∈ N') ∧ (dx, od') ∈ N' ∧ DictA (fun y => if y = "variable_set" then some (.ref va) else if y = "occurrence_count" then some (.ref oc) else if y = "sentinels" then some (.ref sd) else f y) (m + 3) od' ∧
      (sd, osd) ∈ N' ∧ IntD fs 40 osd ∧ (oc, ooc) ∈ N' ∧ IntD fo 40 ooc ∧ (va, ova) ∈ N' ∧ LsO (List.replicate (many + 1) (.bool false)) ova ∧
      (∀ l ∈ litsOf many, ∃ t, fo l = some (.int 0 t)) ∧ (∀ l ∈ litsOf many, fs l = some (.ref (sa l)) ∧ ∃ o, (sa l, o) ∈ N' ∧ SetO κ.w [] o) ∧
      N'.map (·.1) = va :: oc :: sd :: (((litsOf many).map sa).reverse ++ N.map (·.1)) ∧ (N'.map (·.1)).Nodup) h := by
  refine C_def [("self", .ref x), ("variables", .ref rg)] _ (n := n + 5) R top led (by k_is) (by k_is) (fun s _ => BindsTo.of_eq rfl) (locs rfl) rfl (fun κ L h₁ ew S R => ?_)
  clear led
  rw [← ew] at top
  generalize hid h N = G at S top er ⊢
  walk_at "w"
  refine T_assign_comp (NewEnv.plain (by decide) rfl) (LCore_lcomp2 R 2 (by decide) (fun j w => ∃ t, w = .int (if j = 0 then 1 else -1) t) ?_ rfl (by intro _ _; rfl) rfl rfl (by decide))
  walk_at "w"
  refine T_len_range (S.base er) (by omega) (by omega) (fun t => ?_)
  rw [show ((many : Int) + 1 - 1).toNat = many by omega]
  walk_at "w"
  refine T_range2 fun r h v c => ?_
  have S1 := S.new c
  refine T_iter_range R (S1.gx (.head _)) (by omega) (by omega) fun I h' it => ?_
  have hcnt : ((many : Int) + 1 - 1).toNat = many := by omega
  refine ⟨I, [], _, _, h, fun i j y => ∃ t, y = .int ((if j = 0 then 1 else -1) * (1 + (i : Int))) t, rfl, by omega, it, (fun p hp => nomatch hp), S1.topH, fun C l2 X2 H2 h2 hk2 S2 => ?_, fun C i j v w l2 X2 H2 h2 hk2 hP hE hv hw S2 => ?_, fun ys D_ o h2 hlen hget hL c2 => ?_⟩
  · clear S S1
    have S := S2
    walk_at "w"
    refine ⟨by show 2 ≤ sizeLine; decide, fun b h c => ⟨b, _, rfl, rfl, fun j w hw => ?_, c⟩⟩
    match j, hw with
    | 0, hw => exact ⟨_, (Option.some.inj hw).symm⟩
    | 1, hw => exact ⟨_, (Option.some.inj hw).symm⟩
    | j + 2, hw => simp at hw
  · obtain ⟨t1, rfl⟩ := hP
    obtain ⟨t2, rfl⟩ := hE
    clear S S1
    have S := S2
    have hn1 := hv
    have hn2 := hw
    walk_at "w"
    exact T_mul (IntMulOk.of_left (by split <;> decide)) (fun t => ⟨rfl, t, rfl⟩)
  rw [hcnt] at hlen hget
  have hli := lits_ints hlen hget
  replace S := S1.new c2
  clear S1 hget
  have hll : (litsOf many).length = many * 2 := by simp [litsOf]
  refine ⟨_, _, _, _, S, fun h3 S4 => ?_⟩
  clear S
  have S := S4
  clear S4
  walk_at "w"
  refine T_dcomp (F := fun cl' X0 => cl' = [] ∧ X0 = []) (by rfl) rfl (by decide) (by intro _; rfl) (NewEnv.plain (by decide) rfl) ?_
  walk_at "w"
  have hyl : ys.length = (litsOf many).length := by rw [hlen, hll]
  refine T_iter_list R hL (S.gx (.head _)) fun I h' it => ?_
  refine ⟨I, [I], [(D_, o)], _, _, h3, [], fun cl' i f N' X' => cl' = [] ∧ ∃ sa : Int → Addr, (∀ l ∈ (litsOf many).take i, f l = some (.ref (sa l)) ∧ ∃ o, (sa l, o) ∈ N' ∧ SetO κ.w [] o) ∧ N'.map (·.1) = (((litsOf many).take i).map sa).reverse ∧ (N'.map (·.1)).Nodup,
    rfl, by omega, it.two "lit" _, (fun p hp => nomatch hp), S.topH.keep (keep_hid0 _), fun cl' X0 hF => ⟨hF.1, fun _ => 0, (fun l h => nomatch h), rfl, .nil⟩, fun cl' i ys N' X' hI p hp => .inr (by rw [List.mem_singleton.mp hp]; exact keep_hid0 _ _ _ (S.gx (.head _))), ?_, ?_⟩
  · rintro C cl' i v f2 l2 N2 X2 H2 h4 h5 hk2 hi hP ⟨rfl, sa, hsa, hmap, hnd⟩ S2
    obtain ⟨w, tw, hw, rfl⟩ := ints_of_at hli hP
    have htk := take_succ_of hw
    have hnw := nodup_take (litsOf_nodup many) hw
    clear S it
    refine T_assign_name (T_store S2 (fun h S => ?_))
    refine T_tests_nil ?_
    rw [if_pos rfl]
    walk_at "w"
    refine T_set_new (fun s2 h os Ds c => ?_)
    have hnd' := S.nodupN hnd c
    replace S := S.newN c
    refine ⟨w, tw, _, _, _, rfl, S, rfl, fun l => if l = w then s2 else sa l, fun l hl => ?_, ?_, hnd'⟩
    · rw [htk] at hl
      rcases List.mem_append.mp hl with z | z
      · have hlw : l ≠ w := fun e => hnw (e ▸ z)
        obtain ⟨e1, o2, e2, e3⟩ := hsa l z
        dsimp only
        rw [if_neg hlw, if_neg hlw]
        exact ⟨e1, o2, .tail _ e2, e3⟩
      · rw [List.mem_singleton.mp z]
        dsimp only
        rw [if_pos rfl, if_pos rfl]
        exact ⟨rfl, os, .head _, Ds⟩
    · rw [htk, List.map_append, List.reverse_append, List.map_cons, hmap]
      have : ((litsOf many).take i).map (fun l => if l = w then s2 else sa l) = ((litsOf many).take i).map sa := List.map_congr_left fun l hl => if_neg (by rintro rfl; exact hnw hl)
      rw [this]; simp
  rintro cl' f2 N2 X2 sd osd h4 ⟨rfl, sa, hsa, hmap, hnd⟩ hD led2 hfr hND hkb hni
  rw [hyl, List.take_length] at hsa hmap
  rw [hyl, hll] at hD
  have hD := hD.le (show many * 2 ≤ 40 by omega)
  have hnd2 : (((sd, osd) :: N2).map (·.1)).Nodup := by
    rw [List.map_cons, List.nodup_cons]
    refine ⟨fun hm => ?_, hnd⟩
    obtain ⟨p, hp, e⟩ := List.mem_map.mp hm
    exact hND p hp e
  have nd1 := nodup_merge S nd hnd2 hni
  have S5 := (S.swap.outRo led2 hkb hni).swap
  clear S it
  have S := S5
  clear S5 led2 hkb hni
  have hx1 : (x, instObj 207 dx) ∈ (sd, osd) :: N2 ++ N := List.mem_append_right _ hx
  have hd1 : (dx, od) ∈ (sd, osd) :: N2 ++ N := List.mem_append_right _ hd
  have hsd1 : (sd, osd) ∈ (sd, osd) :: N2 ++ N := .head _
  have G1 : Grow N ((sd, osd) :: N2 ++ N) dx (sd :: ((litsOf many).map sa).reverse) := ⟨fun p hp _ => List.mem_append_right _ hp, by rw [List.cons_append, List.map_cons, List.map_append, hmap]; rfl, nd1⟩
  have hsa1 : ∀ l ∈ litsOf many, f2 l = some (.ref (sa l)) ∧ ∃ o, (sa l, o) ∈ (sd, osd) :: N2 ++ N ∧ SetO κ.w [] o := fun l hl => let ⟨a, o, b, c⟩ := hsa l hl; ⟨a, o, List.mem_append_left _ (.tail _ b), c⟩
  generalize (sd, osd) :: N2 ++ N = N3 at S hx1 hd1 hsd1 hsa1 G1
  clear hsa hnd hnd2 hmap hND hfr nd1
  have hdm : dx ∈ N.map (·.1) := List.mem_map_of_mem (f := (·.1)) hd
  have hsal : ∀ l ∈ litsOf many, sa l ∈ sd :: ((litsOf many).map sa).reverse := fun l hl => .tail _ (List.mem_reverse.mpr (List.mem_map_of_mem hl))
  have hsan : ∀ l ∈ litsOf many, sa l ≠ dx := fun l hl => G1.ne hdm (hsal l hl)
  have hsdn : sd ≠ dx := G1.ne hdm (.head _)
  walk_at "w"
  refine T_put S G1 A_sd hx1 hd1 hne D (by omega) fun h od1 S5 G2 hx2 hd2 D2 k2 => ?_
  clear S
  have S := S5
  clear S5
  replace hsd1 := k2 _ hsd1 hsdn
  replace hsa1 : ∀ l ∈ litsOf many, f2 l = some (.ref (sa l)) ∧ ∃ o, (sa l, o) ∈ Mine.upd N3 dx od1 ∧ SetO κ.w [] o := fun l hl => let ⟨a, o, b, c⟩ := hsa1 l hl; ⟨a, o, k2 _ b (hsan l hl), c⟩
  generalize Mine.upd N3 dx od1 = N4 at S G2 hx2 hd2 hsd1 hsa1 k2
  clear k2 hx1 hd1 G1 N3
  walk_at "w"
  refine T_dcomp (F := fun cl' X0 => cl' = [] ∧ X0 = []) (by rfl) rfl (by decide) (by intro _; rfl) (NewEnv.plain (by decide) rfl) ?_
  walk_at "w"
  refine T_iter_list R hL (S.gx (.head _)) fun I h' it => ?_
  refine ⟨I, [I], [(D_, o)], _, _, h, [], fun cl' i f N' X' => cl' = [] ∧ N' = [] ∧ ∀ l ∈ (litsOf many).take i, ∃ t, f l = some (.int 0 t),
    rfl, by omega, it.two "lit" _, (fun p hp => nomatch hp), S.topH.keep (keep_hid0 _), fun cl' X0 hF => ⟨hF.1, rfl, fun l h => nomatch h⟩, fun cl' i ys N' X' hI p hp => .inr (by rw [List.mem_singleton.mp hp]; exact keep_hid0 _ _ _ (S.gx (.head _))), ?_, ?_⟩
  · rintro C cl' i v f3 l2 N5 X2 H2 h4 h5 hk2 hi hP ⟨rfl, rfl, hf3⟩ S2
    obtain ⟨w, tw, hw, rfl⟩ := ints_of_at hli hP
    have htk := take_succ_of hw
    clear S it
    refine T_assign_name (T_store S2 (fun h S => ?_))
    refine T_tests_nil ?_
    rw [if_pos rfl]
    walk_at "w"
    refine ⟨w, tw, _, _, _, rfl, S, rfl, rfl, fun l hl => ?_⟩
    dsimp only
    by_cases q : l = w
    · rw [if_pos q]; exact ⟨_, rfl⟩
    · rw [if_neg q]
      rw [htk] at hl
      exact hf3 l ((List.mem_append.mp hl).resolve_right (by simpa using q))
  rintro cl' fo N5 X2 oc ooc h4 ⟨rfl, rfl, hfo⟩ hDo led2 hfr hND hkb hni
  rw [hyl, List.take_length] at hfo
  rw [hyl, hll] at hDo
  have hDo := hDo.le (show many * 2 ≤ 40 by omega)
  have cc : Nw h oc ooc h4 := ⟨hfr, led2 _ (.head _), fun b o e => hkb b o e (by simp)⟩
  have G3 := G2.new S cc
  replace S := S.newN cc
  replace hx2 : (x, instObj 207 dx) ∈ (oc, ooc) :: N4 := .tail _ hx2
  replace hd2 : (dx, od1) ∈ (oc, ooc) :: N4 := .tail _ hd2
  replace hsd1 : (sd, osd) ∈ (oc, ooc) :: N4 := .tail _ hsd1
  replace hsa1 : ∀ l ∈ litsOf many, f2 l = some (.ref (sa l)) ∧ ∃ o, (sa l, o) ∈ (oc, ooc) :: N4 ∧ SetO κ.w [] o := fun l hl => let ⟨a, o, b, c⟩ := hsa1 l hl; ⟨a, o, .tail _ b, c⟩
  have hoc : (oc, ooc) ∈ (oc, ooc) :: N4 := .head _
  generalize (oc, ooc) :: N4 = N6 at S G3 hx2 hd2 hsd1 hsa1 hoc
  clear it led2 hkb hni hND cc hfr G2
  have hocn : oc ≠ dx := G3.ne hdm (.head _)
  walk_at "w"
  refine T_put S G3 A_occ hx2 hd2 hne D2 (by omega) fun h od2 S5 G4 hx3 hd3 D3 k3 => ?_
  clear S
  have S := S5
  clear S5
  replace hsd1 := k3 _ hsd1 hsdn
  replace hoc := k3 _ hoc hocn
  replace hsa1 : ∀ l ∈ litsOf many, f2 l = some (.ref (sa l)) ∧ ∃ o, (sa l, o) ∈ Mine.upd N6 dx od2 ∧ SetO κ.w [] o := fun l hl => let ⟨a, o, b, c⟩ := hsa1 l hl; ⟨a, o, k3 _ b (hsan l hl), c⟩
  generalize Mine.upd N6 dx od2 = N7 at S G4 hx3 hd3 hsd1 hsa1 hoc k3
  clear k3 hx2 hd2 G3 N6
  walk_at "w"
  refine ⟨by decide, fun la h cla => ?_⟩
  replace S := S.new cla
  walk_at "w"
  refine T_len_range (S.base er) (by omega) (by omega) (fun t => ?_)
  rw [show ((many : Int) + 1 - 1).toNat = many by omega]
  walk_at "w"
  refine T_mul_list1 (S.gx (.head _)) (LsO.new _) (by omega) fun va h ova Lva cva => ?_
  rw [show ((many : Int) + 1).toNat = many + 1 by omega] at Lva
  have G5 := G4.new S cva
  replace S := S.newN cva
  replace hx3 : (x, instObj 207 dx) ∈ (va, ova) :: N7 := .tail _ hx3
  replace hd3 : (dx, od2) ∈ (va, ova) :: N7 := .tail _ hd3
  replace hsd1 : (sd, osd) ∈ (va, ova) :: N7 := .tail _ hsd1
  replace hoc : (oc, ooc) ∈ (va, ova) :: N7 := .tail _ hoc
  replace hsa1 : ∀ l ∈ litsOf many, f2 l = some (.ref (sa l)) ∧ ∃ o, (sa l, o) ∈ (va, ova) :: N7 ∧ SetO κ.w [] o := fun l hl => let ⟨a, o, b, c⟩ := hsa1 l hl; ⟨a, o, .tail _ b, c⟩
  have hva : (va, ova) ∈ (va, ova) :: N7 := .head _
  generalize (va, ova) :: N7 = N8 at S G5 hx3 hd3 hsd1 hsa1 hoc hva
  clear G4
  have hvan : va ≠ dx := G5.ne hdm (.head _)
  walk_at "w"
  refine T_put S G5 A_vset hx3 hd3 hne D3 (by omega) fun h od3 S5 G6 hx4 hd4 D4 k4 => ?_
  clear S
  have S := S5
  clear S5
  walk_at "w"
  refine ⟨_, _, _, S, rfl, od3, sd, oc, va, osd, ooc, ova, f2, fo, sa, G6.old, hd4, D4, k4 _ hsd1 hsdn, hD, k4 _ hoc hocn, hDo, k4 _ hva hvan, Lva, hfo, fun l hl => ?_, G6.map, G6.nd⟩
  obtain ⟨a, o, b, c⟩ := hsa1 l hl
  exact ⟨a, o, k4 _ b (hsan l hl), ew ▸ c⟩
end
end Mine
end
section
open PySem PySem.W PySem.Calls PyProof.Rows
set_option Elab.async false
set_option maxRecDepth 100000
set_option linter.all false
namespace Mine

set_option hygiene false in
local macro_rules | `(tactic| walk_at "e") => `(tactic| ((with_reducible show T _ (eval _ _) _ _); first
  | ((with_reducible show T _ (eval (Expr.Name _ _) _) _ _); first
    | ((with_reducible show T _ (eval (Expr.Name "len" _) _) _ _); refine N_len S (by k_is) ?_)
    | ((with_reducible show T _ (eval (Expr.Name "abs" _) _) _ _); refine N_abs S (by k_is) ?_)
    | ((with_reducible show T _ (eval (Expr.Name "sorted" _) _) _ _); refine N_sorted S (by k_is) ?_)
    | ((with_reducible show T _ (eval (Expr.Name "list" _) _) _ _); refine N_list S (by k_is) ?_)
    | ((with_reducible show T _ (eval (Expr.Name "range" _) _) _ _); refine N_range S (by k_is) ?_)
    | ((with_reducible show T _ (eval (Expr.Name "set" _) _) _ _); refine N_set S (by k_is) ?_)
    | ((with_reducible show T _ (eval (Expr.Name "enumerate" _) _) _ _); refine N_enumerate S (by k_is) ?_)
    | refine T_loc S (by first | rfl | exact hn1 | exact hn2 | exact hn3 | exact hn4 | exact hn5) ?_
    | refine T_glob S (by k_is) ?_)
  | ((with_reducible show T _ (eval (Expr.Constant (Const.int _) _ _) _) _ _); refine T_int (fun t => ?_))
  | ((with_reducible show T _ (eval (Expr.Attribute _ _ _) _) _ _); refine T_attr ?_)
  | ((with_reducible show T _ (eval (Expr.Subscript _ _ _) _) _ _); refine T_item ?_)
  | ((with_reducible show T _ (eval (Expr.Call (Expr.Attribute _ _ _) _ [] _) _) _ _); refine T_Method ?_)
  | ((with_reducible show T _ (eval (Expr.Call _ _ [] _) _) _ _); refine T_Call ?_)
  | ((with_reducible show T _ (eval (Expr.BinOp _ _ _ _) _) _ _); refine T_binop ?_)
  | ((with_reducible show T _ (eval (Expr.UnaryOp _ _ _) _) _ _); refine T_unop ?_)
  | ((with_reducible show T _ (eval (Expr.Compare _ _ _ _) _) _ _); refine T_cmp ?_)
  | ((with_reducible show T _ (eval (Expr.Constant Const.none _ _) _) _ _); refine T_none ?_)
  | ((with_reducible show T _ (eval (Expr.Constant (Const.bool _) _ _) _) _ _); refine T_bool ?_)
  | ((with_reducible show T _ (eval (Expr.Constant (Const.str _) _ _) _) _ _); refine T_str (fun t => ?_))
  | ((with_reducible show T _ (eval (Expr.Dict [] [] _) _) _ _); refine T_dict0 (fun a h c => ?_))
  | ((with_reducible show T _ (eval (Expr.List _ _) _) _ _); refine T_list ?_)
  | ((with_reducible show T _ (eval (Expr.Tuple _ _ _) _) _ _); refine T_tuple ?_)
  | ((with_reducible show T _ (eval (Expr.BoolOp BoolOp.Or [_, _] _) _) _ _); refine T_or2 ?_)
  | ((with_reducible show T _ (eval (Expr.IfExp _ _ _ _) _) _ _); refine T_ifexp ?_)))
set_option hygiene false in
local macro_rules | `(tactic| walk_at "s") => `(tactic| first
  | ((with_reducible show T _ (execs (_ :: _) _) _ _); refine T_seq ?_)
  | ((with_reducible show T _ (execs [] _) _ _); refine T_nil ?_)
  | ((with_reducible show T _ (exec _ _) _ _); first
    | ((with_reducible show T _ (exec (Stmt.Assign [Expr.Name _ _] _ _) _) _ _); refine T_assign ?_)
    | ((with_reducible show T _ (exec (Stmt.If _ _ _ _) _) _ _); refine T_if ?_)
    | ((with_reducible show T _ (exec (Stmt.Return (some _) _) _) _ _); refine T_return ?_)
    | ((with_reducible show T _ (exec (Stmt.Return none _) _) _ _); refine T_return0 ?_)
    | ((with_reducible show T _ (exec (Stmt.Expr _ _) _) _ _); refine T_expr' ?_)
    | ((with_reducible show T _ (exec (Stmt.Assign [Expr.Attribute _ _ _] _ _) _) _ _); refine T_setattr_stmt ?_)
    | ((with_reducible show T _ (exec (Stmt.Assign [Expr.Subscript _ _ _] _ _) _) _ _); refine T_setitem_stmt ?_)
    | ((with_reducible show T _ (exec (Stmt.For (Expr.Name _ _) _ _ [] _) _) _ _); refine T_for ?_)
    | ((with_reducible show T _ (exec (Stmt.AugAssign (Expr.Name _ _) _ _ _) _) _ _); refine T_aug_name ?_)
    | ((with_reducible show T _ (exec (Stmt.AugAssign (Expr.Subscript _ _ _) _ _ _) _) _ _); refine T_aug_item ?_)
    | ((with_reducible show T _ (exec (Stmt.Pass _) _) _ _); refine T_pass ?_)
    | ((with_reducible show T _ (exec (Stmt.Break _) _) _ _); refine T_break ?_)
    | ((with_reducible show T _ (exec (Stmt.Continue _) _) _ _); refine T_continue ?_))
  | ((with_reducible show T _ (storeName _ _ _) _ _); refine T_store S (fun h S => ?_))
  | ((with_reducible show T _ (isTrue _ _ _) _ _); first
    | ((with_reducible show T _ (isTrue (Expr.Compare _ _ _ _) _ _) _ _); refine T_isTrue_cmp ?_)
    | ((with_reducible show T _ (isTrue (Expr.UnaryOp UnaryOp.Not _ _) _ _) _ _); refine T_isTrue_not ?_)
    | ((with_reducible show T _ (isTrue (Expr.BoolOp BoolOp.Or [_, _] _) _ _) _ _); refine T_isTrue_or2 ?_)
    | ((with_reducible show T _ (isTrue (Expr.BoolOp BoolOp.And [_, _] _) _ _) _ _); refine T_isTrue_and2 ?_)
    | ((with_reducible show T _ (isTrue (Expr.BoolOp BoolOp.And [_, _, _] _) _ _) _ _); refine T_isTrue_and3 ?_)
    | (refine T_isTrue_val ?_))
  | ((with_reducible show T _ (truthy (Value.bool _)) _ _); refine T_truthy_bool ?_)
  | ((with_reducible show T _ (truthy (Value.int _ _)) _ _); refine T_truthy_int ?_)
  | ((with_reducible show T _ (truthy Value.none) _ _); refine T_truthy_none ?_)
  | ((with_reducible show T _ (PySem.call (Value.builtin "abs") ([] ++ [Value.int _ _])) _ _); refine T_abs (fun t => ?_))
  | ((with_reducible show Args _ _ (_ :: _) _ _); refine Args_cons ?_)
  | ((with_reducible show Args _ _ [] _ _); refine Args_nil ?_)
  | ((with_reducible show T _ (callWith _ (Value.builtin _) _ _ _) _ _); refine CW_bi ?_)
  | ((with_reducible show T _ (callWith _ (Value.type _) _ _ _) _ _); refine CW_ty ?_)
  | ((with_reducible show T _ (binaryOp Operator.Add (Value.int _ _) (Value.int _ _)) _ _); refine T_add (fun t => ?_))
  | ((with_reducible show T _ (binaryOp Operator.Sub (Value.int _ _) (Value.int _ _)) _ _); refine T_sub (fun t => ?_))
  | ((with_reducible show T _ (unaryOp UnaryOp.USub (Value.int _ _)) _ _); refine T_neg (fun t => ?_))
  | ((with_reducible show T _ (compareOp CmpOp.Eq (Value.int _ _) (Value.int _ _)) _ _); refine T_eq ?_)
  | ((with_reducible show T _ (compareOp CmpOp.NotEq (Value.int _ _) (Value.int _ _)) _ _); refine T_ne ?_)
  | ((with_reducible show T _ (compareOp CmpOp.Lt (Value.int _ _) (Value.int _ _)) _ _); refine T_lt ?_)
  | ((with_reducible show T _ (compareOp CmpOp.Gt (Value.int _ _) (Value.int _ _)) _ _); refine T_gt ?_)
  | ((with_reducible show T _ (compareOp CmpOp.Is _ Value.none) _ _); refine T_is_none ?_)
  | ((with_reducible show T _ (compareOp CmpOp.IsNot _ Value.none) _ _); refine T_isnot_none ?_)
  | walk_at "e")
set_option hygiene false in
local macro_rules | `(tactic| walk_at "w") => `(tactic| repeat (walk_at "s"))
theorem fill_fragI2 : (PySem.Challenge.rw_at6042_01, Mine.hd.heap_39) = (PySem.Challenge.rw_at6042_01, Mine.hd.heap_39) := by k_fill; rfl
def cntUp (F : Fix) (i : Nat) (l : Int) : Nat := ((F.rows.take i).filter fun r => decide (1 < r.length) && decide (l ∈ r)).length
structure InitS (F : Fix) (i : Nat) (q : List Int) (s : Int → List Int) : Prop where
  q1 : ∀ a, [a] ∈ F.rows.take i → a ∈ q
  q2 : ∀ a ∈ q, [a] ∈ F.rows.take i
  q3 : q.length ≤ i
  rng : ∀ l, IsLit F l → ∀ z ∈ s l, ∃ j : Nat, z = j ∧ j < i ∧ 1 < (rowAt F j).length ∧ l ∈ rowAt F j
  nd : ∀ l, IsLit F l → (s l).Nodup
  two : ∀ j, j < i → 1 < (rowAt F j).length → ∃ a b, a ≠ b ∧ a ∈ rowAt F j ∧ b ∈ rowAt F j ∧ ∀ c, c ∈ rowAt F j → ((j : Int) ∈ s c ↔ c = a ∨ c = b)
theorem take_row {F : Fix} {i : Nat} (h : i < F.rows.length) : F.rows.take (i + 1) = F.rows.take i ++ [rowAt F i] := by
  rw [List.take_add_one, List.getElem?_eq_getElem h]
  unfold rowAt
  rw [List.getD_eq_getElem?_getD, List.getElem?_eq_getElem h]; rfl
theorem InitS.zero {F : Fix} : InitS F 0 [] (fun _ => []) :=
  ⟨fun a h => by simp at h, (fun a h => nomatch h), Nat.le_refl _, (fun l _ z h => nomatch h), fun l _ => .nil, fun j h => absurd h (Nat.not_lt_zero _)⟩
theorem InitS.one {F : Fix} {i : Nat} {q : List Int} {s : Int → List Int} {a : Int} (I : InitS F i q s) (hi : i < F.rows.length) (hr : rowAt F i = [a]) : InitS F (i + 1) (q ++ [a]) s := by
  refine ⟨fun b hb => ?_, fun b hb => ?_, by have := I.q3; simp; omega, fun l hl z hz => ?_, I.nd, fun j hj h1 => ?_⟩
  · rw [take_row hi] at hb
    rcases List.mem_append.mp hb with z | z
    · exact List.mem_append_left _ (I.q1 b z)
    · have := List.mem_singleton.mp z
      rw [hr] at this
      simp at this
      rw [this]; simp
  · rw [take_row hi]
    rcases List.mem_append.mp hb with z | z
    · exact List.mem_append_left _ (I.q2 b z)
    · rw [List.mem_singleton.mp z, hr]; simp
  · obtain ⟨j, h1, h2, h3⟩ := I.rng l hl z hz
    exact ⟨j, h1, by omega, h3⟩
  · rcases Nat.lt_succ_iff_lt_or_eq.mp hj with q | rfl
    · exact I.two j q h1
    · rw [hr] at h1; simp at h1
def setS (s : Int → List Int) (a : Int) (i : Nat) : Int → List Int := fun l => if l = a then adds (s a) i else s l
theorem mem_setS {s : Int → List Int} {a l x : Int} {i : Nat} : x ∈ setS s a i l ↔ x ∈ s l ∨ (l = a ∧ x = i) := by
  unfold setS
  split
  · rename_i e; subst e
    rw [mem_adds]; simp
  · rename_i e
    constructor
    · exact .inl
    · rintro (z | z)
      · exact z
      · exact absurd z.1 e
theorem InitS.more {F : Fix} {i : Nat} {q : List Int} {s : Int → List Int} {a b : Int} (R : RowsOk F) (I : InitS F i q s) (hi : i < F.rows.length) (h1 : 1 < (rowAt F i).length) (ha : a ∈ rowAt F i) (hb : b ∈ rowAt F i) (hab : a ≠ b) : InitS F (i + 1) q (setS (setS s a i) b i) := by
  have hmem : ∀ l x, x ∈ setS (setS s a i) b i l ↔ x ∈ s l ∨ ((l = a ∨ l = b) ∧ x = (i : Int)) := fun l x => by
    rw [mem_setS, mem_setS]
    constructor
    · rintro ((z | z) | z)
      · exact .inl z
      · exact .inr ⟨.inl z.1, z.2⟩
      · exact .inr ⟨.inr z.1, z.2⟩
    · rintro (z | ⟨z | z, y⟩)
      · exact .inl (.inl z)
      · exact .inl (.inr ⟨z, y⟩)
      · exact .inr ⟨z, y⟩
  refine ⟨fun c hc => ?_, fun c hc => ?_, by have := I.q3; omega, fun l hl z hz => ?_, fun l hl => ?_, fun j hj hj1 => ?_⟩
  · rw [take_row hi] at hc
    rcases List.mem_append.mp hc with z | z
    · exact I.q1 c z
    · have := List.mem_singleton.mp z
      rw [← this] at h1; simp at h1
  · rw [take_row hi]; exact List.mem_append_left _ (I.q2 c hc)
  · rcases (hmem l z).mp hz with y | ⟨y, rfl⟩
    · obtain ⟨j, h1, h2, h3⟩ := I.rng l hl z y
      exact ⟨j, h1, by omega, h3⟩
    · refine ⟨i, rfl, Nat.lt_succ_self _, h1, ?_⟩
      rcases y with rfl | rfl
      · exact ha
      · exact hb
  · have key : ∀ (s : Int → List Int) (a : Int), (∀ l, IsLit F l → (s l).Nodup) → ∀ l, IsLit F l → (setS s a i l).Nodup := fun s a h l hl => by
      unfold setS
      split
      · rename_i e; subst e; exact adds_nodup (h _ hl)
      · exact h l hl
    exact key _ b (key s a I.nd) l hl
  · rcases Nat.lt_succ_iff_lt_or_eq.mp hj with y | rfl
    · obtain ⟨a', b', z1, z2, z3, z4⟩ := I.two j y hj1
      refine ⟨a', b', z1, z2, z3, fun c hc => ?_⟩
      rw [hmem, ← z4 c hc]
      constructor
      · rintro (w | w)
        · exact w
        · have := w.2; omega
      · exact .inl
    · refine ⟨a, b, hab, ha, hb, fun c hc => ?_⟩
      rw [hmem]
      constructor
      · rintro (w | w)
        · obtain ⟨j', e1, e2, _⟩ := I.rng c (rowAt_lit R _ c hc) _ w; omega
        · exact w.1
      · exact fun w => .inr ⟨w, rfl⟩
theorem InitS.len {F : Fix} {i : Nat} {q : List Int} {s : Int → List Int} (I : InitS F i q s) {l : Int} (hl : IsLit F l) : (s l).length ≤ i := by
  have := nodup_le (m := (List.range i).map fun i => ((i : Nat) : Int)) (I.nd l hl) fun x hx => by
    obtain ⟨j, rfl, hj, _⟩ := I.rng l hl x hx
    exact List.mem_map.mpr ⟨j, List.mem_range.mpr hj, rfl⟩
  simpa using this
theorem InitS.watch {F : Fix} {q : List Int} {s : Int → List Int} (I : InitS F F.rows.length q s) : Watch F s :=
  ⟨fun l hl x hx => let ⟨j, a, b, c⟩ := I.rng l hl x hx; ⟨j, a, b, c⟩, I.nd, I.two⟩
theorem cntUp_succ {F : Fix} {i : Nat} (hi : i < F.rows.length) (l : Int) : cntUp F (i + 1) l = cntUp F i l + if 1 < (rowAt F i).length ∧ l ∈ rowAt F i then 1 else 0 := by
  unfold cntUp
  rw [take_row hi, List.filter_append, List.length_append]
  congr 1
  by_cases h : 1 < (rowAt F i).length ∧ l ∈ rowAt F i
  · rw [if_pos h, List.filter_cons_of_pos (by rw [decide_eq_true h.1, decide_eq_true h.2]; rfl)]; simp
  · rw [if_neg h, List.filter_cons_of_neg (by intro q; simp only [Bool.and_eq_true, decide_eq_true_eq] at q; exact h q)]; simp
structure CL (w : World) (F : Fix) (N0 N : Ledger) (x dx sd qa oc ca : Addr) (sa : Int → Addr) (ra : Nat → Addr) (od osd oca : Obj) (q : List Int) (s : Int → List Int) (fo : Int → Option Value) (b : Nat) : Prop where
  old : ∀ p ∈ N0, p.1 ≠ dx → p.1 ≠ qa → p.1 ≠ oc → (∀ l, IsLit F l → p.1 ≠ sa l) → p ∈ N
  map : N.map (·.1) = ca :: (((List.range F.rows.length).map ra).reverse ++ N0.map (·.1))
  inst : (x, instObj 207 dx) ∈ N
  dict : (dx, od) ∈ N
  sd : (sd, osd) ∈ N
  q : ∃ o, (qa, o) ∈ N ∧ IntsO q o
  oc : ∃ o, (oc, o) ∈ N ∧ IntD fo b o
  s : ∀ l, IsLit F l → ∃ o, (sa l, o) ∈ N ∧ SetO w (s l) o
  ca : (ca, oca) ∈ N
  row : ∀ j, j < F.rows.length → ∃ o, (ra j, o) ∈ N ∧ IntsO (rowAt F j) o
/-- the objects that change stand apart -/
structure Apart (F : Fix) (x dx sd qa oc ca : Addr) (sa : Int → Addr) (ra : Nat → Addr) : Prop where
  q : x ≠ qa ∧ dx ≠ qa ∧ sd ≠ qa ∧ oc ≠ qa ∧ ca ≠ qa
  qs : ∀ l, IsLit F l → sa l ≠ qa
  qr : ∀ j, j < F.rows.length → ra j ≠ qa
  o : x ≠ oc ∧ dx ≠ oc ∧ sd ≠ oc ∧ ca ≠ oc
  os : ∀ l, IsLit F l → sa l ≠ oc
  or : ∀ j, j < F.rows.length → ra j ≠ oc
  s : ∀ l, IsLit F l → x ≠ sa l ∧ dx ≠ sa l ∧ sd ≠ sa l ∧ ca ≠ sa l
  ss : ∀ l l', IsLit F l → IsLit F l' → sa l = sa l' → l = l'
  sr : ∀ l j, IsLit F l → j < F.rows.length → ra j ≠ sa l
section
variable {w : World} {F : Fix} {N0 N : Ledger} {x dx sd qa oc ca : Addr} {sa : Int → Addr} {ra : Nat → Addr} {od osd oca : Obj} {q : List Int} {s : Int → List Int} {fo : Int → Option Value} {b : Nat}
theorem CL.updQ (C : CL w F N0 N x dx sd qa oc ca sa ra od osd oca q s fo b) (A : Apart F x dx sd qa oc ca sa ra) {o' : Obj} {q' : List Int} (h : IntsO q' o') : CL w F N0 (Mine.upd N qa o') x dx sd qa oc ca sa ra od osd oca q' s fo b := by
  obtain ⟨o0, m0, _⟩ := C.q
  refine ⟨fun p hp h1 h2 h3 h4 => mem_upd_of_ne (C.old p hp h1 h2 h3 h4) h2, by rw [upd_fst]; exact C.map, mem_upd_of_ne C.inst A.q.1, mem_upd_of_ne C.dict A.q.2.1, mem_upd_of_ne C.sd A.q.2.2.1, ⟨o', mem_upd_self m0, h⟩, ?_, fun l hl => ?_, mem_upd_of_ne C.ca A.q.2.2.2.2, fun j hj => ?_⟩
  · obtain ⟨o, a, c⟩ := C.oc; exact ⟨o, mem_upd_of_ne a A.q.2.2.2.1, c⟩
  · obtain ⟨o, a, c⟩ := C.s l hl; exact ⟨o, mem_upd_of_ne a (A.qs l hl), c⟩
  · obtain ⟨o, a, c⟩ := C.row j hj; exact ⟨o, mem_upd_of_ne a (A.qr j hj), c⟩
theorem CL.updO (C : CL w F N0 N x dx sd qa oc ca sa ra od osd oca q s fo b) (A : Apart F x dx sd qa oc ca sa ra) {o' : Obj} {fo' : Int → Option Value} {b' : Nat} (h : IntD fo' b' o') : CL w F N0 (Mine.upd N oc o') x dx sd qa oc ca sa ra od osd oca q s fo' b' := by
  obtain ⟨o0, m0, _⟩ := C.oc
  refine ⟨fun p hp h1 h2 h3 h4 => mem_upd_of_ne (C.old p hp h1 h2 h3 h4) h3, by rw [upd_fst]; exact C.map, mem_upd_of_ne C.inst A.o.1, mem_upd_of_ne C.dict A.o.2.1, mem_upd_of_ne C.sd A.o.2.2.1, ?_, ⟨o', mem_upd_self m0, h⟩, fun l hl => ?_, mem_upd_of_ne C.ca A.o.2.2.2, fun j hj => ?_⟩
  · obtain ⟨o, a, c⟩ := C.q; exact ⟨o, mem_upd_of_ne a (Ne.symm A.q.2.2.2.1), c⟩
  · obtain ⟨o, a, c⟩ := C.s l hl; exact ⟨o, mem_upd_of_ne a (A.os l hl), c⟩
  · obtain ⟨o, a, c⟩ := C.row j hj; exact ⟨o, mem_upd_of_ne a (A.or j hj), c⟩
theorem CL.updS (C : CL w F N0 N x dx sd qa oc ca sa ra od osd oca q s fo b) (A : Apart F x dx sd qa oc ca sa ra) {l : Int} (hl : IsLit F l) {o' : Obj} {i : Nat} (h : SetO w (adds (s l) i) o') : CL w F N0 (Mine.upd N (sa l) o') x dx sd qa oc ca sa ra od osd oca q (setS s l i) fo b := by
  obtain ⟨o0, m0, _⟩ := C.s l hl
  have a1 := A.s l hl
  refine ⟨fun p hp h1 h2 h3 h4 => mem_upd_of_ne (C.old p hp h1 h2 h3 h4) (h4 l hl), by rw [upd_fst]; exact C.map, mem_upd_of_ne C.inst a1.1, mem_upd_of_ne C.dict a1.2.1, mem_upd_of_ne C.sd a1.2.2.1, ?_, ?_, fun l' hl' => ?_, mem_upd_of_ne C.ca a1.2.2.2, fun j hj => ?_⟩
  · obtain ⟨o, a, c⟩ := C.q; exact ⟨o, mem_upd_of_ne a (Ne.symm (A.qs l hl)), c⟩
  · obtain ⟨o, a, c⟩ := C.oc; exact ⟨o, mem_upd_of_ne a (Ne.symm (A.os l hl)), c⟩
  · by_cases e : l' = l
    · subst e
      refine ⟨o', mem_upd_self m0, ?_⟩
      unfold setS; rw [if_pos rfl]; exact h
    · obtain ⟨o, a, c⟩ := C.s l' hl'
      refine ⟨o, mem_upd_of_ne a fun z => e (A.ss _ _ hl' hl z), ?_⟩
      unfold setS; rw [if_neg e]; exact c
  · obtain ⟨o, a, c⟩ := C.row j hj; exact ⟨o, mem_upd_of_ne a (A.sr l j hl hj), c⟩
end
section
variable {κ : Kx} {F : Fix} {h H : Heap} {L : Addr} {l : List (Str × Value)} {N M X : Ledger} {n : Nat}
theorem T_iadd {a b : Int} {t u : Tok} {Q : Value → Heap → Prop} (x : ∀ t, Q (.int (a + b) t) h) : T κ (inplaceOp .Add (.int a t) (.int b u)) Q h := fun _ _ => PyProof.Rows.iadd_int ⟨rfl, rfl, x _⟩
set_option maxHeartbeats 4000000 in
theorem initclauses_spec (R : Room κ (n + 6)) (top : TopIn κ.w (hid h N)) (led : Led h N) (RO : RowsOk F) (hrl : F.rows.length ≤ 6) (hlen : ∀ r ∈ F.rows, r.length ≤ 3) {x dx sd qa oc cl : Addr} {od osd oq ooc : Obj} {f : Str → Option Value} {fs fo : Int → Option Value} {sa : Int → Addr} {m : Nat}
    (hx : (x, instObj 207 dx) ∈ N) (hd : (dx, od) ∈ N) (D : DictA f m od) (hm : m ≤ 50) (hr : RowsH (hid h N) cl F.rows)
    (fq : f "_unit_prop_queue" = some (.ref qa)) (fsd : f "sentinels" = some (.ref sd)) (foc : f "occurrence_count" = some (.ref oc)) (hq : (qa, oq) ∈ N) (iq : IntsO [] oq) (hsd : (sd, osd) ∈ N) (Dsd : IntD fs 40 osd)
    (hs : ∀ l, IsLit F l → fs l = some (.ref (sa l)) ∧ ∃ o, (sa l, o) ∈ N ∧ SetO κ.w [] o) (hoc : (oc, ooc) ∈ N) (Doc : IntD fo 40 ooc) (ho : ∀ l, IsLit F l → ∃ t, fo l = some (.int 0 t))
    (nd : (N.map (·.1)).Nodup) (hne : x ≠ dx) (ap : qa ≠ x ∧ qa ≠ dx ∧ qa ≠ sd ∧ qa ≠ oc ∧ oc ≠ x ∧ oc ≠ dx ∧ oc ≠ sd ∧ sd ≠ dx) (aps : ∀ l, IsLit F l → sa l ≠ x ∧ sa l ≠ dx ∧ sa l ≠ sd ∧ sa l ≠ oc ∧ sa l ≠ qa) (apss : ∀ l l', IsLit F l → IsLit F l' → sa l = sa l' → l = l') :
    C κ (.call (.ref 88) ⟨[.ref x, .ref cl], []⟩) (Out h N fun v N' => v = .none ∧ ∃ od' ca oca q s fo' b, ∃ ra : Nat → Addr, CL κ.w F N N' x dx sd qa oc ca sa ra od' osd oca q s fo' b ∧ InitS F F.rows.length q s ∧
      DictA (fun y => if y = "clauses" then some (.ref ca) else f y) (m + 1) od' ∧ LsO ((List.range F.rows.length).map fun i => .ref (ra i)) oca ∧ b ≤ 1000 ∧ (∀ l, IsLit F l → ∃ t, fo' l = some (.int (tally F l) t)) ∧ (N'.map (·.1)).Nodup) h := by
  refine C_def [("self", .ref x), ("clauses", .ref cl)] _ (n := n + 5) R top led (by k_is) (by k_is) (fun s _ => BindsTo.of_eq rfl) (locs rfl) rfl (fun κ L h₁ ew S R => ?_)
  clear led
  rw [← ew] at top hs
  generalize hid h N = G at S top hr ⊢
  obtain ⟨orows, vrows, erows, Lrows, hvrows, hrow⟩ := hr.has
  walk_at "w"
  refine T_lro ?_
  walk_at "w"
  refine T_iter_list R Lrows (S.base erows) fun I h' it => ?_
  refine ⟨I, _, _, _, _, fun i ys M => ∃ ra : Nat → Addr, ys = (List.range i).map (fun j => .ref (ra j)) ∧ M.map (·.1) = ((List.range i).map ra).reverse ∧ (M.map (·.1)).Nodup ∧ ∀ j, j < i → ∃ o, (ra j, o) ∈ M ∧ IntsO (rowAt F j) o, rfl, by omega, it, (fun p hp => by rw [List.mem_singleton.mp hp]; exact S.base erows), S.topH, ⟨fun _ => 0, rfl, rfl, .nil, fun j h => absurd h (Nat.not_lt_zero _)⟩, fun C i v ys M l2 X2 H2 h2 hk2 hi hP hI S2 => ?_, fun ys M ca oca h2 hI hL ledM hfr c => ?_⟩
  · obtain ⟨ra, e1, e2, e3, e4⟩ := hI
    obtain ⟨Tr, oT, rfl, eT, iT⟩ := hrow i v hP
    have g1 := S2.base (hk2 _ _ (S.base eT))
    obtain ⟨vt, LT, iTT⟩ := id iT
    have hiF : i < F.rows.length := by omega
    have hvt : vt.length ≤ 3 := by rw [iTT.length]; exact hlen _ (rowAt_mem hiF)
    clear S it
    have S := S2
    refine T_tests_nil ?_
    rw [if_pos rfl]
    walk_at "w"
    refine T_list_list LT g1 (by omega) fun r h o Lr c => ?_
    have nd' := S.nodupN e3 c
    have hfr : ∀ j, j < i → ra j ≠ r := fun j hj e => by
      obtain ⟨o, a, _⟩ := e4 j hj
      have := S.gn a; rw [e, c.fresh] at this; cases this
    replace S := S.newN c
    have hne : ∀ j, j < i → j ≠ i := fun j hj => by omega
    refine ⟨_, _, _, S, fun j => if j = i then r else ra j, ?_, ?_, nd', fun j hj => ?_⟩
    · rw [List.range_succ, List.map_append, e1]
      congr 1
      · exact List.map_congr_left fun j hj => by dsimp only; rw [if_neg (hne j (List.mem_range.mp hj))]
      · simp
    · rw [List.map_cons, e2, List.range_succ, List.map_append, List.reverse_append]
      have : (List.range i).map (fun j => if j = i then r else ra j) = (List.range i).map ra := List.map_congr_left fun j hj => if_neg (hne j (List.mem_range.mp hj))
      rw [this]; simp
    · by_cases q : j = i
      · subst q; dsimp only; rw [if_pos rfl]; exact ⟨_, .head _, _, Lr, iTT⟩
      · dsimp only; rw [if_neg q]
        obtain ⟨o, a, b⟩ := e4 j (by omega)
        exact ⟨o, .tail _ a, b⟩
  obtain ⟨ra, e1, e2, e3, e4⟩ := hI
  rw [hvrows] at e1 e2 e4
  subst e1
  have led2 : Led h2 ((ca, oca) :: M) := fun p hp => by
    rcases List.mem_cons.mp hp with rfl | hp
    · exact c.at_
    · exact ledM p hp
  have ni : NewIn h₁ [] ((ca, oca) :: M) := fun p hp => by
    rcases List.mem_cons.mp hp with rfl | hp
    · exact .inr c.fresh
    · exact .inr (hfr p hp).1
  have hnd2 : (((ca, oca) :: M).map (·.1)).Nodup := by
    rw [List.map_cons, List.nodup_cons]
    refine ⟨fun hm => ?_, e3⟩
    obtain ⟨p, hp, e⟩ := List.mem_map.mp hm
    exact (hfr p hp).2 e
  have nd1 := nodup_merge S nd hnd2 ni
  have S5 := (S.swap.outRo led2 (fun b o e _ => c.keep b o e) ni).swap
  have G1 : Grow N ((ca, oca) :: M ++ N) dx (ca :: ((List.range F.rows.length).map ra).reverse) := ⟨fun p hp _ => List.mem_append_right _ hp, by rw [List.cons_append, List.map_cons, List.map_append, e2]; rfl, nd1⟩
  have inN : ∀ p ∈ N, p ∈ (ca, oca) :: M ++ N := fun p hp => List.mem_append_right _ hp
  have mca : (ca, oca) ∈ (ca, oca) :: M ++ N := .head _
  have mra : ∀ j, j < F.rows.length → ∃ o, (ra j, o) ∈ (ca, oca) :: M ++ N ∧ IntsO (rowAt F j) o := fun j hj => let ⟨o, a, b⟩ := e4 j hj; ⟨o, List.mem_append_left _ (.tail _ a), b⟩
  generalize (ca, oca) :: M ++ N = N3 at S5 G1 inN mca mra
  clear S it e2 e3 e4 hfr ledM led2 ni hnd2 nd1 c
  have S := S5
  clear S5
  have apN : ∀ {a : Addr} {o : Obj}, (a, o) ∈ N → ca ≠ a ∧ ∀ j, j < F.rows.length → ra j ≠ a := fun {a o} hm => by
    have hn := G1.nd
    rw [G1.map] at hn
    have key := (List.nodup_append.mp hn).2.2
    have ha : a ∈ N.map (·.1) := List.mem_map_of_mem (f := (·.1)) hm
    exact ⟨key ca (.head _) a ha, fun j hj => key (ra j) (.tail _ (List.mem_reverse.mpr (List.mem_map_of_mem (List.mem_range.mpr hj)))) a ha⟩
  have A : Apart F x dx sd qa oc ca sa ra := by
    obtain ⟨p1, p2, p3, p4, p5, p6, p7, p8⟩ := ap
    refine ⟨⟨Ne.symm p1, Ne.symm p2, Ne.symm p3, Ne.symm p4, (apN hq).1⟩, fun l hl => (aps l hl).2.2.2.2, fun j hj => (apN hq).2 j hj, ⟨Ne.symm p5, Ne.symm p6, Ne.symm p7, (apN hoc).1⟩, fun l hl => (aps l hl).2.2.2.1, fun j hj => (apN hoc).2 j hj,
      fun l hl => ?_, apss, fun l j hl hj => ?_⟩
    · obtain ⟨_, o, hm, _⟩ := hs l hl
      exact ⟨Ne.symm (aps l hl).1, Ne.symm (aps l hl).2.1, Ne.symm (aps l hl).2.2.1, (apN hm).1⟩
    · obtain ⟨_, o, hm, _⟩ := hs l hl
      exact (apN hm).2 j hj
  walk_at "w"
  refine T_put S G1 A_cl (inN _ hx) (inN _ hd) hne D (by omega) fun h od1 S5 G2 hx2 hd2 D2 k2 => ?_
  have C0 : CL κ.w F N (Mine.upd N3 dx od1) x dx sd qa oc ca sa ra od1 osd oca [] (fun _ => []) fo 40 := by
    refine ⟨fun p hp h1 _ _ _ => G2.old p hp h1, G2.map, hx2, hd2, k2 _ (inN _ hsd) ap.2.2.2.2.2.2.2, ⟨oq, k2 _ (inN _ hq) ap.2.1, iq⟩, ⟨ooc, k2 _ (inN _ hoc) ap.2.2.2.2.2.1, Doc⟩, fun l hl => ?_, k2 _ mca (apN hd).1, fun j hj => ?_⟩
    · obtain ⟨_, o, a, b⟩ := hs l hl
      exact ⟨o, k2 _ (inN _ a) (aps l hl).2.1, b⟩
    · obtain ⟨o, a, b⟩ := mra j hj
      exact ⟨o, k2 _ a ((apN hd).2 j hj), b⟩
  have hndF := G2.nd
  clear S k2 hx2 hd2 G1 G2 inN mca mra apN
  have S := S5
  clear S5
  generalize Mine.upd N3 dx od1 = N4 at S C0 hndF
  clear N3
  have hcs : ∀ l, IsLit F l → ∃ t, fo l = some (.int (cntUp F 0 l) t) := ho
  walk_at "w"
  refine T_for2 (L := L) ?_
  walk_at "w"
  refine T_getAttr S.kin A_cl (S.gn C0.inst) D2 (S.gn C0.dict) rfl rfl ?_
  walk_at "w"
  refine T_enum R hL (S.gn C0.ca) fun I it h' itn => ?_
  obtain ⟨hws, hk12, ndl, Z, hndz, W, hz⟩ := itn [] 0 default
  refine W.self 0 _ hz _ ?_
  clear hws hk12 ndl Z hndz W hz
  refine ⟨G, I, [I, it], [(ca, oca)], _, _, _, _, _, _, fun i l N' X' => ∃ q s fo b, look l "self" = some (.ref x) ∧ CL κ.w F N N' x dx sd qa oc ca sa ra od1 osd oca q s fo b ∧ InitS F i q s ∧ b ≤ 40 + 10 * i ∧ (∀ l, IsLit F l → ∃ t, fo l = some (.int (cntUp F i l) t)) ∧ (N'.map (·.1)).Nodup,
    rfl, itn _ _ _, S, ⟨_, _, _, _, rfl, C0, InitS.zero, by omega, hcs, hndF⟩, fun i l N' X' hI p hp => by obtain ⟨_, _, _, _, _, C1, _⟩ := hI; rw [List.mem_singleton.mp hp]; exact .inl C1.ca, fun i v l N' X' H2 h0 h hk hi hP hI S2 => ?_, fun l N' X' h hI S2 => ?_⟩
  · clear S C0 itn hcs hndF
    obtain ⟨q, s, fo1, b, hn1, C1, I1, hb, hcs, hndF⟩ := hI
    obtain ⟨Tt, tt, xv, rfl, hxv, hfresh, htup⟩ := hP
    have hiF : i < F.rows.length := by simpa using hi
    have hxv : xv = .ref (ra i) := by
      rw [List.getElem?_map, List.getElem?_range hiF] at hxv
      exact (Option.some.inj hxv).symm
    subst hxv
    obtain ⟨orow, mrow, irow⟩ := C1.row i hiF
    obtain ⟨vt, Lt, it⟩ := id irow
    have hvt : vt.length = (rowAt F i).length := it.length
    have hmem : rowAt F i ∈ F.rows := rowAt_mem hiF
    have hl3 := hlen _ hmem
    have hlitr := rowAt_lit RO i
    refine T_assign_tuple2 R htup (fun h5 k5 => T_store (S2.keeps k5) (fun h S => T_store S (fun h S => ?_)))
    clear S2 htup hfresh
    walk_at "w"
    refine T_len_list Lt (S.gn mrow) (by omega) (fun t => ?_)
    walk_at "w"
    refine ⟨fun hb1 => ?_, fun hb1 => ?_⟩
    · have hb1 : (rowAt F i).length = 1 := by rw [hvt] at hb1; have := of_decide_eq_true hb1; omega
      obtain ⟨a, ha⟩ := List.length_eq_one_iff.mp hb1
      rw [ha] at it
      obtain ⟨oq1, mq1, vq, Lq, iq1⟩ := C1.q
      walk_at "w"
      refine T_getAttr S.kin A_q (S.gn C1.inst) D2 (S.gn C1.dict) fq rfl ?_
      refine T_m_append Lq (S.gn mq1) ?_
      walk_at "w"
      cases it with
      | cons _ ta it2 =>
        cases it2
        refine T_item_list Lt (S.gn mrow) (by decide) (by decide) rfl ?_
        walk_at "w"
        have := I1.q3
        refine T_append Lq (S.gn mq1) (by have := iq1.length; omega) (fun h o5 L5 c5 => ?_)
        replace S := S.updN mq1 c5
        have C2 := C1.updQ A ⟨_, L5, ints_app iq1 (.cons a ta .nil)⟩
        walk_at "w"
        refine ⟨_, _, _, S, _, _, _, _, hn1, C2, I1.one hiF ha, by omega, fun l hl => ?_, by rw [upd_fst]; exact hndF⟩
        obtain ⟨t, ht⟩ := hcs l hl
        rw [cntUp_succ hiF, if_neg (by omega)]
        exact ⟨t, ht⟩
    · have hb1 : (rowAt F i).length ≠ 1 := fun e => by rw [hvt, e] at hb1; simp at hb1
      have h1 : 1 < (rowAt F i).length := by have := List.length_pos_iff.mpr (RO.ne _ hmem); omega
      walk_at "w"
      obtain ⟨p, bb, hp⟩ := snoc_of (RO.ne _ hmem)
      have hrn := RO.nd _ hmem
      obtain ⟨a, p', hpa⟩ : ∃ a p', p = a :: p' := by
        cases p with
        | nil => rw [hp] at h1; simp at h1
        | cons a p' => exact ⟨a, p', rfl⟩
      subst hpa
      have ha : a ∈ rowAt F i := by rw [hp]; simp
      have hb2 : bb ∈ rowAt F i := by rw [hp]; simp
      have hab : a ≠ bb := by
        rw [hp, List.cons_append, List.nodup_cons] at hrn
        exact fun e => hrn.1 (by rw [e]; simp)
      have hla := hlitr a ha
      have hlb := hlitr bb hb2
      obtain ⟨ta, hv0⟩ := ints_at it (i := 0) (n := a) (by rw [hp]; rfl)
      obtain ⟨us, tb, hvl, _⟩ := ints_snoc (hp ▸ it)
      have Lt2 := Lt
      rw [hvl] at Lt2
      have I2 := I1.more RO hiF h1 ha hb2 hab
      refine T_getAttr S.kin A_sd (S.gn C1.inst) D2 (S.gn C1.dict) fsd rfl ?_
      walk_at "w"
      refine T_item_list Lt (S.gn mrow) (by decide) (by decide) hv0 ?_
      refine T_item_int Dsd (S.gn C1.sd) (hs a hla).1 ?_
      obtain ⟨os1, ms1, Ds1⟩ := C1.s a hla
      refine T_m_add Ds1 (S.gn ms1) ?_
      walk_at "w"
      refine T_set_add Ds1 (S.gn ms1) (by have := I1.len hla; omega) (fun h o5 D5 c5 => ?_)
      replace S := S.updN ms1 c5
      have C2 := C1.updS A hla (SetO.adds D5)
      replace mrow := mem_upd_of_ne (d := sa a) (o := o5) mrow (A.sr a i hla hiF)
      rw [← upd_fst N' (sa a) o5] at hndF
      generalize Mine.upd N' (sa a) o5 = N5 at S C2 mrow hndF
      clear C1 I1 ms1 D5 c5
      walk_at "w"
      refine T_getAttr S.kin A_sd (S.gn C2.inst) D2 (S.gn C2.dict) fsd rfl ?_
      walk_at "w"
      refine T_item_last Lt2 (S.gn mrow) ?_
      refine T_item_int Dsd (S.gn C2.sd) (hs bb hlb).1 ?_
      obtain ⟨os2, ms2, Ds2⟩ := C2.s bb hlb
      refine T_m_add Ds2 (S.gn ms2) ?_
      walk_at "w"
      have hsl : (setS s a i bb).length ≤ 900 := by
        have h5 : setS s a i bb = s bb := if_neg (Ne.symm hab)
        have h6 : setS (setS s a i) bb i bb = adds (setS s a i bb) i := if_pos rfl
        have h7 := I2.len hlb
        rw [h6] at h7
        unfold adds at h7
        split at h7
        · omega
        · simp at h7; omega
      refine T_set_add Ds2 (S.gn ms2) hsl (fun h o6 D6 c6 => ?_)
      replace S := S.updN ms2 c6
      have C3 := C2.updS A hlb (SetO.adds D6)
      replace mrow := mem_upd_of_ne (d := sa bb) (o := o6) mrow (A.sr bb i hlb hiF)
      rw [← upd_fst N5 (sa bb) o6] at hndF
      generalize Mine.upd N5 (sa bb) o6 = N6 at S C3 mrow hndF
      clear C2 ms2 D6 c6
      generalize setS (setS s a i) bb i = s2 at C3 I2
      walk_at "w"
      refine T_iter_list R Lt (S.gn mrow) fun I h' it4 => ?_
      refine ForAt.mk3 [] S it4 (fun j mm N' X' => ∃ fo2 b2, CL κ.w F N N' x dx sd qa oc ca sa ra od1 osd oca q s2 fo2 b2 ∧ (ra i, orow) ∈ N' ∧ b2 ≤ 40 + 10 * i + j ∧ (∀ l, IsLit F l → ∃ t, fo2 l = some (.int ((cntUp F i l : Int) + if l ∈ (rowAt F i).take j then 1 else 0) t)) ∧ (N'.map (·.1)).Nodup)
        ⟨fo1, b, C3, mrow, by omega, fun l hl => by obtain ⟨t, ht⟩ := hcs l hl; exact ⟨t, by simpa using ht⟩, hndF⟩ (fun j mm N' X' hI p hp => by obtain ⟨_, _, _, m, _⟩ := hI; rw [List.mem_singleton.mp hp]; exact .inl m) (fun j v l4 N7 X4 H4 h4 hk4 hj hP hI hl4 S4 => ?_) (fun l4 N7 X4 h4 hI hl4 S4 => ?_)
      · clear S C3 it4 mrow hcs hndF
        obtain ⟨fo2, b2, C4, mrow, hb4, hcs, hndF⟩ := hI
        obtain ⟨w, tw, hw, rfl⟩ := ints_of_at it hP
        have hlw := hlitr w (List.mem_of_getElem? hw)
        have S := S4
        clear S4
        have hn5 : look l4 "self" = some (.ref x) := (hl4 "self" (by decide) (by decide)).trans hn1
        walk_at "w"
        refine T_getAttr S.kin A_occ (S.gn C4.inst) D2 (S.gn C4.dict) foc rfl ?_
        walk_at "w"
        obtain ⟨oo, moo, Doo⟩ := C4.oc
        obtain ⟨tc, hc⟩ := hcs w hlw
        refine T_getItem_int Doo (S.gn moo) hc ?_
        walk_at "w"
        refine T_iadd (fun t => ?_)
        refine T_setItem_int Doo (S.gn moo) (by omega) (fun h o7 D7 c7 => ?_)
        replace S := S.updN moo c7
        have C5 := C4.updO A D7
        walk_at "w"
        refine ⟨_, _, _, S, fun y h1 h2 => ?_, _, _, C5, mem_upd_of_ne mrow (A.or i hiF), by omega, fun l hl => ?_, by rw [upd_fst]; exact hndF⟩
        · have h3 := hl4 y h1 h2
          simp only [look, if_neg h1] at h3 ⊢; exact h3
        · have hnt := nodup_take hrn hw
          rw [take_succ_of hw]
          by_cases e : l = w
          · subst e
            refine ⟨t, ?_⟩
            rw [if_neg hnt, if_pos (show l ∈ (rowAt F i).take j ++ [l] by simp), Int.add_zero]
            exact if_pos rfl
          · rw [if_neg e]
            obtain ⟨t, ht⟩ := hcs l hl
            refine ⟨t, ht.trans ?_⟩
            by_cases z : l ∈ (rowAt F i).take j
            · rw [if_pos z, if_pos (List.mem_append_left _ z)]
            · rw [if_neg z, if_neg fun q => (List.mem_append.mp q).elim z (by simpa using e)]
      · clear S C3 it4 mrow hcs hndF
        obtain ⟨fo2, b2, C4, mrow, hb4, hcs, hndF⟩ := hI
        have S := S4
        clear S4
        have hn5 : look l4 "self" = some (.ref x) := (hl4 "self" (by decide) (by decide)).trans hn1
        walk_at "w"
        refine ⟨_, _, _, S, _, _, _, _, hn5, C4, I2, by omega, fun l hl => ?_, hndF⟩
        obtain ⟨t, ht⟩ := hcs l hl
        rw [hvt, List.take_length] at ht
        refine ⟨t, ht.trans ?_⟩
        rw [cntUp_succ hiF]
        by_cases z : l ∈ rowAt F i
        · rw [if_pos z, if_pos ⟨h1, z⟩]; simp
        · rw [if_neg z, if_neg fun q => z q.2]; simp
  · clear S C0 itn hcs hndF
    obtain ⟨q, s, fo1, b, hn1, C1, I1, hb, hcs, hndF⟩ := hI
    have S := S2
    have hnn : ((List.range F.rows.length).map fun i => Value.ref (ra i)).length = F.rows.length := by simp
    rw [hnn] at I1 hcs hb
    walk_at "w"
    refine ⟨_, _, _, S, rfl, od1, ca, oca, q, s, fo1, b, ra, ew ▸ C1, I1, D2, hL, by omega, fun l hl => ?_, hndF⟩
    obtain ⟨t, ht⟩ := hcs l hl
    refine ⟨t, ht.trans ?_⟩
    unfold cntUp tally
    rw [List.take_length]
end
end Mine
end
section
open PySem PySem.W PySem.Calls PyProof.Rows
set_option Elab.async false
set_option maxRecDepth 100000
set_option linter.all false
namespace Mine

set_option hygiene false in
local macro_rules | `(tactic| walk_at "e") => `(tactic| ((with_reducible show T _ (eval _ _) _ _); first
  | ((with_reducible show T _ (eval (Expr.Name _ _) _) _ _); first
    | ((with_reducible show T _ (eval (Expr.Name "len" _) _) _ _); refine N_len S (by k_is) ?_)
    | ((with_reducible show T _ (eval (Expr.Name "abs" _) _) _ _); refine N_abs S (by k_is) ?_)
    | ((with_reducible show T _ (eval (Expr.Name "sorted" _) _) _ _); refine N_sorted S (by k_is) ?_)
    | ((with_reducible show T _ (eval (Expr.Name "list" _) _) _ _); refine N_list S (by k_is) ?_)
    | ((with_reducible show T _ (eval (Expr.Name "range" _) _) _ _); refine N_range S (by k_is) ?_)
    | ((with_reducible show T _ (eval (Expr.Name "set" _) _) _ _); refine N_set S (by k_is) ?_)
    | ((with_reducible show T _ (eval (Expr.Name "enumerate" _) _) _ _); refine N_enumerate S (by k_is) ?_)
    | refine T_loc S (by first | rfl | exact hn1 | exact hn2 | exact hn3 | exact hn4 | exact hn5) ?_
    | refine T_glob S (by k_is) ?_)
  | ((with_reducible show T _ (eval (Expr.Constant (Const.int _) _ _) _) _ _); refine T_int (fun t => ?_))
  | ((with_reducible show T _ (eval (Expr.Attribute _ _ _) _) _ _); refine T_attr ?_)
  | ((with_reducible show T _ (eval (Expr.Subscript _ _ _) _) _ _); refine T_item ?_)
  | ((with_reducible show T _ (eval (Expr.Call (Expr.Attribute _ _ _) _ [] _) _) _ _); refine T_Method ?_)
  | ((with_reducible show T _ (eval (Expr.Call _ _ [] _) _) _ _); refine T_Call ?_)
  | ((with_reducible show T _ (eval (Expr.BinOp _ _ _ _) _) _ _); refine T_binop ?_)
  | ((with_reducible show T _ (eval (Expr.UnaryOp _ _ _) _) _ _); refine T_unop ?_)
  | ((with_reducible show T _ (eval (Expr.Compare _ _ _ _) _) _ _); refine T_cmp ?_)
  | ((with_reducible show T _ (eval (Expr.Constant Const.none _ _) _) _ _); refine T_none ?_)
  | ((with_reducible show T _ (eval (Expr.Constant (Const.bool _) _ _) _) _ _); refine T_bool ?_)
  | ((with_reducible show T _ (eval (Expr.Constant (Const.str _) _ _) _) _ _); refine T_str (fun t => ?_))
  | ((with_reducible show T _ (eval (Expr.Dict [] [] _) _) _ _); refine T_dict0 (fun a h c => ?_))
  | ((with_reducible show T _ (eval (Expr.List _ _) _) _ _); refine T_list ?_)
  | ((with_reducible show T _ (eval (Expr.Tuple _ _ _) _) _ _); refine T_tuple ?_)
  | ((with_reducible show T _ (eval (Expr.BoolOp BoolOp.Or [_, _] _) _) _ _); refine T_or2 ?_)
  | ((with_reducible show T _ (eval (Expr.IfExp _ _ _ _) _) _ _); refine T_ifexp ?_)))
set_option hygiene false in
local macro_rules | `(tactic| walk_at "s") => `(tactic| first
  | ((with_reducible show T _ (execs (_ :: _) _) _ _); refine T_seq ?_)
  | ((with_reducible show T _ (execs [] _) _ _); refine T_nil ?_)
  | ((with_reducible show T _ (exec _ _) _ _); first
    | ((with_reducible show T _ (exec (Stmt.Assign [Expr.Name _ _] _ _) _) _ _); refine T_assign ?_)
    | ((with_reducible show T _ (exec (Stmt.If _ _ _ _) _) _ _); refine T_if ?_)
    | ((with_reducible show T _ (exec (Stmt.Return (some _) _) _) _ _); refine T_return ?_)
    | ((with_reducible show T _ (exec (Stmt.Return none _) _) _ _); refine T_return0 ?_)
    | ((with_reducible show T _ (exec (Stmt.Expr _ _) _) _ _); refine T_expr' ?_)
    | ((with_reducible show T _ (exec (Stmt.Assign [Expr.Attribute _ _ _] _ _) _) _ _); refine T_setattr_stmt ?_)
    | ((with_reducible show T _ (exec (Stmt.Assign [Expr.Subscript _ _ _] _ _) _) _ _); refine T_setitem_stmt ?_)
    | ((with_reducible show T _ (exec (Stmt.For (Expr.Name _ _) _ _ [] _) _) _ _); refine T_for ?_)
    | ((with_reducible show T _ (exec (Stmt.AugAssign (Expr.Name _ _) _ _ _) _) _ _); refine T_aug_name ?_)
    | ((with_reducible show T _ (exec (Stmt.AugAssign (Expr.Subscript _ _ _) _ _ _) _) _ _); refine T_aug_item ?_)
    | ((with_reducible show T _ (exec (Stmt.Pass _) _) _ _); refine T_pass ?_)
    | ((with_reducible show T _ (exec (Stmt.Break _) _) _ _); refine T_break ?_)
    | ((with_reducible show T _ (exec (Stmt.Continue _) _) _ _); refine T_continue ?_))
  | ((with_reducible show T _ (storeName _ _ _) _ _); refine T_store S (fun h S => ?_))
  | ((with_reducible show T _ (isTrue _ _ _) _ _); first
    | ((with_reducible show T _ (isTrue (Expr.Compare _ _ _ _) _ _) _ _); refine T_isTrue_cmp ?_)
    | ((with_reducible show T _ (isTrue (Expr.UnaryOp UnaryOp.Not _ _) _ _) _ _); refine T_isTrue_not ?_)
    | ((with_reducible show T _ (isTrue (Expr.BoolOp BoolOp.Or [_, _] _) _ _) _ _); refine T_isTrue_or2 ?_)
    | ((with_reducible show T _ (isTrue (Expr.BoolOp BoolOp.And [_, _] _) _ _) _ _); refine T_isTrue_and2 ?_)
    | ((with_reducible show T _ (isTrue (Expr.BoolOp BoolOp.And [_, _, _] _) _ _) _ _); refine T_isTrue_and3 ?_)
    | (refine T_isTrue_val ?_))
  | ((with_reducible show T _ (truthy (Value.bool _)) _ _); refine T_truthy_bool ?_)
  | ((with_reducible show T _ (truthy (Value.int _ _)) _ _); refine T_truthy_int ?_)
  | ((with_reducible show T _ (truthy Value.none) _ _); refine T_truthy_none ?_)
  | ((with_reducible show T _ (PySem.call (Value.builtin "abs") ([] ++ [Value.int _ _])) _ _); refine T_abs (fun t => ?_))
  | ((with_reducible show Args _ _ (_ :: _) _ _); refine Args_cons ?_)
  | ((with_reducible show Args _ _ [] _ _); refine Args_nil ?_)
  | ((with_reducible show T _ (callWith _ (Value.builtin _) _ _ _) _ _); refine CW_bi ?_)
  | ((with_reducible show T _ (callWith _ (Value.type _) _ _ _) _ _); refine CW_ty ?_)
  | ((with_reducible show T _ (binaryOp Operator.Add (Value.int _ _) (Value.int _ _)) _ _); refine T_add (fun t => ?_))
  | ((with_reducible show T _ (binaryOp Operator.Sub (Value.int _ _) (Value.int _ _)) _ _); refine T_sub (fun t => ?_))
  | ((with_reducible show T _ (unaryOp UnaryOp.USub (Value.int _ _)) _ _); refine T_neg (fun t => ?_))
  | ((with_reducible show T _ (compareOp CmpOp.Eq (Value.int _ _) (Value.int _ _)) _ _); refine T_eq ?_)
  | ((with_reducible show T _ (compareOp CmpOp.NotEq (Value.int _ _) (Value.int _ _)) _ _); refine T_ne ?_)
  | ((with_reducible show T _ (compareOp CmpOp.Lt (Value.int _ _) (Value.int _ _)) _ _); refine T_lt ?_)
  | ((with_reducible show T _ (compareOp CmpOp.Gt (Value.int _ _) (Value.int _ _)) _ _); refine T_gt ?_)
  | ((with_reducible show T _ (compareOp CmpOp.Is _ Value.none) _ _); refine T_is_none ?_)
  | ((with_reducible show T _ (compareOp CmpOp.IsNot _ Value.none) _ _); refine T_isnot_none ?_)
  | walk_at "e")
set_option hygiene false in
local macro_rules | `(tactic| walk_at "w") => `(tactic| repeat (walk_at "s"))
theorem fill_fragI3 : (PySem.Challenge.rw_at6042_01, Mine.hd.heap_39) = (PySem.Challenge.rw_at6042_01, Mine.hd.heap_39) := by k_fill; rfl
theorem Grow.updA {N N3 : Ledger} {dx d : Addr} {A : List Addr} {o : Obj} (G : Grow N N3 dx A) (hd : d ∈ A) : Grow N (Mine.upd N3 d o) dx A := by
  refine ⟨fun p hp hne => mem_upd_of_ne (G.old p hp hne) fun e => ?_, by rw [upd_fst]; exact G.map, by rw [upd_fst]; exact G.nd⟩
  have := G.nd
  rw [G.map] at this
  exact (List.nodup_append.mp this).2.2 d hd p.1 (List.mem_map_of_mem hp) e.symm
structure HL (N : Ledger) (TA : List Addr) (hp : Addr) (ps : List Pair) : Prop where
  has : ∃ vs o, (hp, o) ∈ N ∧ LsO vs o ∧ vs.length = ps.length ∧ ∀ (i : Nat) v, vs[i]? = some v → ∃ T oT, v = .ref T ∧ (T, oT) ∈ N ∧ PairO (gp ps i) oT ∧ T ∈ TA
  heap : IsHeap ps
section
variable {κ : Kx} {F : Fix} {h H : Heap} {L : Addr} {l : List (Str × Value)} {N M X : Ledger} {n : Nat}
theorem HL.more {N' : Ledger} {TA TA' : List Addr} {hp : Addr} {ps : List Pair} (x : HL N TA hp ps) (k : ∀ p ∈ N, p ∈ N') (k2 : ∀ a ∈ TA, a ∈ TA') : HL N' TA' hp ps := by
  obtain ⟨vs, o, a, b, c, d⟩ := x.has
  exact ⟨⟨vs, o, k _ a, b, c, fun i v hi => let ⟨T, oT, e1, e2, e3, e4⟩ := d i v hi; ⟨T, oT, e1, k _ e2, e3, k2 _ e4⟩⟩, x.heap⟩
theorem HL.upd {TA : List Addr} {hp d : Addr} {ps : List Pair} {o' : Obj} (x : HL N TA hp ps) (h1 : hp ≠ d) (h2 : ∀ a ∈ TA, a ≠ d) : HL (Mine.upd N d o') TA hp ps := by
  obtain ⟨vs, o, a, b, c, dd⟩ := x.has
  exact ⟨⟨vs, o, mem_upd_of_ne a h1, b, c, fun i v hi => let ⟨T, oT, e1, e2, e3, e4⟩ := dd i v hi; ⟨T, oT, e1, mem_upd_of_ne e2 (h2 _ e4), e3, e4⟩⟩, x.heap⟩
theorem T_hlpush {TA : List Addr} {hp T : Addr} {ps : List Pair} {p : Pair} {oT : Obj} {Q : Value → Heap → Prop} (R : Room κ n) (S : St κ.w H L l N X h) (x : HL N TA hp ps) (hz : ps.length ≤ 1000) (mT : (T, oT) ∈ N) (P : PairO p oT) (hT : T ∈ TA) (hne : ∀ a ∈ TA, a ≠ hp)
    (q : ∀ h' ps' o', ps'.Perm (ps ++ [p]) → St κ.w H L l (Mine.upd N hp o') X h' → HL (Mine.upd N hp o') TA hp ps' → Q .none h') : Mine.T κ (PySem.call (.builtin "_heapq.heappush") [.ref hp, .ref T]) Q h := by
  obtain ⟨vs, o, a, b, c, d⟩ := x.has
  have HA : HpAt h hp vs ps o := ⟨S.gn a, b, c, fun i v hi => let ⟨T, oT, e1, e2, e3, _⟩ := d i v hi; ⟨T, oT, e1, S.gn e2, e3⟩⟩
  refine T_heappush R HA x.heap (by omega) (S.gn mT) P (fun h' vs' ps' o' hh hp' hv H' ch => ?_)
  refine q h' ps' o' hp' (S.updN a ch) ⟨⟨vs', o', mem_upd_self a, H'.ls, H'.hp.1, fun i v hi => ?_⟩, hh⟩
  obtain ⟨T', oT', e1, e2, e3⟩ := H'.hp.2 i v hi
  have hm : v ∈ vs ++ [.ref T] := hv.mem_iff.mp (List.mem_of_getElem? hi)
  obtain ⟨oT2, m2, hTA⟩ : ∃ o, (T', o) ∈ N ∧ T' ∈ TA := by
    rcases List.mem_append.mp hm with z | z
    · obtain ⟨j, hj⟩ := List.mem_iff_getElem?.mp z
      obtain ⟨T2, oT2, f1, f2, f3, f4⟩ := d j v hj
      rw [e1] at f1; cases f1
      exact ⟨oT2, f2, f4⟩
    · have := List.mem_singleton.mp z
      rw [e1] at this; cases this
      exact ⟨oT, mT, hT⟩
  have := ch.but T' (hne _ hTA)
  rw [e2, S.gn m2] at this
  cases this
  exact ⟨T', oT', e1, mem_upd_of_ne m2 (hne _ hTA), e3, hTA⟩
set_option maxHeartbeats 4000000 in
theorem vsinit_spec (R : Room κ (n + 6)) (top : TopIn κ.w (hid h N)) (led : Led h N) (sc : ScOk F) (hm1 : F.many ≤ 20) {x dx va oc : Addr} {od ova ooc : Obj} {f : Str → Option Value} {fo : Int → Option Value} {m b : Nat}
    (hx : (x, instObj 207 dx) ∈ N) (hd : (dx, od) ∈ N) (D : DictA f m od) (hm : m ≤ 50) (fva : f "variable_set" = some (.ref va)) (foc : f "occurrence_count" = some (.ref oc)) (hva : (va, ova) ∈ N) (Lva : LsO (List.replicate (F.many + 1) (.bool false)) ova)
    (hoc : (oc, ooc) ∈ N) (Doc : IntD fo b ooc) (ho : ∀ l, IsLit F l → ∃ t, fo l = some (.int (tally F l) t)) (nd : (N.map (·.1)).Nodup) (hne : x ≠ dx) (hvad : va ≠ dx) (hocd : oc ≠ dx) :
    C κ (.call (.ref 157) ⟨[.ref x], []⟩) (Out h N fun v N' => v = .none ∧ ∃ od' hp sc osc fsc ps TA, Grow N N' dx (TA ++ [sc, hp]) ∧ (dx, od') ∈ N' ∧ DictA (fun y => if y = "lit_scores" then some (.ref sc) else if y = "lit_heap" then some (.ref hp) else f y) (m + 2) od' ∧
      HL N' TA hp ps ∧ (sc, osc) ∈ N' ∧ IntD fsc 100 osc ∧ (∀ l, IsLit F l → ∃ t, fsc l = some (.int (F.sc l) t)) ∧ ps.Perm ((List.range F.many).flatMap fun (k : Nat) => entries F ((k : Int) + 1))) h := by
  refine C_def [("self", .ref x)] _ (n := n + 5) R top led (by k_is) (by k_is) (fun s _ => BindsTo.of_eq rfl) (locs rfl) rfl (fun κ L h₁ ew S R => ?_)
  clear led
  rw [← ew] at top
  generalize hid h N = G at S top ⊢
  have hdm : dx ∈ N.map (·.1) := List.mem_map_of_mem (f := (·.1)) hd
  walk_at "w"
  refine ⟨by decide, fun hp h chp => ?_⟩
  have G1 := (Grow.refl (dx := dx) nd).new S chp
  replace S := S.newN chp
  have mhp0 : (hp, lso [] 0) ∈ (hp, lso [] 0) :: N := .head _
  have hx1 : (x, instObj 207 dx) ∈ (hp, lso [] 0) :: N := .tail _ hx
  have hd1 : (dx, od) ∈ (hp, lso [] 0) :: N := .tail _ hd
  have hpd : hp ≠ dx := G1.ne hdm (.head _)
  walk_at "w"
  refine T_put S G1 A_hp hx1 hd1 hne D (by omega) fun h od1 S5 G2 hx2 hd2 D2 k2 => ?_
  have mhp := k2 _ mhp0 hpd
  clear S k2 mhp0 hx1 hd1 G1
  have S := S5
  clear S5
  generalize Mine.upd _ dx od1 = N1 at S G2 hx2 hd2 mhp
  walk_at "w"
  have G3 := G2.new S c
  replace S := S.newN c
  have msc0 : (a, emptyDict) ∈ (a, emptyDict) :: N1 := .head _
  replace hx2 : (x, instObj 207 dx) ∈ (a, emptyDict) :: N1 := .tail _ hx2
  replace hd2 : (dx, od1) ∈ (a, emptyDict) :: N1 := .tail _ hd2
  replace mhp : (hp, lso [] 0) ∈ (a, emptyDict) :: N1 := .tail _ mhp
  generalize (a, emptyDict) :: N1 = N2 at S G3 msc0 hx2 hd2 mhp
  clear G2 c
  have scd : a ≠ dx := G3.ne hdm (.head _)
  have schp : a ≠ hp := by
    have := G3.nd
    rw [G3.map] at this
    exact fun e => (List.nodup_cons.mp this).1 (by rw [e]; simp)
  walk_at "w"
  refine T_put S G3 A_sc hx2 hd2 hne D2 (by omega) fun h od2 S5 G4 hx3 hd3 D3 k3 => ?_
  have msc := k3 _ msc0 scd
  replace mhp := k3 _ mhp hpd
  clear S k3 msc0 hx2 hd2 G3
  have S := S5
  clear S5
  generalize Mine.upd N2 dx od2 = N3 at S G4 hx3 hd3 mhp msc
  clear N2
  generalize a = sc' at *
  walk_at "w"
  refine T_getAttr S.kin A_vset (S.gn hx3) D3 (S.gn hd3) fva rfl ?_
  walk_at "w"
  refine T_len_list Lva (S.gn (G4.old _ hva hvad)) (by simp; omega) (fun t => ?_)
  rw [List.length_replicate]
  walk_at "w"
  refine T_range2 fun r h v c => ?_
  replace S := S.new c
  refine T_iter_range R (S.gx (.head _)) (by omega) (by omega) fun I h' it => ?_
  have hcnt : (((F.many + 1 : Nat) : Int) - 1).toNat = F.many := by omega
  refine ForAt.mk2 S it (fun i N' X' => ∃ TA ps fsc osc b2, Grow N N' dx (TA ++ [sc', hp]) ∧ (x, instObj 207 dx) ∈ N' ∧ (dx, od2) ∈ N' ∧ HL N' TA hp ps ∧ (sc', osc) ∈ N' ∧ IntD fsc b2 osc ∧ b2 ≤ 2 * i ∧ (∀ l, IsLit F l → l.natAbs ≤ i → ∃ t, fsc l = some (.int (F.sc l) t)) ∧ ps.Perm ((List.range i).flatMap fun (k : Nat) => entries F ((k : Int) + 1)))
    ⟨[], [], fun _ => none, _, 0, G4, hx3, hd3, ⟨⟨[], _, mhp, LsO.new [], rfl, fun i v h => by simp at h⟩, fun i h0 h1 => by simp at h1⟩, msc, IntD.new, Nat.le_refl _, fun l hl h => absurd h (by have := hl.1; omega), .refl _⟩ (fun i N' X' _ p hp => nomatch hp) (fun i v N5 X2 H2 h2 hk2 hi hP hI S2 => ?_) (fun l2 N5 X2 h2 hI hl2 S2 => ?_)
  · clear S G4 hx3 hd3 msc it mhp
    obtain ⟨TA, ps, fsc, osc, b2, G5, hx5, hd5, hl1, msc, Dsc, hb2, hfsc, hperm⟩ := hI
    obtain ⟨tk, rfl⟩ := hP
    rw [hcnt] at hi
    have S := S2
    clear S2
    have e1 : (1 + (i : Int)) = (i : Int) + 1 := by omega
    rw [e1] at S
    have hv1 : IsLit F ((i : Int) + 1) := ⟨by omega, by omega⟩
    have hv2 : IsLit F (-((i : Int) + 1)) := hv1.neg
    obtain ⟨to1, ho1⟩ := ho _ hv1
    obtain ⟨to2, ho2⟩ := ho _ hv2
    have hs1 := sc _ hv1
    have hs2 := sc _ hv2
    have hpl : ps.length ≤ 100 := by
      have h1 := hperm.length_eq
      have : ∀ n : Nat, ((List.range n).flatMap fun (k : Nat) => entries F ((k : Int) + 1)).length = 2 * n := fun n => by
        induction n with
        | zero => rfl
        | succ n ih => rw [List.range_succ, List.flatMap_append, List.length_append, ih]; simp [entries]; omega
      rw [this] at h1; omega
    have apart : ∀ {TA : List Addr} {N' : Ledger}, Grow N N' dx (TA ++ [sc', hp]) → ∀ a ∈ TA, a ≠ sc' ∧ a ≠ hp := fun {TA N'} G a ha => by
      have := G.nd
      rw [G.map] at this
      have := (List.nodup_append.mp (List.nodup_append.mp this).1).2.2 a ha
      exact ⟨this sc' (by simp), this hp (by simp)⟩
    have hxN : x ∈ N.map (·.1) := List.mem_map_of_mem (f := (·.1)) hx
    have hxsc : x ≠ sc' := fun e => by
      have := G5.nd
      rw [G5.map] at this
      exact (List.nodup_append.mp this).2.2 sc' (by simp) x hxN e.symm
    have hxhp : x ≠ hp := fun e => by
      have := G5.nd
      rw [G5.map] at this
      exact (List.nodup_append.mp this).2.2 hp (by simp) x hxN e.symm
    walk_at "w"
    refine T_getAttr S.kin A_occ (S.gn hx5) D3 (S.gn hd5) foc rfl ?_
    walk_at "w"
    refine T_item_int Doc (S.gn (G5.old _ hoc hocd)) ho1 ?_
    walk_at "w"
    refine T_getAttr S.kin A_sc (S.gn hx5) D3 (S.gn hd5) rfl rfl ?_
    walk_at "w"
    rw [← hs1]
    refine T_setItem_int Dsc (S.gn msc) (by omega) (fun h o3 Ds3 c3 => ?_)
    replace S := S.updN msc c3
    have G6 := G5.updA (d := sc') (o := o3) (by simp)
    replace hl1 := hl1.upd (d := sc') (o' := o3) (Ne.symm schp) (fun a ha => (apart G5 a ha).1)
    replace hx5 := mem_upd_of_ne (d := sc') (o := o3) hx5 hxsc
    replace hd5 := mem_upd_of_ne (d := sc') (o := o3) hd5 (Ne.symm scd)
    replace msc := mem_upd_self (o := o3) msc
    clear G5
    have G5 := G6
    generalize Mine.upd N5 sc' o3 = N6 at S G5 hl1 hx5 hd5 msc
    clear G6 c3 Dsc
    walk_at "w"
    refine T_getAttr S.kin A_occ (S.gn hx5) D3 (S.gn hd5) foc rfl ?_
    walk_at "w"
    refine T_item_int Doc (S.gn (G5.old _ hoc hocd)) ho2 ?_
    walk_at "w"
    refine T_getAttr S.kin A_sc (S.gn hx5) D3 (S.gn hd5) rfl rfl ?_
    walk_at "w"
    rw [← hs2]
    refine T_setItem_int Ds3 (S.gn msc) (by omega) (fun h o4 Ds4 c3 => ?_)
    replace S := S.updN msc c3
    have G6 := G5.updA (d := sc') (o := o4) (by simp)
    replace hl1 := hl1.upd (d := sc') (o' := o4) (Ne.symm schp) (fun a ha => (apart G5 a ha).1)
    replace hx5 := mem_upd_of_ne (d := sc') (o := o4) hx5 hxsc
    replace hd5 := mem_upd_of_ne (d := sc') (o := o4) hd5 (Ne.symm scd)
    replace msc := mem_upd_self (o := o4) msc
    clear G5
    have G5 := G6
    generalize Mine.upd N6 sc' o4 = N7 at S G5 hl1 hx5 hd5 msc
    clear G6 c3 Ds3
    obtain ⟨fz, ⟨tz1, hz1⟩, ⟨tz2, hz2⟩, hz3, Ds4⟩ : ∃ fz : Int → Option Value, (∃ t, fz ((i : Int) + 1) = some (.int (F.sc ((i : Int) + 1)) t)) ∧ (∃ t, fz (-((i : Int) + 1)) = some (.int (F.sc (-((i : Int) + 1))) t)) ∧ (∀ l, l ≠ (i : Int) + 1 → l ≠ -((i : Int) + 1) → fz l = fsc l) ∧ IntD fz (b2 + 1 + 1) o4 := by
      refine ⟨_, ?_, ?_, ?_, Ds4⟩
      · exact ⟨_, (if_neg (by omega)).trans (if_pos rfl)⟩
      · exact ⟨_, if_pos rfl⟩
      · exact fun l h1 h2 => (if_neg h2).trans (if_neg h1)
    walk_at "w"
    refine T_getAttr S.kin A_hp (S.gn hx5) D3 (S.gn hd5) rfl rfl ?_
    walk_at "w"
    refine T_getAttr S.kin A_sc (S.gn hx5) D3 (S.gn hd5) rfl rfl ?_
    walk_at "w"
    refine T_item_int Ds4 (S.gn msc) hz1 ?_
    walk_at "w"
    refine ⟨by show 2 ≤ sizeLine; decide, fun T1 h cT => ?_⟩
    have G6 := G5.new S cT
    have G6 : Grow N _ dx ((T1 :: TA) ++ [sc', hp]) := G6
    have hTn := apart G6
    obtain ⟨oT, hoT, PT⟩ : ∃ oT, oT = ({ cls := .type "tuple", data := .seq [Value.int (F.sc ((i : Int) + 1)) _, Value.int ((i : Int) + 1) _].toArray } : Obj) ∧ PairO (F.sc ((i : Int) + 1), (i : Int) + 1) oT := ⟨_, rfl, _, _, rfl⟩
    replace S := S.newN cT
    rw [← hoT] at S G6
    have hl2 : HL ((T1, oT) :: N7) (T1 :: TA) hp ps := hl1.more (fun p hp => .tail _ hp) (fun a ha => .tail _ ha)
    replace hx5 : (x, instObj 207 dx) ∈ (T1, oT) :: N7 := .tail _ hx5
    replace hd5 : (dx, od2) ∈ (T1, oT) :: N7 := .tail _ hd5
    replace msc : (sc', o4) ∈ (T1, oT) :: N7 := .tail _ msc
    have mT : (T1, oT) ∈ (T1, oT) :: N7 := .head _
    clear hl1 G5 cT
    generalize (T1, oT) :: N7 = N8 at S G6 hl2 hx5 hd5 msc mT
    walk_at "w"
    refine T_hlpush R S hl2 (by omega) mT PT (.head _) (fun a ha => (hTn a ha).2) (fun h ps2 o6 hp2 S5 hl1 => ?_)
    have G5 := G6.updA (d := hp) (o := o6) (by simp)
    replace hx5 := mem_upd_of_ne (d := hp) (o := o6) hx5 hxhp
    replace hd5 := mem_upd_of_ne (d := hp) (o := o6) hd5 (Ne.symm hpd)
    replace msc := mem_upd_of_ne (d := hp) (o := o6) msc schp
    clear S G6 hl2
    have S := S5
    clear S5
    generalize Mine.upd N8 hp o6 = N9 at S G5 hl1 hx5 hd5 msc
    generalize T1 :: TA = TA2 at G5 hl1 hTn
    walk_at "w"
    refine T_getAttr S.kin A_hp (S.gn hx5) D3 (S.gn hd5) rfl rfl ?_
    walk_at "w"
    refine T_getAttr S.kin A_sc (S.gn hx5) D3 (S.gn hd5) rfl rfl ?_
    walk_at "w"
    refine T_item_int Ds4 (S.gn msc) hz2 ?_
    walk_at "w"
    refine ⟨by show 2 ≤ sizeLine; decide, fun T1 h cT => ?_⟩
    have G6 := G5.new S cT
    have G6 : Grow N _ dx ((T1 :: TA2) ++ [sc', hp]) := G6
    have hTn := apart G6
    obtain ⟨oT, hoT, PT⟩ : ∃ oT, oT = ({ cls := .type "tuple", data := .seq [Value.int (F.sc (-((i : Int) + 1))) _, Value.int (-((i : Int) + 1)) _].toArray } : Obj) ∧ PairO (F.sc (-((i : Int) + 1)), -((i : Int) + 1)) oT := ⟨_, rfl, _, _, rfl⟩
    replace S := S.newN cT
    rw [← hoT] at S G6
    have hl2 : HL ((T1, oT) :: N9) (T1 :: TA2) hp ps2 := hl1.more (fun p hp => .tail _ hp) (fun a ha => .tail _ ha)
    replace hx5 : (x, instObj 207 dx) ∈ (T1, oT) :: N9 := .tail _ hx5
    replace hd5 : (dx, od2) ∈ (T1, oT) :: N9 := .tail _ hd5
    replace msc : (sc', o4) ∈ (T1, oT) :: N9 := .tail _ msc
    have mT : (T1, oT) ∈ (T1, oT) :: N9 := .head _
    clear hl1 G5 cT
    generalize (T1, oT) :: N9 = N10 at S G6 hl2 hx5 hd5 msc mT
    walk_at "w"
    refine T_hlpush R S hl2 (by have := hp2.length_eq; simp at this; omega) mT PT (.head _) (fun a ha => (hTn a ha).2) (fun h ps3 o6 hp3 S5 hl1 => ?_)
    have G5 := G6.updA (d := hp) (o := o6) (by simp)
    replace hx5 := mem_upd_of_ne (d := hp) (o := o6) hx5 hxhp
    replace hd5 := mem_upd_of_ne (d := hp) (o := o6) hd5 (Ne.symm hpd)
    replace msc := mem_upd_of_ne (d := hp) (o := o6) msc schp
    clear S G6 hl2
    have S := S5
    clear S5
    generalize Mine.upd N10 hp o6 = N11 at S G5 hl1 hx5 hd5 msc
    generalize T1 :: TA2 = TA3 at G5 hl1 hTn
    walk_at "w"
    refine ⟨_, _, _, S, fun y hy => by simp only [look, if_neg hy], TA3, ps3, _, o4, _, G5, hx5, hd5, hl1, msc, Ds4, by omega, fun l hl hli => ?_, ?_⟩
    · by_cases q : l = -((i : Int) + 1)
      · exact ⟨tz2, by rw [q]; exact hz2⟩
      · by_cases q2 : l = (i : Int) + 1
        · exact ⟨tz1, by rw [q2]; exact hz1⟩
        · obtain ⟨t, ht⟩ := hfsc l hl (by omega)
          exact ⟨t, (hz3 l q2 q).trans ht⟩
    · rw [List.range_succ, List.flatMap_append]
      refine hp3.trans ((List.Perm.append_right _ hp2).trans ?_)
      rw [List.append_assoc]
      refine List.Perm.append hperm ?_
      have : (((i : Int) + 1).natAbs : Int) = (i : Int) + 1 := by omega
      simp only [List.flatMap_cons, List.flatMap_nil, entries, this, List.append_nil]
      exact .refl _
  · obtain ⟨TA, ps, fsc, osc, b2, G5, hx5, hd5, hl1, msc, Dsc, hb2, hfsc, hperm⟩ := hI
    rw [hcnt] at hfsc hperm hb2
    have S := S2
    walk_at "w"
    exact ⟨_, _, _, S, rfl, od2, hp, sc', osc, fsc, ps, TA, G5, hd5, D3, hl1, msc, Dsc.le (by omega), fun l hl => hfsc l hl hl.2, hperm⟩
end
end Mine
end
section
open PySem PySem.W PySem.Calls PyProof.Rows
set_option Elab.async false
set_option maxRecDepth 100000
set_option linter.all false
namespace Mine

set_option hygiene false in
local macro_rules | `(tactic| walk_at "e") => `(tactic| ((with_reducible show T _ (eval _ _) _ _); first
  | ((with_reducible show T _ (eval (Expr.Name _ _) _) _ _); first
    | ((with_reducible show T _ (eval (Expr.Name "len" _) _) _ _); refine N_len S (by k_is) ?_)
    | ((with_reducible show T _ (eval (Expr.Name "abs" _) _) _ _); refine N_abs S (by k_is) ?_)
    | ((with_reducible show T _ (eval (Expr.Name "sorted" _) _) _ _); refine N_sorted S (by k_is) ?_)
    | ((with_reducible show T _ (eval (Expr.Name "list" _) _) _ _); refine N_list S (by k_is) ?_)
    | ((with_reducible show T _ (eval (Expr.Name "range" _) _) _ _); refine N_range S (by k_is) ?_)
    | ((with_reducible show T _ (eval (Expr.Name "set" _) _) _ _); refine N_set S (by k_is) ?_)
    | ((with_reducible show T _ (eval (Expr.Name "enumerate" _) _) _ _); refine N_enumerate S (by k_is) ?_)
    | refine T_loc S (by first | rfl | exact hn1 | exact hn2 | exact hn3 | exact hn4 | exact hn5) ?_
    | refine T_glob S (by k_is) ?_)
  | ((with_reducible show T _ (eval (Expr.Constant (Const.int _) _ _) _) _ _); refine T_int (fun t => ?_))
  | ((with_reducible show T _ (eval (Expr.Attribute _ _ _) _) _ _); refine T_attr ?_)
  | ((with_reducible show T _ (eval (Expr.Subscript _ _ _) _) _ _); refine T_item ?_)
  | ((with_reducible show T _ (eval (Expr.Call (Expr.Attribute _ _ _) _ [] _) _) _ _); refine T_Method ?_)
  | ((with_reducible show T _ (eval (Expr.Call _ _ [] _) _) _ _); refine T_Call ?_)
  | ((with_reducible show T _ (eval (Expr.BinOp _ _ _ _) _) _ _); refine T_binop ?_)
  | ((with_reducible show T _ (eval (Expr.UnaryOp _ _ _) _) _ _); refine T_unop ?_)
  | ((with_reducible show T _ (eval (Expr.Compare _ _ _ _) _) _ _); refine T_cmp ?_)
  | ((with_reducible show T _ (eval (Expr.Constant Const.none _ _) _) _ _); refine T_none ?_)
  | ((with_reducible show T _ (eval (Expr.Constant (Const.bool _) _ _) _) _ _); refine T_bool ?_)
  | ((with_reducible show T _ (eval (Expr.Constant (Const.str _) _ _) _) _ _); refine T_str (fun t => ?_))
  | ((with_reducible show T _ (eval (Expr.Dict [] [] _) _) _ _); refine T_dict0 (fun a h c => ?_))
  | ((with_reducible show T _ (eval (Expr.List _ _) _) _ _); refine T_list ?_)
  | ((with_reducible show T _ (eval (Expr.Tuple _ _ _) _) _ _); refine T_tuple ?_)
  | ((with_reducible show T _ (eval (Expr.BoolOp BoolOp.Or [_, _] _) _) _ _); refine T_or2 ?_)
  | ((with_reducible show T _ (eval (Expr.IfExp _ _ _ _) _) _ _); refine T_ifexp ?_)))
set_option hygiene false in
local macro_rules | `(tactic| walk_at "s") => `(tactic| first
  | ((with_reducible show T _ (execs (_ :: _) _) _ _); refine T_seq ?_)
  | ((with_reducible show T _ (execs [] _) _ _); refine T_nil ?_)
  | ((with_reducible show T _ (exec _ _) _ _); first
    | ((with_reducible show T _ (exec (Stmt.Assign [Expr.Name _ _] _ _) _) _ _); refine T_assign ?_)
    | ((with_reducible show T _ (exec (Stmt.If _ _ _ _) _) _ _); refine T_if ?_)
    | ((with_reducible show T _ (exec (Stmt.Return (some _) _) _) _ _); refine T_return ?_)
    | ((with_reducible show T _ (exec (Stmt.Return none _) _) _ _); refine T_return0 ?_)
    | ((with_reducible show T _ (exec (Stmt.Expr _ _) _) _ _); refine T_expr' ?_)
    | ((with_reducible show T _ (exec (Stmt.Assign [Expr.Attribute _ _ _] _ _) _) _ _); refine T_setattr_stmt ?_)
    | ((with_reducible show T _ (exec (Stmt.Assign [Expr.Subscript _ _ _] _ _) _) _ _); refine T_setitem_stmt ?_)
    | ((with_reducible show T _ (exec (Stmt.For (Expr.Name _ _) _ _ [] _) _) _ _); refine T_for ?_)
    | ((with_reducible show T _ (exec (Stmt.AugAssign (Expr.Name _ _) _ _ _) _) _ _); refine T_aug_name ?_)
    | ((with_reducible show T _ (exec (Stmt.AugAssign (Expr.Subscript _ _ _) _ _ _) _) _ _); refine T_aug_item ?_)
    | ((with_reducible show T _ (exec (Stmt.Pass _) _) _ _); refine T_pass ?_)
    | ((with_reducible show T _ (exec (Stmt.Break _) _) _ _); refine T_break ?_)
    | ((with_reducible show T _ (exec (Stmt.Continue _) _) _ _); refine T_continue ?_))
  | ((with_reducible show T _ (storeName _ _ _) _ _); refine T_store S (fun h S => ?_))
  | ((with_reducible show T _ (isTrue _ _ _) _ _); first
    | ((with_reducible show T _ (isTrue (Expr.Compare _ _ _ _) _ _) _ _); refine T_isTrue_cmp ?_)
    | ((with_reducible show T _ (isTrue (Expr.UnaryOp UnaryOp.Not _ _) _ _) _ _); refine T_isTrue_not ?_)
    | ((with_reducible show T _ (isTrue (Expr.BoolOp BoolOp.Or [_, _] _) _ _) _ _); refine T_isTrue_or2 ?_)
    | ((with_reducible show T _ (isTrue (Expr.BoolOp BoolOp.And [_, _] _) _ _) _ _); refine T_isTrue_and2 ?_)
    | ((with_reducible show T _ (isTrue (Expr.BoolOp BoolOp.And [_, _, _] _) _ _) _ _); refine T_isTrue_and3 ?_)
    | (refine T_isTrue_val ?_))
  | ((with_reducible show T _ (truthy (Value.bool _)) _ _); refine T_truthy_bool ?_)
  | ((with_reducible show T _ (truthy (Value.int _ _)) _ _); refine T_truthy_int ?_)
  | ((with_reducible show T _ (truthy Value.none) _ _); refine T_truthy_none ?_)
  | ((with_reducible show T _ (PySem.call (Value.builtin "abs") ([] ++ [Value.int _ _])) _ _); refine T_abs (fun t => ?_))
  | ((with_reducible show Args _ _ (_ :: _) _ _); refine Args_cons ?_)
  | ((with_reducible show Args _ _ [] _ _); refine Args_nil ?_)
  | ((with_reducible show T _ (callWith _ (Value.builtin _) _ _ _) _ _); refine CW_bi ?_)
  | ((with_reducible show T _ (callWith _ (Value.type _) _ _ _) _ _); refine CW_ty ?_)
  | ((with_reducible show T _ (binaryOp Operator.Add (Value.int _ _) (Value.int _ _)) _ _); refine T_add (fun t => ?_))
  | ((with_reducible show T _ (binaryOp Operator.Sub (Value.int _ _) (Value.int _ _)) _ _); refine T_sub (fun t => ?_))
  | ((with_reducible show T _ (unaryOp UnaryOp.USub (Value.int _ _)) _ _); refine T_neg (fun t => ?_))
  | ((with_reducible show T _ (compareOp CmpOp.Eq (Value.int _ _) (Value.int _ _)) _ _); refine T_eq ?_)
  | ((with_reducible show T _ (compareOp CmpOp.NotEq (Value.int _ _) (Value.int _ _)) _ _); refine T_ne ?_)
  | ((with_reducible show T _ (compareOp CmpOp.Lt (Value.int _ _) (Value.int _ _)) _ _); refine T_lt ?_)
  | ((with_reducible show T _ (compareOp CmpOp.Gt (Value.int _ _) (Value.int _ _)) _ _); refine T_gt ?_)
  | ((with_reducible show T _ (compareOp CmpOp.Is _ Value.none) _ _); refine T_is_none ?_)
  | ((with_reducible show T _ (compareOp CmpOp.IsNot _ Value.none) _ _); refine T_isnot_none ?_)
  | walk_at "e")
set_option hygiene false in
local macro_rules | `(tactic| walk_at "w") => `(tactic| repeat (walk_at "s"))
theorem fill_fragI4 : (PySem.Challenge.rw_at6042_01, Mine.hd.heap_39) = (PySem.Challenge.rw_at6042_01, Mine.hd.heap_39) := by k_fill; rfl
section
variable {κ : Kx}
theorem A_heur : AttrOk (hd.heap_39 κ.w.params) 207 "heuristic" := ⟨by k_is, by k_is, ⟨none, by k_is, by k_is⟩, by k_is, by k_is, by k_is⟩
theorem A_upf : AttrOk (hd.heap_39 κ.w.params) 207 "update_functions" := ⟨by k_is, by k_is, ⟨none, by k_is, by k_is⟩, by k_is, by k_is, by k_is⟩
theorem A_intv : AttrOk (hd.heap_39 κ.w.params) 207 "INTERVAL" := ⟨by k_is, by k_is, ⟨none, by k_is, by k_is⟩, by k_is, by k_is, by k_is⟩
theorem A_sym : AttrOk (hd.heap_39 κ.w.params) 207 "symbols" := ⟨by k_is, by k_is, ⟨none, by k_is, by k_is⟩, by k_is, by k_is, by k_is⟩
theorem A_learn : AttrOk (hd.heap_39 κ.w.params) 207 "learning" := ⟨by k_is, by k_is, ⟨none, by k_is, by k_is⟩, by k_is, by k_is, by k_is⟩
theorem A_nd : AttrOk (hd.heap_39 κ.w.params) 207 "num_decisions" := ⟨by k_is, by k_is, ⟨none, by k_is, by k_is⟩, by k_is, by k_is, by k_is⟩
theorem A_nl : AttrOk (hd.heap_39 κ.w.params) 207 "num_learned_clauses" := ⟨by k_is, by k_is, ⟨none, by k_is, by k_is⟩, by k_is, by k_is, by k_is⟩
theorem A_oc2 : AttrOk (hd.heap_39 κ.w.params) 207 "original_num_clauses" := ⟨by k_is, by k_is, ⟨none, by k_is, by k_is⟩, by k_is, by k_is, by k_is⟩
theorem L_vars : AttrOk (hd.heap_39 κ.w.params) 229 "varsettings" := ⟨by k_is, by k_is, ⟨none, by k_is, by k_is⟩, by k_is, by k_is, by k_is⟩
end
theorem Grow.trans {N N1 N2 : Ledger} {dx : Addr} {A B : List Addr} (G : Grow N N1 dx A) (G' : Grow N1 N2 dx B) : Grow N N2 dx (B ++ A) :=
  ⟨fun p hp hne => G'.old p (G.old p hp hne) hne, by rw [G'.map, G.map, List.append_assoc], G'.nd⟩
def mkAdr (x dx ca sd vsA va qa hp sc lv li ld ls : Addr) (ra : Nat → Addr) (sa : Int → Addr) : Role → Addr
  | .inst => x | .dict => dx | .cl => ca | .row i => ra i | .sd => sd | .sent l => sa l | .vs => vsA | .vset => va | .q => qa | .hp => hp | .sc => sc | .lv => lv | .lvI _ => li | .lvD _ => ld | .lvS _ => ls
/-- the solver but for two dicts -/
structure Parts (w : World) (F : Fix) (N : Ledger) (adr : Role → Addr) (st : SS) (od odl : Obj) : Prop where
  has : ∀ r, live F st r → r ≠ .dict → r ≠ .lvD 0 → ∃ o, (adr r, o) ∈ N ∧ P w F adr st r o
  dict : (adr .dict, od) ∈ N
  lvD : (adr (.lvD 0), odl) ∈ N
  lev : 0 < st.lev.length
  inj : ∀ r r', live F st r → live F st r' → adr r = adr r' → r = r'
  hp : ∃ vs o, (adr .hp, o) ∈ N ∧ LsO vs o ∧ vs.length = st.hp.length ∧ ∀ (i : Nat) v, vs[i]? = some v → ∃ T oT, v = .ref T ∧ (T, oT) ∈ N ∧ PairO (gp st.hp i) oT ∧ ∀ r, live F st r → adr r ≠ T
  heap : IsHeap st.hp
theorem Parts.sol {w : World} {F : Fix} {N : Ledger} {adr : Role → Addr} {st : SS} {od odl : Obj} (x : Parts w F N adr st od odl) (h1 : P w F adr st .dict od) (h2 : P w F adr st (.lvD 0) odl) : Sol w F N adr st := by
  refine ⟨fun r hr => ?_, x.inj, x.hp, x.heap⟩
  by_cases e : r = .dict
  · subst e; exact ⟨od, x.dict, h1⟩
  · by_cases e2 : r = .lvD 0
    · subst e2; exact ⟨odl, x.lvD, h2⟩
    · exact x.has r hr e e2
theorem Parts.updD {w : World} {F : Fix} {N : Ledger} {adr : Role → Addr} {st : SS} {od od' odl : Obj} (x : Parts w F N adr st od odl) : Parts w F (Mine.upd N (adr .dict) od') adr st od' odl := by
  have hne : ∀ r, live F st r → r ≠ .dict → adr r ≠ adr .dict := fun r hr h e => h (x.inj _ _ hr trivial e)
  refine ⟨fun r hr h1 h2 => ?_, mem_upd_self x.dict, mem_upd_of_ne x.lvD (hne _ x.lev (by decide)), x.lev, x.inj, ?_, x.heap⟩
  · obtain ⟨o, a, b⟩ := x.has r hr h1 h2
    exact ⟨o, mem_upd_of_ne a (hne r hr h1), b⟩
  · obtain ⟨vs, o, a, b, c, d⟩ := x.hp
    exact ⟨vs, o, mem_upd_of_ne a (hne .hp trivial (by decide)), b, c, fun i v hi => let ⟨T, oT, e1, e2, e3, e4⟩ := d i v hi; ⟨T, oT, e1, mem_upd_of_ne e2 (Ne.symm (e4 .dict trivial)), e3, e4⟩⟩
theorem Parts.updL {w : World} {F : Fix} {N : Ledger} {adr : Role → Addr} {st : SS} {od odl odl' : Obj} (x : Parts w F N adr st od odl) : Parts w F (Mine.upd N (adr (.lvD 0)) odl') adr st od odl' := by
  have hl : live F st (.lvD 0) := x.lev
  have hne : ∀ r, live F st r → r ≠ .lvD 0 → adr r ≠ adr (.lvD 0) := fun r hr h e => h (x.inj _ _ hr hl e)
  refine ⟨fun r hr h1 h2 => ?_, mem_upd_of_ne x.dict (hne _ trivial (by decide)), mem_upd_self x.lvD, x.lev, x.inj, ?_, x.heap⟩
  · obtain ⟨o, a, b⟩ := x.has r hr h1 h2
    exact ⟨o, mem_upd_of_ne a (hne r hr h2), b⟩
  · obtain ⟨vs, o, a, b, c, d⟩ := x.hp
    exact ⟨vs, o, mem_upd_of_ne a (hne .hp trivial (by decide)), b, c, fun i v hi => let ⟨T, oT, e1, e2, e3, e4⟩ := d i v hi; ⟨T, oT, e1, mem_upd_of_ne e2 (Ne.symm (e4 (.lvD 0) hl)), e3, e4⟩⟩
section
variable {κ : Kx} {F : Fix} {h H : Heap} {L : Addr} {l : List (Str × Value)} {N M X : Ledger} {n : Nat}
theorem St.keepHid (S : St κ.w H L l N X h) : Keep H (hid h N) := fun b o e => hid_get (S.keep b o e) fun q => by
  obtain ⟨p, hp, rfl⟩ := List.mem_map.mp q
  rw [(S.n p hp).2.2] at e; cases e
theorem inj_of_nodup {α β : Type} {f : α → β} {l : List α} (h : (l.map f).Nodup) : ∀ a ∈ l, ∀ b ∈ l, f a = f b → a = b := by
  induction l with
  | nil => intro a ha; cases ha
  | cons c r ih =>
    rw [List.map_cons, List.nodup_cons] at h
    intro a ha b hb e
    rcases List.mem_cons.mp ha with h1 | h1
    · rcases List.mem_cons.mp hb with h2 | h2
      · rw [h1, h2]
      · exact absurd (List.mem_map_of_mem (f := f) h2) (by rw [← e, h1]; exact h.1)
    · rcases List.mem_cons.mp hb with h2 | h2
      · exact absurd (List.mem_map_of_mem (f := f) h1) (by rw [e, h2]; exact h.1)
      · exact ih h.2 a h1 b h2 e
theorem T_eq_str {a b : Str} {t u : Tok} {Q : Value → Heap → Prop} (q : Q (.bool (a == b)) h) : T κ (compareOp .Eq (.str a t) (.str b u)) Q h := fun d tk => PyProof.Rows.eq_str ⟨rfl, rfl, q⟩
/-- a name of the solver under way -/
theorem T_pdict {adr : Role → Addr} {st : SS} {od odl : Obj} {f : Str → Option Value} {m : Nat} {name : Str} {v : Value} {Q : Unit → Heap → Prop} (S : St κ.w H L l N X h) (PA : Parts κ.w F N adr st od odl) (ok : AttrOk (hd.heap_39 κ.w.params) 207 name) (D : DictA f m od) (hm : m ≤ 90)
    (q : ∀ h' od' N', St κ.w H L l N' X h' → Parts κ.w F N' adr st od' odl → DictA (fun y => if y = name then some v else f y) (m + 1) od' → Q () h') : T κ (setAttr (.ref (adr .inst)) name v) Q h := by
  obtain ⟨o1, m1, rfl⟩ := PA.has .inst trivial (by decide) (by decide)
  exact T_setAttr S.kin ok (S.gn m1) D (S.gn PA.dict) (by omega) fun h' od' D' c => q h' od' _ (S.updN PA.dict c) PA.updD (D'.le (by split <;> omega))
/-- `Level(dec)` -/
theorem T_newlevel0 {dec : Int} {td : Tok} {Q : Value → Heap → Prop} (R : Room κ (n + 4)) (S : St κ.w H L l N X h)
    (q : ∀ x dx N' h' h0, h.get? x = none → h.get? dx = none → x ≠ dx → Keep h h0 → h0.get? x = some (instObj 229 dx) → h0.get? dx = some emptyDict → LevMade κ.w h0 ((x, instObj 229 dx) :: (dx, emptyDict) :: N) N' x dx dec false → St κ.w H L l N' X h' → Q (.ref x) h') :
    T κ (PySem.call (.ref 229) [.int dec td]) Q h := by
  refine T.call (C_make (fI := 226) S.kin (by k_is) (by k_is) (by k_is) fun x dx h0 f1 f2 ne k e1 e2 => ?_)
  have hL : ∀ {a : Addr}, h.get? a = none → a ≠ L := fun f e => by obtain ⟨o, ho⟩ := S.liveL; rw [← e, f] at ho; cases ho
  have hX : ∀ {a : Addr}, h.get? a = none → ∀ p ∈ X, p.1 ≠ a := fun f p hp e => by have := S.gx hp; rw [e, f] at this; cases this
  have S1 : St κ.w H L l ((dx, emptyDict) :: N) X h0 := ((S.keeps k).swap.addX e2 (hL f2) (S.freshH f2) (hX f2)).swap
  have S2 : St κ.w H L l ((x, instObj 229 dx) :: (dx, emptyDict) :: N) X h0 := (S1.swap.addX e1 (hL f1) (S.freshH f1) (hX f1)).swap
  have c := linit_spec (κ := κ.made (.builtin "type.__call__" ⟨.ref 229 :: [.int dec td], []⟩)) (n := n + 1) (h := h0) (N := (x, instObj 229 dx) :: (dx, emptyDict) :: N) R.made S2.topN S2.ledN (.head _) (.tail _ (.head _)) ne (dec := dec) (td := td)
  refine c.mono fun v h' ⟨N', led, kb, ni, e, p⟩ => ⟨e, q x dx N' h' h0 f1 f2 ne k e1 e2 p (S2.out led kb ni)⟩
set_option maxHeartbeats 4000000 in
theorem sinit_spec (R : Room κ (n + 12)) {x dx cl rg vsA sy : Addr} {ovs : Obj} {t u v : Tok} (top : TopIn κ.w (hid h [(x, instObj 207 dx), (dx, emptyDict), (vsA, ovs)])) (led : Led h [(x, instObj 207 dx), (dx, emptyDict), (vsA, ovs)]) (hnd : ([(x, instObj 207 dx), (dx, emptyDict), (vsA, ovs)].map (·.1)).Nodup)
    (RO : RowsOk F) (hrl : F.rows.length ≤ 6) (hlen : ∀ r ∈ F.rows, r.length ≤ 3) (hmany : 1 ≤ F.many ∧ F.many ≤ 20) (scok : ScOk F)
    (hr : RowsH (hid h [(x, instObj 207 dx), (dx, emptyDict), (vsA, ovs)]) cl F.rows) (er : (hid h [(x, instObj 207 dx), (dx, emptyDict), (vsA, ovs)]).get? rg = some (rangeO 1 ((F.many : Int) + 1) t u v)) (Dvs : SetO κ.w [] ovs) :
    C κ (.call (.ref 78) ⟨[.ref x, .ref cl, .ref rg, .ref vsA, .ref sy], []⟩) (Out h [(x, instObj 207 dx), (dx, emptyDict), (vsA, ovs)] fun v N' => v = .none ∧ ∃ adr st, adr .inst = x ∧ Sol κ.w F N' adr st ∧ st.vs = [] ∧ (∀ k, st.vset k = false) ∧ InitS F F.rows.length st.q st.sent ∧ st.bad = false ∧ st.lev = [⟨0, [], false⟩] ∧
      st.hp.Perm ((List.range F.many).flatMap fun (k : Nat) => entries F ((k : Int) + 1))) h := by
  generalize hN : ([(x, instObj 207 dx), (dx, emptyDict), (vsA, ovs)] : Ledger) = N at *
  have hmap : N.map (·.1) = [x, dx, vsA] := by rw [← hN]; rfl
  have hx0 : (x, instObj 207 dx) ∈ N := by rw [← hN]; exact .head _
  have hd0 : (dx, emptyDict) ∈ N := by rw [← hN]; exact .tail _ (.head _)
  have hv0 : (vsA, ovs) ∈ N := by rw [← hN]; exact .tail _ (.tail _ (.head _))
  have hdis : x ≠ dx ∧ x ≠ vsA ∧ dx ≠ vsA := by rw [hmap] at hnd; simp at hnd; exact ⟨hnd.1.1, hnd.1.2, hnd.2⟩
  clear hN
  obtain ⟨hne, hxv, hdv⟩ := hdis
  refine C_def [("self", .ref x), ("clauses", .ref cl), ("variables", .ref rg), ("var_settings", .ref vsA), ("symbols", .ref sy), ("heuristic", .str "vsids" 359), ("clause_learning", .str "none" 360), ("INTERVAL", .int 500 361)] _ (n := n + 11) R top led (by k_is) (by k_is) (fun s hs => ?_) (locs rfl) rfl (fun κ L h₁ ew S R => ?_)
  · subst hs
    exact binds_K (top.keep hid_sub).k rfl (by k_is) rfl (by rfl) (by rfl)
  clear led
  rw [← ew] at top Dvs
  generalize hid h N = G at S top hr er ⊢
  have hdm : dx ∈ N.map (·.1) := List.mem_map_of_mem (f := (·.1)) hd0
  have G0 : Grow N N dx [] := Grow.refl hnd
  have D0 : DictA (fun _ => none) 0 emptyDict := DictA.new
  have hx := hx0
  have hd := hd0
  walk_at "w"
  refine T_put S G0 A_vs hx hd hne D0 (by omega) fun h od1 S5 G1 hx2 hd2 D1 k2 => ?_
  clear S hx hd k2
  have S := S5
  have hx := hx2
  have hd := hd2
  clear S5 hx2 hd2 G0 D0
  generalize Mine.upd _ dx od1 = N1 at S G1 hx hd 
  walk_at "w"
  refine T_put S G1 A_heur hx hd hne D1 (by omega) fun h od2 S5 G2 hx2 hd2 D2 k2 => ?_
  clear S hx hd k2
  have S := S5
  have hx := hx2
  have hd := hd2
  clear S5 hx2 hd2 G1 D1
  generalize Mine.upd _ dx od2 = N2 at S G2 hx hd 
  walk_at "w"
  refine T_put S G2 A_bad hx hd hne D2 (by omega) fun h od3 S5 G3 hx2 hd2 D3 k2 => ?_
  clear S hx hd k2
  have S := S5
  have hx := hx2
  have hd := hd2
  clear S5 hx2 hd2 G2 D2
  generalize Mine.upd _ dx od3 = N3 at S G3 hx hd 
  walk_at "w"
  refine ⟨by decide, fun qa h cq => ?_⟩
  have G3' : Grow N ((qa, lso [] 0) :: N3) dx [qa] := G3.new S cq
  replace S : St κ.w G L _ ((qa, lso [] 0) :: N3) _ _ := S.newN cq
  have mq : (qa, lso [] 0) ∈ (qa, lso [] 0) :: N3 := .head _
  replace hx : (x, instObj 207 dx) ∈ (qa, lso [] 0) :: N3 := .tail _ hx
  replace hd : (dx, od3) ∈ (qa, lso [] 0) :: N3 := .tail _ hd
  clear G3
  have G3 := G3'
  clear G3' cq
  have hqd : qa ≠ dx := G3.ne hdm (.head _)
  generalize (qa, lso [] 0) :: N3 = N3' at S G3 mq hx hd
  walk_at "w"
  refine T_put S G3 A_q hx hd hne D3 (by omega) fun h od4 S5 G4 hx2 hd2 D4 k2 => ?_
  replace mq := k2 _ mq hqd
  clear S hx hd k2
  have S := S5
  have hx := hx2
  have hd := hd2
  clear S5 hx2 hd2 G3 D3
  generalize Mine.upd _ dx od4 = N4 at S G4 hx hd mq
  walk_at "w"
  refine ⟨by decide, fun uf h cu => ?_⟩
  replace S := S.new cu
  walk_at "w"
  refine T_put S G4 A_upf hx hd hne D4 (by omega) fun h od5 S5 G5 hx2 hd2 D5 k2 => ?_
  replace mq := k2 _ mq hqd
  clear S hx hd k2
  have S := S5
  have hx := hx2
  have hd := hd2
  clear S5 hx2 hd2 G4 D4
  generalize Mine.upd _ dx od5 = N5 at S G5 hx hd mq
  walk_at "w"
  refine T_put S G5 A_intv hx hd hne D5 (by omega) fun h od6 S5 G6 hx2 hd2 D6 k2 => ?_
  replace mq := k2 _ mq hqd
  clear S hx hd k2
  have S := S5
  have hx := hx2
  have hd := hd2
  clear S5 hx2 hd2 G5 D5
  generalize Mine.upd _ dx od6 = N6 at S G6 hx hd mq
  walk_at "w"
  refine ⟨fun hb => (by cases hb), fun _ => ?_⟩
  walk_at "w"
  refine T_put S G6 A_sym hx hd hne D6 (by omega) fun h od7 S5 G7 hx2 hd2 D7 k2 => ?_
  replace mq := k2 _ mq hqd
  clear S hx hd k2
  have S := S5
  have hx := hx2
  have hd := hd2
  clear S5 hx2 hd2 G6 D6
  generalize Mine.upd _ dx od7 = N7 at S G7 hx hd mq
  walk_at "w"
  refine T_getMethod S.kin K_iv (S.gn hx) D7 (S.gn hd) rfl ?_
  refine CW_K (by k_is) ?_
  walk_at "w"
  refine ⟨S.kin, T_out S (initvars_spec (n := n + 5) (R.le (by omega)) S.topN S.ledN hx hd hne D7 (by omega) (S.keepHid _ _ er) hmany G7.nd) fun vv N8 h8 z S2 => ?_⟩
  obtain ⟨rfl, od8, sd, oc, va, osd, ooc, ova, fs, fo, sa, old8, hd8, D8, msd, Dsd, moc, Doc, mva, Lva, hfo, hfs, map8, nd8⟩ := z
  have hlit : ∀ l, IsLit F l → l ∈ litsOf F.many := fun l hl => mem_litsOf.mpr hl
  have G8 : Grow N N8 dx ((va :: oc :: sd :: ((litsOf F.many).map sa).reverse) ++ [qa]) := G7.trans ⟨old8, map8, nd8⟩
  replace mq := old8 _ mq hqd
  replace hx := old8 _ hx hne
  replace hd := hd8
  clear S D7 hd8 old8 map8
  have S := S2
  clear S2
  have hn8 := G8.nd
  rw [G8.map, hmap] at hn8
  have h81 := List.nodup_append.mp hn8
  have h82 := List.nodup_append.mp h81.1
  have hsn : ((litsOf F.many).map sa).Nodup := by
    have := h82.1
    rw [List.nodup_cons, List.nodup_cons, List.nodup_cons, (List.reverse_perm _).nodup_iff] at this
    exact this.2.2.2
  have hsinj : ∀ l l', IsLit F l → IsLit F l' → sa l = sa l' → l = l' := fun l l' h1 h2 e => inj_of_nodup hsn l (hlit l h1) l' (hlit l' h2) e
  have hsam : ∀ l, IsLit F l → sa l ∈ ((litsOf F.many).map sa).reverse := fun l hl => List.mem_reverse.mpr (List.mem_map_of_mem (hlit l hl))
  have hA : ∀ a ∈ (va :: oc :: sd :: ((litsOf F.many).map sa).reverse) ++ [qa], a ≠ x ∧ a ≠ dx ∧ a ≠ vsA := fun a ha => ⟨h81.2.2 a ha x (by simp), h81.2.2 a ha dx (by simp), h81.2.2 a ha vsA (by simp)⟩
  have hQ : ∀ a ∈ va :: oc :: sd :: ((litsOf F.many).map sa).reverse, a ≠ qa := fun a ha => h82.2.2 a ha qa (by simp)
  have hocs : oc ≠ sd ∧ ∀ l, IsLit F l → sa l ≠ oc ∧ sa l ≠ sd := by
    have := h82.1
    rw [List.nodup_cons, List.nodup_cons, List.nodup_cons] at this
    exact ⟨fun e => this.2.1 (by rw [e]; simp), fun l hl => ⟨fun e => this.2.1 (.tail _ (e ▸ hsam l hl)), fun e => this.2.2.1 (e ▸ hsam l hl)⟩⟩
  have hs8 : ∀ l, IsLit F l → fs l = some (.ref (sa l)) ∧ ∃ o, (sa l, o) ∈ N8 ∧ SetO κ.w [] o := fun l hl => hfs l (hlit l hl)
  walk_at "w"
  refine T_getMethod S.kin K_ic (S.gn hx) D8 (S.gn hd) rfl ?_
  refine CW_K (by k_is) ?_
  walk_at "w"
  refine ⟨S.kin, T_out S (initclauses_spec (F := F) (n := n + 5) (R.le (by omega)) S.topN S.ledN RO hrl hlen hx hd D8 (by omega) (hr.keep S.keepHid) rfl rfl rfl mq ⟨[], LsO.new [], .nil⟩ msd Dsd hs8 moc Doc (fun l hl => hfo l (hlit l hl)) G8.nd hne
    ⟨Ne.symm fun e => (hA qa (by simp)).1 e.symm, (hA qa (by simp)).2.1, Ne.symm (hQ sd (by simp)), Ne.symm (hQ oc (by simp)), (hA oc (by simp)).1, (hA oc (by simp)).2.1, hocs.1, (hA sd (by simp)).2.1⟩
    (fun l hl => ⟨(hA _ (List.mem_append_left _ (.tail _ (.tail _ (.tail _ (hsam l hl)))))).1, (hA _ (List.mem_append_left _ (.tail _ (.tail _ (.tail _ (hsam l hl)))))).2.1, (hocs.2 l hl).2, (hocs.2 l hl).1, hQ _ (.tail _ (.tail _ (.tail _ (hsam l hl))))⟩) hsinj) fun vv N9 h9 z S2 => ?_⟩
  obtain ⟨rfl, od9, ca, oca, q9, s9, fo9, b9, ra, C9, I9, D9, Lca, hb9, hfo9, nd9⟩ := z
  clear S D8
  have S := S2
  clear S2
  have hqN : ∀ {p : Addr × Obj}, p ∈ N → p.1 ∈ [x, dx, vsA] := fun {p} hp => by rw [← hmap]; exact List.mem_map_of_mem hp
  have G9 : Grow N N9 dx ((ca :: ((List.range F.rows.length).map ra).reverse) ++ ((va :: oc :: sd :: ((litsOf F.many).map sa).reverse) ++ [qa])) := by
    refine ⟨fun p hp hpd => C9.old p (G8.old p hp hpd) hpd (fun e => ?_) (fun e => ?_) (fun l hl e => ?_), by rw [C9.map, G8.map]; simp, nd9⟩
    · exact h81.2.2 qa (by simp) p.1 (by rw [← hmap]; exact List.mem_map_of_mem hp) e.symm
    · exact h81.2.2 oc (by simp) p.1 (by rw [← hmap]; exact List.mem_map_of_mem hp) e.symm
    · exact h81.2.2 (sa l) (List.mem_append_left _ (.tail _ (.tail _ (.tail _ (hsam l hl))))) p.1 (by rw [← hmap]; exact List.mem_map_of_mem hp) e.symm
  have hvad : va ≠ dx := (hA va (by simp)).2.1
  have hocd : oc ≠ dx := (hA oc (by simp)).2.1
  have mva9 : (va, ova) ∈ N9 := C9.old _ mva hvad (hQ va (by simp)) (fun e => by
      have e : va = oc := e
      have := h82.1
      rw [List.nodup_cons] at this
      exact this.1 (by rw [e]; simp)) (fun l hl e => by
      have e : va = sa l := e
      have := h82.1
      rw [List.nodup_cons] at this
      exact this.1 (by rw [e]; exact .tail _ (.tail _ (hsam l hl))))
  replace hx := C9.inst
  replace hd := C9.dict
  obtain ⟨ooc9, moc9, Doc9⟩ := C9.oc
  walk_at "w"
  refine T_eq_str ?_
  walk_at "w"
  refine ⟨fun _ => ?_, fun hb => absurd hb (by decide)⟩
  walk_at "w"
  refine T_getMethod S.kin K_vi (S.gn hx) D9 (S.gn hd) rfl ?_
  refine CW_K (by k_is) ?_
  walk_at "w"
  refine ⟨S.kin, T_out S (vsinit_spec (F := F) (n := n + 5) (R.le (by omega)) S.topN S.ledN scok hmany.2 hx hd D9 (by omega) rfl rfl mva9 Lva moc9 Doc9 hfo9 nd9 hne hvad hocd) fun vv N10 h10 z S2 => ?_⟩
  obtain ⟨rfl, od10, hp, sc, osc, fsc, ps, TA, G10', hd10, D10, HL10, msc, Dsc, hsc, hperm⟩ := z
  clear S D9
  have S := S2
  clear S2
  have G10 := G9.trans G10'
  have k10 : ∀ {p : Addr × Obj}, p ∈ N9 → p.1 ≠ dx → p ∈ N10 := fun {p} hp hne => G10'.old p hp hne
  replace hx := k10 hx hne
  replace hd := hd10
  walk_at "w"
  refine T_eq_str ?_
  walk_at "w"
  refine ⟨fun hb => absurd hb (by decide), fun _ => ?_⟩
  walk_at "w"
  refine T_eq_str ?_
  walk_at "w"
  refine ⟨fun _ => ?_, fun hb => absurd hb (by decide)⟩
  walk_at "w"
  refine T_put S G10 A_learn hx hd hne D10 (by omega) fun h od11 S5 G11 hx2 hd2 D11 k11 => ?_
  have hTA : ∀ a ∈ TA ++ [sc, hp], a ≠ dx := fun a ha => G10.ne hdm (List.mem_append_left _ ha)
  have k11' : ∀ {p : Addr × Obj}, p ∈ N9 → p.1 ≠ dx → p ∈ Mine.upd N10 dx od11 := fun {p} hp hne => k11 p (k10 hp hne) hne
  have HL11 : HL (Mine.upd N10 dx od11) TA hp ps := HL10.upd (hTA hp (by simp)) (fun a ha => hTA a (List.mem_append_left _ ha))
  have msc11 := k11 _ msc (hTA sc (by simp))
  clear S hx hd k11 HL10 msc D10
  have S := S5
  have hx := hx2
  have hd := hd2
  clear S5 hx2 hd2
  generalize Mine.upd N10 dx od11 = N11 at S G11 hx hd HL11 msc11 k11'
  walk_at "w"
  refine CW_K (by k_is) ?_
  walk_at "w"
  refine ⟨S.kin, T_newlevel0 (n := n + 3) (R.le (by omega)) S fun li ld N12 h12 h0 f1 f2 ne1 kk e1 e2 lm S2 => ?_⟩
  have mem1 : ∀ p ∈ N11, p ∈ N12 := fun p hp => lm.old p (.tail _ (.tail _ hp)) fun e => by have := S.gn hp; rw [e, f2] at this; cases this
  obtain ⟨ls, os, odl, fl, ml, ms, Ds, md, hml, Dfl, g1, g2, g3, f3⟩ := lm.made
  have mli := lm.inst
  have fr3 : ∀ {a : Addr} {o : Obj}, (a, o) ∈ N11 → a ≠ ls := fun {a o} hm e => by have := kk _ _ (S.gn hm); rw [e, f3] at this; cases this
  have nxs : li ≠ ls := fun e => by rw [← e, e1] at f3; cases f3
  have nds : ld ≠ ls := fun e => by rw [← e, e2] at f3; cases f3
  have hfr : ∀ a ∈ N11.map (·.1), a ≠ li ∧ a ≠ ld ∧ a ≠ ls := fun a ha => by
    obtain ⟨p, hp, rfl⟩ := List.mem_map.mp ha
    exact ⟨(fun e => by have := S.gn hp; rw [e, f1] at this; cases this), (fun e => by have := S.gn hp; rw [e, f2] at this; cases this), fr3 hp⟩
  clear S lm
  have S := S2
  clear S2
  walk_at "w"
  refine ⟨by show 1 ≤ sizeLine; decide, fun lv h clv => ?_⟩
  have lvfr : ∀ p ∈ N12, p.1 ≠ lv := fun p hp e => by have := S.gn hp; rw [e, clv.fresh] at this; cases this
  replace S : St κ.w G L _ ((lv, lso [.ref li] 0) :: N12) _ _ := S.newN clv
  walk_at "w"
  refine T_setAttr S.kin A_lv (S.gn (.tail _ (mem1 _ hx))) D11 (S.gn (.tail _ (mem1 _ hd))) (by omega) (fun h od14 D14 c14 => ?_)
  replace S := S.updN (.tail _ (mem1 _ hd)) c14
  replace D14 := D14.le (m := 30) (ite_le (by omega) (by omega))
  have lvd : lv ≠ dx := Ne.symm (lvfr _ (mem1 _ hd))
  have k14 : ∀ {p : Addr × Obj}, p ∈ N11 → p.1 ≠ dx → p ∈ Mine.upd ((lv, lso [.ref li] 0) :: N12) dx od14 := fun {p} hp hne => mem_upd_of_ne (.tail _ (mem1 p hp)) hne
  have hdN11 : dx ∈ N11.map (·.1) := List.mem_map_of_mem (f := (·.1)) hd
  have lid : li ≠ dx := Ne.symm (hfr dx hdN11).1
  have ldd : ld ≠ dx := Ne.symm (hfr dx hdN11).2.1
  have lsd : ls ≠ dx := Ne.symm (hfr dx hdN11).2.2
  have mlv14 : (lv, lso [.ref li] 0) ∈ Mine.upd ((lv, lso [.ref li] 0) :: N12) dx od14 := mem_upd_of_ne (.head _) lvd
  have mli14 : (li, instObj 229 ld) ∈ Mine.upd ((lv, lso [.ref li] 0) :: N12) dx od14 := mem_upd_of_ne (.tail _ mli) lid
  have mld14 : (ld, odl) ∈ Mine.upd ((lv, lso [.ref li] 0) :: N12) dx od14 := mem_upd_of_ne (.tail _ md) ldd
  have mls14 : (ls, os) ∈ Mine.upd ((lv, lso [.ref li] 0) :: N12) dx od14 := mem_upd_of_ne (.tail _ ms) lsd
  have hx14 := k14 hx hne
  have hd14 : (dx, od14) ∈ Mine.upd ((lv, lso [.ref li] 0) :: N12) dx od14 := mem_upd_self (.tail _ (mem1 _ hd))
  have HL14 : HL (Mine.upd ((lv, lso [.ref li] 0) :: N12) dx od14) TA hp ps := (HL11.more (fun p hp => .tail _ (mem1 p hp)) (fun a ha => ha)).upd (hTA hp (by simp)) (fun a ha => hTA a (List.mem_append_left _ ha))
  have k9 : ∀ {p : Addr × Obj}, p ∈ N9 → p.1 ≠ dx → p ∈ Mine.upd ((lv, lso [.ref li] 0) :: N12) dx od14 := fun {p} hp hne => k14 (k11' hp hne) hne
  have msc14 := k14 msc11 (hTA sc (by simp))
  have lvm : lv ∉ li :: ld :: ls :: N11.map (·.1) := fun hm => by
    rcases List.mem_cons.mp hm with e | hm
    · exact lvfr _ mli e.symm
    · rcases List.mem_cons.mp hm with e | hm
      · exact lvfr _ md e.symm
      · rcases List.mem_cons.mp hm with e | hm
        · exact lvfr _ ms e.symm
        · obtain ⟨p, hp, e⟩ := List.mem_map.mp hm
          exact lvfr _ (mem1 p hp) e
  generalize Mine.upd ((lv, lso [.ref li] 0) :: N12) dx od14 = N14 at S k14 mlv14 mli14 mld14 mls14 hx14 hd14 HL14 k9 msc14
  have hadr : ∃ adr, adr = mkAdr x dx ca sd vsA va qa hp sc lv li ld ls ra sa := ⟨_, rfl⟩
  obtain ⟨adr, hadr⟩ := hadr
  have hst : ∃ st : SS, st = ⟨[], fun _ => false, s9, q9, false, ps, [⟨0, [], false⟩]⟩ := ⟨_, rfl⟩
  obtain ⟨st, hst⟩ := hst
  have s1 : st.vs = [] := by rw [hst]
  have s2 : st.vset = fun _ => false := by rw [hst]
  have s3 : st.sent = s9 := by rw [hst]
  have s4 : st.q = q9 := by rw [hst]
  have s5 : st.bad = false := by rw [hst]
  have s6 : st.hp = ps := by rw [hst]
  have s7 : st.lev = [⟨0, [], false⟩] := by rw [hst]
  -- the roles
  obtain ⟨RL2, hRL2⟩ : ∃ RL2 : List Role, RL2 = [.sc, .hp] ++ ((.cl :: ((List.range F.rows.length).map .row).reverse) ++ ((.vset :: .sd :: ((litsOf F.many).map .sent).reverse) ++ [.q, .inst, .dict, .vs])) := ⟨_, rfl⟩
  have hRm : RL2.map adr = [sc, hp] ++ ((ca :: ((List.range F.rows.length).map ra).reverse) ++ ((va :: sd :: ((litsOf F.many).map sa).reverse) ++ [qa, x, dx, vsA])) := by
    rw [hRL2, hadr]
    simp only [List.map_append, List.map_cons, List.map_nil, List.map_reverse, List.map_map, mkAdr]
    rfl
  have hmap11 : N11.map (·.1) = TA ++ ([sc, hp] ++ ((ca :: ((List.range F.rows.length).map ra).reverse) ++ ((va :: oc :: sd :: ((litsOf F.many).map sa).reverse) ++ [qa, x, dx, vsA]))) := by
    rw [G11.map, hmap]
    simp only [List.append_assoc, List.cons_append, List.nil_append]
  have hsub : (RL2.map adr).Sublist ([sc, hp] ++ ((ca :: ((List.range F.rows.length).map ra).reverse) ++ ((va :: oc :: sd :: ((litsOf F.many).map sa).reverse) ++ [qa, x, dx, vsA]))) := by
    rw [hRm]
    exact (List.Sublist.refl _).append ((List.Sublist.refl _).append (((List.Sublist.refl _).cons oc |>.cons_cons va).append (List.Sublist.refl _)))
  have hnd11 := G11.nd
  rw [hmap11] at hnd11
  have hsplit := List.nodup_append.mp hnd11
  have hRnd : (RL2.map adr).Nodup := hsub.nodup hsplit.2.1
  have hRin : ∀ a ∈ RL2.map adr, a ∈ N11.map (·.1) := fun a ha => by rw [hmap11]; exact List.mem_append_right _ (hsub.subset ha)
  have hTRL : ∀ a ∈ TA, ∀ b ∈ RL2.map adr, a ≠ b := fun a ha b hb => hsplit.2.2 a ha b (hsub.subset hb)
  have hall : ((Role.lv :: .lvI 0 :: .lvD 0 :: .lvS 0 :: RL2).map adr).Nodup := by
    have e1 : adr .lv = lv := by rw [hadr]; rfl
    have e2 : adr (.lvI 0) = li := by rw [hadr]; rfl
    have e3 : adr (.lvD 0) = ld := by rw [hadr]; rfl
    have e4 : adr (.lvS 0) = ls := by rw [hadr]; rfl
    rw [List.map_cons, List.map_cons, List.map_cons, List.map_cons, e1, e2, e3, e4, List.nodup_cons, List.nodup_cons, List.nodup_cons, List.nodup_cons]
    refine ⟨fun hm => lvm ?_, fun hm => ?_, fun hm => ?_, fun hm => (hfr _ (hRin _ hm)).2.2 rfl, hRnd⟩
    · rcases List.mem_cons.mp hm with e | hm
      · rw [e]; exact .head _
      · rcases List.mem_cons.mp hm with e | hm
        · rw [e]; exact .tail _ (.head _)
        · rcases List.mem_cons.mp hm with e | hm
          · rw [e]; exact .tail _ (.tail _ (.head _))
          · exact .tail _ (.tail _ (.tail _ (hRin _ hm)))
    · rcases List.mem_cons.mp hm with e | hm
      · exact ne1 e
      · rcases List.mem_cons.mp hm with e | hm
        · exact nxs e
        · exact (hfr _ (hRin _ hm)).1 rfl
    · rcases List.mem_cons.mp hm with e | hm
      · exact nds e
      · exact (hfr _ (hRin _ hm)).2.1 rfl
  have hlv1 : st.lev.length = 1 := by rw [s7]; rfl
  have hlive : ∀ r, live F st r → r ∈ (Role.lv :: .lvI 0 :: .lvD 0 :: .lvS 0 :: RL2) := fun r hr => by
    cases r <;> first
      | (rw [hRL2]; simp; done)
      | (rename_i k
         have hr : k < st.lev.length := hr
         rw [hlv1] at hr
         have : k = 0 := by omega
         subst this; simp; done)
      | (rename_i i
         have hr : i < F.rows.length := hr
         rw [hRL2]; simp [hr]; done)
      | (rename_i l
         have hr : IsLit F l := hr
         rw [hRL2]
         simp [hlit l hr])
  have hinj : ∀ r r', live F st r → live F st r' → adr r = adr r' → r = r' := fun r r' h1 h2 e => inj_of_nodup hall r (hlive r h1) r' (hlive r' h2) e
  have hv9 : (vsA, ovs) ∈ N14 := k9 (G9.old _ hv0 (Ne.symm hdv)) (Ne.symm hdv)
  have hA9 : ∀ a ∈ (ca :: ((List.range F.rows.length).map ra).reverse) ++ ((va :: oc :: sd :: ((litsOf F.many).map sa).reverse) ++ [qa]), a ≠ dx := fun a ha => G9.ne hdm ha
  have hcad : ca ≠ dx := hA9 ca (by simp)
  have hrad : ∀ j, j < F.rows.length → ra j ≠ dx := fun j hj => hA9 _ (List.mem_append_left _ (.tail _ (List.mem_reverse.mpr (List.mem_map_of_mem (List.mem_range.mpr hj)))))
  have hsdd : sd ≠ dx := hA9 sd (by simp)
  have hsad : ∀ l, IsLit F l → sa l ≠ dx := fun l hl => hA9 _ (List.mem_append_right _ (List.mem_append_left _ (.tail _ (.tail _ (.tail _ (hsam l hl))))))
  have Lva2 : BoolsO ((List.range (F.many + 1)).map fun _ => false) ova := by
    unfold BoolsO
    have : ((List.range (F.many + 1)).map fun _ => false).map Value.bool = List.replicate (F.many + 1) (.bool false) := by
      rw [List.map_map]
      have : (Value.bool ∘ fun (_ : Nat) => false) = fun _ => Value.bool false := rfl
      rw [this, List.map_const', List.length_range]
    rw [this]; exact Lva
  have PA : Parts κ.w F N14 adr st od14 odl := by
    refine ⟨fun r hr h1 h2 => ?_, by rw [hadr]; exact hd14, by rw [hadr]; exact mld14, by rw [hlv1]; decide, hinj, ?_, by rw [s6]; exact HL14.heap⟩
    · clear hlive hinj hall
      subst hadr hst
      cases r with
      | inst => exact ⟨_, hx14, rfl⟩
      | dict => exact absurd rfl h1
      | cl => exact ⟨oca, k9 C9.ca hcad, Lca⟩
      | row i => obtain ⟨o, a, b⟩ := C9.row i hr; exact ⟨o, k9 a (hrad i hr), b⟩
      | sd => exact ⟨osd, k9 C9.sd hsdd, fs, 40, by decide, Dsd, fun l hl => (hs8 l hl).1⟩
      | sent l => obtain ⟨o, a, b⟩ := C9.s l hr; exact ⟨o, k9 a (hsad l hr), b⟩
      | vs => exact ⟨ovs, hv9, Dvs⟩
      | vset => exact ⟨ova, k9 mva9 hvad, Lva2⟩
      | q => obtain ⟨o, a, b⟩ := C9.q; exact ⟨o, k9 a hqd, b⟩
      | hp => obtain ⟨_, o, a, _⟩ := HL14.has; exact ⟨o, a, trivial⟩
      | sc => exact ⟨osc, msc14, fsc, 100, by decide, Dsc, hsc⟩
      | lv => exact ⟨_, mlv14, 0, rfl⟩
      | lvI k => exact ⟨_, mli14, rfl⟩
      | lvD k =>
        have hr : k < 1 := hr
        have : k = 0 := by omega
        subst this; exact absurd rfl h2
      | lvS k =>
        have hr : k < 1 := hr
        have : k = 0 := by omega
        subst this; exact ⟨os, mls14, Ds⟩
    · obtain ⟨vs, o, a, b, c, d⟩ := HL14.has
      refine ⟨vs, o, by rw [hadr]; exact a, b, by rw [s6]; exact c, fun i v hi => ?_⟩
      obtain ⟨T', oT, e1, e2, e3, e4⟩ := d i v hi
      refine ⟨T', oT, e1, e2, by rw [s6]; exact e3, fun r hr e => ?_⟩
      have hTN : T' ∈ N11.map (·.1) := by rw [hmap11]; exact List.mem_append_left _ e4
      have e1 : adr .lv = lv := by rw [hadr]; rfl
      have e2 : adr (.lvI 0) = li := by rw [hadr]; rfl
      have e3 : adr (.lvD 0) = ld := by rw [hadr]; rfl
      have e5 : adr (.lvS 0) = ls := by rw [hadr]; rfl
      rcases List.mem_cons.mp (hlive r hr) with rfl | hm
      · exact lvm (by rw [← e1, e]; exact .tail _ (.tail _ (.tail _ hTN)))
      · rcases List.mem_cons.mp hm with rfl | hm
        · exact (hfr _ hTN).1 (by rw [← e2, e])
        · rcases List.mem_cons.mp hm with rfl | hm
          · exact (hfr _ hTN).2.1 (by rw [← e3, e])
          · rcases List.mem_cons.mp hm with rfl | hm
            · exact (hfr _ hTN).2.2 (by rw [← e5, e])
            · exact hTRL _ e4 _ (List.mem_map_of_mem hm) e.symm
  have hIN : InitS F F.rows.length st.q st.sent := by rw [s3, s4]; exact I9
  have hPM : st.hp.Perm ((List.range F.many).flatMap fun (k : Nat) => entries F ((k : Int) + 1)) := by rw [s6]; exact hperm
  have hPl : ∀ {fl2 : Str → Option Value} {m2 : Nat} {o2 : Obj}, m2 ≤ 100 → DictA fl2 m2 o2 → fl2 "decision" = fl "decision" → fl2 "var_settings" = fl "var_settings" → fl2 "flipped" = fl "flipped" → P κ.w F adr st (.lvD 0) o2 := fun {fl2 m2 o2} hm2 D2 h1 h2 h3 => by
    subst hadr hst
    exact ⟨fl2, m2, hm2, D2, by rw [h1]; exact g1, by rw [h2]; exact g2, by rw [h3]; exact g3⟩
  clear hlive hall hRm hsub hnd11 hsplit hRnd hRin hTRL hmap11 hinj
  subst hadr
  generalize hadr : mkAdr x dx ca sd vsA va qa hp sc lv li ld ls ra sa = adr at *
  have ai : adr .inst = x := by rw [← hadr]; rfl
  have aI : adr (.lvI 0) = li := by rw [← hadr]; rfl
  have aD : adr (.lvD 0) = ld := by rw [← hadr]; rfl
  walk_at "w"
  have So : Sol κ.w F N14 adr st := by
    refine PA.sol ?_ (hPl (by omega) Dfl rfl rfl rfl)
    subst hadr hst
    exact ⟨_, 30, by decide, D14, by constructor <;> rfl⟩
  have hS14 := S
  rw [← ai] at S ⊢
  refine T_level (n := 0) (R.le (by omega)) S So (by rw [s7]; simp) (fun h S2 => ?_)
  clear S hS14
  have S := S2
  clear S2
  rw [hlv1]
  rw [show 1 - 1 = 0 from rfl]
  have mli5 : (adr (.lvI 0), instObj 229 (adr (.lvD 0))) ∈ N14 := by rw [aI, aD]; exact mli14
  refine T_setAttr S.kin L_vars (S.gn mli5) Dfl (S.gn PA.lvD) (by omega) (fun h odl2 Dl2 c => ?_)
  replace S := S.updN PA.lvD c
  have PA2 := PA.updL (odl' := odl2)
  have hPl2 : P κ.w F adr st (.lvD 0) odl2 := hPl (m2 := 100) (Nat.le_refl _) (Dl2.le (ite_le (by omega) (by omega))) rfl rfl rfl
  generalize Mine.upd N14 (adr (.lvD 0)) odl2 = N15 at S PA2
  clear So mli5 c Dl2 PA
  walk_at "w"
  refine T_pdict S PA2 A_nd D14 (by decide) fun h od15 N16 S2 PA3 D15 => ?_
  clear S PA2
  have S := S2
  clear S2
  walk_at "w"
  refine T_pdict S PA3 A_nl D15 (by decide) fun h od16 N17 S2 PA4 D16 => ?_
  clear S PA3
  have S := S2
  clear S2
  walk_at "w"
  obtain ⟨oI, mI, hI⟩ := PA4.has .inst trivial (by decide) (by decide)
  have hI : oI = instObj 207 (adr .dict) := hI
  subst hI
  obtain ⟨oc5, mc5, hc5⟩ := PA4.has .cl trivial (by decide) (by decide)
  have hc5 : LsO ((List.range F.rows.length).map fun i => .ref (adr (.row i))) oc5 := hc5
  have aC : adr .cl = ca := by rw [← hadr]; rfl
  refine T_getAttr S.kin A_cl (S.gn mI) D16 (S.gn PA4.dict) (v := .ref (adr .cl)) (by rw [aC]; rfl) rfl ?_
  walk_at "w"
  refine T_len_list hc5 (S.gn mc5) (by simp; omega) (fun t => ?_)
  walk_at "w"
  refine T_pdict S PA4 A_oc2 D16 (by decide) fun h od17 N18 S2 PA5 D17 => ?_
  clear S PA4
  have S := S2
  clear S2
  walk_at "w"
  refine ⟨_, _, _, S, rfl, adr, st, rfl, ?_, s1, fun k => by rw [s2], hIN, s5, s7, hPM⟩
  rw [← ew]
  refine PA5.sol ?_ hPl2
  clear hPl2 hPl
  subst hadr hst
  exact ⟨_, 33, by decide, D17, by constructor <;> rfl⟩
end
end Mine
end
section
open PySem PySem.W PySem.Calls PyProof.Rows
set_option Elab.async false
set_option maxRecDepth 100000
set_option linter.all false
namespace Mine
/-! the plain law at the start -/
def cfg0 (st : SS) : Cfg := ⟨[], 0, false, [], [], st.sent, st.hp⟩
theorem Small.qlen' {F : Fix} (S : Small F) {st : SS} (h : st.q.length ≤ 50) : st.q.length + F.rows.length * unset F st ≤ 9000 := by
  have : F.rows.length * unset F st ≤ 50 * 50 := Nat.mul_le_mul S.rows (Nat.le_trans unset_le S.many)
  omega
theorem start_JJ {F : Fix} {st : SS} (R : RowsOk F) (S : Small F) (h1 : st.vs = []) (h2 : ∀ k, st.vset k = false) (I : InitS F F.rows.length st.q st.sent) (h3 : st.bad = false) (h4 : st.lev = [⟨0, [], false⟩]) : JJ F (cfg0 st) st := by
  have hq : ∀ a ∈ st.q, [a] ∈ F.rows := fun a ha => List.mem_of_mem_take (I.q2 a ha)
  refine ⟨⟨[], by rw [h4]; rfl, .nil, fun x => by rw [h1]; simp [cfg0], fun x hx => nomatch hx⟩, by rw [h1]; exact ⟨.nil, (fun c h => nomatch h), fun c h => nomatch h⟩, fun c hc => by rw [h2, h1]; simp, I.watch, (fun b hb => nomatch hb), (fun x hx => by rw [h1] at hx; cases hx),
    fun x hx => ⟨R.lit _ (hq x hx) x (by simp), by simp [cfg0], .unit (hq x hx) (by simp) fun c hc hne => absurd (by simpa using hc) hne⟩, (fun x hx => nomatch hx), (fun b hb => by rw [h1] at hb; cases hb), fun a ha => .inr (I.q1 a (by rw [List.take_length]; exact ha)), S.qlen' ?_, h3, rfl⟩
  have := I.q3; have := S.rows; omega
theorem start_plain {F : Fix} {st0 st : SS} {d : List Int} (J : JJ F (cfg0 st0) st) (hq : st.q = []) (hc : Con F d) (hd : ∀ x, x ∈ d ↔ x ∈ st.vs) : Plain F st [] d [] := by
  obtain ⟨s, h1, h2, h3, h4⟩ := J.lev
  refine ⟨?_, fun x => (hd x).symm, J.con.nd, J.vset, J.watch, hq, J.bad⟩
  rw [h1]
  exact .base ((J.good hq).congr hc hd) fun x => (hd x).trans ((h3 x).trans (by simp [cfg0]))
theorem start_heap {F : Fix} {st : SS} {ps : List Pair} (h : ps.Perm ((List.range F.many).flatMap fun (k : Nat) => entries F ((k : Int) + 1))) (e : st.hp = ps) : HeapOk F st 0 := by
  rw [← e] at h
  refine ⟨fun p hp => ?_, fun l hl _ _ => ?_⟩
  · obtain ⟨k, hk, hm⟩ := List.mem_flatMap.mp (h.mem_iff.mp hp)
    have := List.mem_range.mp hk
    exact entries_ok ⟨by omega, by omega⟩ hm
  · refine h.mem_iff.mpr (List.mem_flatMap.mpr ⟨l.natAbs - 1, List.mem_range.mpr ?_, entries_all ?_⟩)
    · have := hl.1; have := hl.2; omega
    · have := hl.1; omega
theorem start_hlen {F : Fix} {ps : List Pair} (h : ps.Perm ((List.range F.many).flatMap fun (k : Nat) => entries F ((k : Int) + 1))) : ps.length = 2 * F.many := by
  rw [h.length_eq]
  have : ∀ n : Nat, ((List.range n).flatMap fun (k : Nat) => entries F ((k : Int) + 1)).length = 2 * n := fun n => by
    induction n with
    | zero => rfl
    | succ n ih => rw [List.range_succ, List.flatMap_append, List.length_append, ih]; simp [entries]; omega
  exact this _
theorem JJ.step0 {F : Fix} {c : Cfg} (R : RowsOk F) : ∀ st q lit ls lv js, JJ F c st → st.q = q ++ [lit] → st.lev = ls ++ [lv] → -lit ∉ st.vs → js.Perm (st.sent (-lit)) →
    JJ F c (nextS F st q lit ls lv js) ∧ (unset F (nextS F st q lit ls lv js) < unset F st ∨ (unset F (nextS F st q lit ls lv js) = unset F st ∧ (nextS F st q lit ls lv js).q.length < st.q.length)) := fun st q lit ls lv js J hq hl hn hj => J.step R hq hl hn hj
/-! ledgers in parts -/
section
variable {κ : Kx} {F : Fix} {h H h' : Heap} {L : Addr} {l : List (Str × Value)} {N M X A B : Ledger} {n : Nat}
theorem St.newB (S : St κ.w H L l N (A ++ B) h) (o : Off B A) {a : Addr} {ob : Obj} (c : Nw h a ob h') : St κ.w H L l N (A ++ ((a, ob) :: B)) h' ∧ Off ((a, ob) :: B) A := by
  have S' := S.new c
  have key : ∀ p, p ∈ A ++ ((a, ob) :: B) → p ∈ (a, ob) :: (A ++ B) := fun p hp => by
    rcases List.mem_append.mp hp with z | z
    · exact .tail _ (List.mem_append_left _ z)
    · rcases List.mem_cons.mp z with rfl | z
      · exact .head _
      · exact .tail _ (List.mem_append_right _ z)
  refine ⟨S'.dropX key, fun p hp q hq e => ?_⟩
  rcases List.mem_cons.mp hp with rfl | hp
  · have := S.gx (List.mem_append_left _ hq)
    have e : a = q.1 := e
    rw [← e, c.fresh] at this; cases this
  · exact o p hp q hq e
/-- a call whose focus is the first part of the rest -/
theorem T_outA {f : Value} {args : List Value} {Post : Value → Ledger → Prop} {Q : Value → Heap → Prop} (S : St κ.w H L l N (A ++ B) h) (o : Off B A) (c : C κ (.call f ⟨args, []⟩) (Out h A Post) h)
    (q : ∀ v A' h', Post v A' → St κ.w H L l N (A' ++ B) h' → Off B A' → Q v h') : T κ (PySem.call f args) Q h := by
  refine T.call (c.mono fun v h' ⟨A', led, kb, ni, p⟩ => ?_)
  have SA : St κ.w H L l A (B ++ N) h := by
    refine ⟨S.top, S.ns, S.keep, S.offL, fun p hp => S.x p (List.mem_append_left _ hp), fun p hp => ?_, fun p hp q hq e => ?_⟩
    · rcases List.mem_append.mp hp with z | z
      · exact S.x p (List.mem_append_right _ z)
      · exact S.n p z
    · rcases List.mem_append.mp hp with z | z
      · exact o p z q hq e
      · exact S.off q (List.mem_append_left _ hq) p z e.symm
  have S2 := SA.out led kb ni
  have o2 : Off B A' := fun p hp q hq => S2.off p (List.mem_append_left _ hp) q hq
  refine q v A' h' p ⟨S2.top, S2.ns, S2.keep, S2.offL, fun p hp => S2.x p (List.mem_append_right _ hp), fun p hp => ?_, fun p hp q hq e => ?_⟩ o2
  · rcases List.mem_append.mp hp with z | z
    · exact S2.n p z
    · exact S2.x p (List.mem_append_left _ z)
  · rcases List.mem_append.mp hp with z | z
    · exact S2.off q (List.mem_append_right _ hq) p z e.symm
    · exact S.off p (List.mem_append_right _ z) q hq e
theorem SA_top (S : St κ.w H L l N (A ++ B) h) : TopIn κ.w (hid h A) := S.top.keep fun b o e => hid_get (S.keep b o e) fun q => by
  obtain ⟨p, hp, rfl⟩ := List.mem_map.mp q
  rw [(S.x p (List.mem_append_left _ hp)).2.2] at e; cases e
theorem SA_led (S : St κ.w H L l N (A ++ B) h) : Led h A := fun p hp => S.gx (List.mem_append_left _ hp)
/-- a call that only reads; its new objects come to the second part of the rest -/
theorem T_out0 {f : Value} {args : List Value} {Post : Value → Ledger → Prop} {Q : Value → Heap → Prop} (S : St κ.w H L l N (A ++ B) h) (o : Off B A) (c : C κ (.call f ⟨args, []⟩) (Out h [] Post) h)
    (q : ∀ v N' h', Post v N' → St κ.w H L l N (A ++ (N' ++ B)) h' → Off (N' ++ B) A → (∀ p ∈ N', h.get? p.1 = none) → Q v h') : T κ (PySem.call f args) Q h := by
  refine T.call (c.mono fun v h' ⟨N', led, kb, ni, p⟩ => ?_)
  have S' := S.outRo led kb ni
  have fr : ∀ p ∈ N', h.get? p.1 = none := fun p hp => (ni p hp).resolve_left (by simp)
  refine q v N' h' p (S'.dropX fun p hp => ?_) (fun p hp q hq e => ?_) fr
  · rcases List.mem_append.mp hp with z | z
    · exact List.mem_append_right _ (List.mem_append_left _ z)
    · rcases List.mem_append.mp z with z | z
      · exact List.mem_append_left _ z
      · exact List.mem_append_right _ (List.mem_append_right _ z)
  · rcases List.mem_append.mp hp with z | z
    · have := S.gx (List.mem_append_left _ hq)
      rw [← e, fr p z] at this; cases this
    · exact o p z q hq e
theorem top0 (S : St κ.w H L l N X h) : TopIn κ.w (hid h []) := S.topH.keep (keep_hid0 h)
theorem T_takeA {da la : Addr} {k : Int} {tk : Tok} {Q : Value → Heap → Prop} (R : Room κ (n + 5)) (S : St κ.w H L l N (A ++ B) h) (o : Off B A) (D : DrawOk A da la) (hk : 0 < k)
    (q : ∀ x t A' h', 0 ≤ x → x < k → DrawOk A' da la → St κ.w H L l N (A' ++ B) h' → Off B A' → Q (.int x t) h') : T κ (PySem.call (.ref 245) [.ref da, .int k tk]) Q h := by
  obtain ⟨xs, seed, D, h1, h2, h3⟩ := D
  refine T_outA S o (take_spec (n := n) R (SA_top S) (SA_led S) D h1 ⟨h2, h3⟩ (by omega)) fun v A' h' ⟨t, e, D'⟩ S' o' => ?_
  subst e
  refine q _ t A' h' (Int.fmod_nonneg_of_pos _ hk) (Int.fmod_lt_of_pos _ hk) ⟨_, _, D', ?_, ?_, ?_⟩ S' o'
  · cases xs with
    | nil => exact h1
    | cons a r => show r.length ≤ 1000; simp at h1; omega
  · cases xs with
    | nil => exact Int.fmod_nonneg_of_pos _ (by decide)
    | cons a r => exact h2
  · cases xs with
    | nil => exact Int.fmod_lt_of_pos _ (by decide)
    | cons a r => exact h3
/-- an object of the second part changed -/
theorem St.updB (S : St κ.w H L l N (A ++ B) h) (o : Off B A) {d : Addr} {ob o₀ : Obj} (hd : (d, o₀) ∈ B) (c : Ch h d ob h') : St κ.w H L l N (A ++ Mine.upd B d ob) h' ∧ Off (Mine.upd B d ob) A := by
  have S' := S.updX (List.mem_append_right _ hd) c
  have e : Mine.upd (A ++ B) d ob = A ++ Mine.upd B d ob := by
    unfold Mine.upd
    rw [List.map_append]
    congr 1
    conv => rhs; rw [← List.map_id A]
    refine List.map_congr_left fun p hp => if_neg fun e => o _ hd p hp e.symm
  rw [e] at S'
  exact ⟨S', fun p hp q hq z => by
    have hm : p.1 ∈ B.map (·.1) := by rw [← upd_fst B d ob]; exact List.mem_map_of_mem hp
    obtain ⟨r, hr, e⟩ := List.mem_map.mp hm
    exact o r hr q hq (e.trans z)⟩
theorem T_cut {t : Sem Flow} {Q : Flow → Heap → Prop} (Mid : Heap → Prop) (x : T κ t (fun f h' => match f with | .next => Mid h' | f => Q f h') h) (k : ∀ h', Mid h' → Q .next h') : T κ t Q h :=
  T.mono x fun f h' z => by cases f with
    | next => exact k h' z
    | cont => exact z
    | brk => exact z
    | ret v => exact z
theorem ForAt.mk4 {env : Env} {x : Str} {body : List Stmt} {Q : Flow → Heap → Prop} {H h h' : Heap} {L I : Addr} {l : List (Str × Value)} {N X dep : Ledger} {n : Nat} {P : Nat → Value → Prop} (chg : List Str) (S : St κ.w H L l N X h) (it : ItNew κ h I dep n P h')
    (Inv : Nat → (Str → Option Value) → Ledger → Ledger → Prop) (Fin : Ledger → Ledger → Prop) (h0 : Inv 0 (look l) N X) (hdep : ∀ i m N X, Inv i m N X → ∀ p ∈ dep, p ∈ N ∨ p ∈ X ∨ H.get? p.1 = some p.2)
    (turn : ∀ i v l' N X H' h, Keep H H' → i < n → P i v → Inv i (look l') N X → (∀ y, y ≠ x → y ∉ chg → look l' y = look l y) → St κ.w H' L ((x, v) :: l') N X h → T κ (execs body env) (fun f h' => match f with
        | .next | .cont => ∃ l' N' X', St κ.w H' L l' N' X' h' ∧ (∀ y, y ≠ x → y ∉ chg → look l' y = look l y) ∧ Inv (i + 1) (look l') N' X'
        | .brk => ∃ l' N' X', St κ.w H' L l' N' X' h' ∧ (∀ y, y ≠ x → y ∉ chg → look l' y = look l y) ∧ Fin N' X'
        | .ret v => Q (.ret v) h') h)
    (fin : ∀ m N X, Inv n m N X → Fin N X)
    (done : ∀ l' N X h, Fin N X → (∀ y, y ≠ x → y ∉ chg → look l' y = look l y) → St κ.w H L l' N X h → Q .next h) : ForAt κ env L x body Q (.ref I) h' := by
  refine ForAt.mk3 chg S it Inv h0 hdep (fun i v l' N X H' h hk hi hP hI hl S' => ?_) (fun l' N X h hI hl S => done l' N X h (fin _ N X hI) hl S)
  refine (turn i v l' N X H' h hk hi hP hI hl S').mono fun f h' z => ?_
  cases f with
  | next => exact z
  | cont => exact z
  | brk =>
    obtain ⟨l2, N2, X2, S2, hl2, hF⟩ := z
    exact done l2 N2 X2 h' hF hl2 (S2.back hk S.top)
  | ret v => exact z
end
end Mine
end
section
open PySem PySem.W PySem.Calls PyProof.Rows
set_option Elab.async false
set_option maxRecDepth 100000
set_option linter.all false
namespace Mine

set_option hygiene false in
local macro_rules | `(tactic| walk_at "e") => `(tactic| ((with_reducible show T _ (eval _ _) _ _); first
  | ((with_reducible show T _ (eval (Expr.Name _ _) _) _ _); first
    | ((with_reducible show T _ (eval (Expr.Name "len" _) _) _ _); refine N_len S (by k_is) ?_)
    | ((with_reducible show T _ (eval (Expr.Name "abs" _) _) _ _); refine N_abs S (by k_is) ?_)
    | ((with_reducible show T _ (eval (Expr.Name "sorted" _) _) _ _); refine N_sorted S (by k_is) ?_)
    | ((with_reducible show T _ (eval (Expr.Name "list" _) _) _ _); refine N_list S (by k_is) ?_)
    | ((with_reducible show T _ (eval (Expr.Name "range" _) _) _ _); refine N_range S (by k_is) ?_)
    | ((with_reducible show T _ (eval (Expr.Name "set" _) _) _ _); refine N_set S (by k_is) ?_)
    | ((with_reducible show T _ (eval (Expr.Name "enumerate" _) _) _ _); refine N_enumerate S (by k_is) ?_)
    | refine T_loc S (by first | rfl | exact hn1 | exact hn2 | exact hn3 | exact hn4 | exact hn5) ?_
    | refine T_glob S (by k_is) ?_)
  | ((with_reducible show T _ (eval (Expr.Constant (Const.int _) _ _) _) _ _); refine T_int (fun t => ?_))
  | ((with_reducible show T _ (eval (Expr.Attribute _ _ _) _) _ _); refine T_attr ?_)
  | ((with_reducible show T _ (eval (Expr.Subscript _ _ _) _) _ _); refine T_item ?_)
  | ((with_reducible show T _ (eval (Expr.Call (Expr.Attribute _ _ _) _ [] _) _) _ _); refine T_Method ?_)
  | ((with_reducible show T _ (eval (Expr.Call _ _ [] _) _) _ _); refine T_Call ?_)
  | ((with_reducible show T _ (eval (Expr.BinOp _ _ _ _) _) _ _); refine T_binop ?_)
  | ((with_reducible show T _ (eval (Expr.UnaryOp _ _ _) _) _ _); refine T_unop ?_)
  | ((with_reducible show T _ (eval (Expr.Compare _ _ _ _) _) _ _); refine T_cmp ?_)
  | ((with_reducible show T _ (eval (Expr.Constant Const.none _ _) _) _ _); refine T_none ?_)
  | ((with_reducible show T _ (eval (Expr.Constant (Const.bool _) _ _) _) _ _); refine T_bool ?_)
  | ((with_reducible show T _ (eval (Expr.Constant (Const.str _) _ _) _) _ _); refine T_str (fun t => ?_))
  | ((with_reducible show T _ (eval (Expr.Dict [] [] _) _) _ _); refine T_dict0 (fun a h c => ?_))
  | ((with_reducible show T _ (eval (Expr.List _ _) _) _ _); refine T_list ?_)
  | ((with_reducible show T _ (eval (Expr.Tuple _ _ _) _) _ _); refine T_tuple ?_)
  | ((with_reducible show T _ (eval (Expr.BoolOp BoolOp.Or [_, _] _) _) _ _); refine T_or2 ?_)
  | ((with_reducible show T _ (eval (Expr.IfExp _ _ _ _) _) _ _); refine T_ifexp ?_)))
set_option hygiene false in
local macro_rules | `(tactic| walk_at "s") => `(tactic| first
  | ((with_reducible show T _ (execs (_ :: _) _) _ _); refine T_seq ?_)
  | ((with_reducible show T _ (execs [] _) _ _); refine T_nil ?_)
  | ((with_reducible show T _ (exec _ _) _ _); first
    | ((with_reducible show T _ (exec (Stmt.Assign [Expr.Name _ _] _ _) _) _ _); refine T_assign ?_)
    | ((with_reducible show T _ (exec (Stmt.If _ _ _ _) _) _ _); refine T_if ?_)
    | ((with_reducible show T _ (exec (Stmt.Return (some _) _) _) _ _); refine T_return ?_)
    | ((with_reducible show T _ (exec (Stmt.Return none _) _) _ _); refine T_return0 ?_)
    | ((with_reducible show T _ (exec (Stmt.Expr _ _) _) _ _); refine T_expr' ?_)
    | ((with_reducible show T _ (exec (Stmt.Assign [Expr.Attribute _ _ _] _ _) _) _ _); refine T_setattr_stmt ?_)
    | ((with_reducible show T _ (exec (Stmt.Assign [Expr.Subscript _ _ _] _ _) _) _ _); refine T_setitem_stmt ?_)
    | ((with_reducible show T _ (exec (Stmt.For (Expr.Name _ _) _ _ [] _) _) _ _); refine T_for ?_)
    | ((with_reducible show T _ (exec (Stmt.AugAssign (Expr.Name _ _) _ _ _) _) _ _); refine T_aug_name ?_)
    | ((with_reducible show T _ (exec (Stmt.AugAssign (Expr.Subscript _ _ _) _ _ _) _) _ _); refine T_aug_item ?_)
    | ((with_reducible show T _ (exec (Stmt.Pass _) _) _ _); refine T_pass ?_)
    | ((with_reducible show T _ (exec (Stmt.Break _) _) _ _); refine T_break ?_)
    | ((with_reducible show T _ (exec (Stmt.Continue _) _) _ _); refine T_continue ?_))
  | ((with_reducible show T _ (storeName _ _ _) _ _); refine T_store S (fun h S => ?_))
  | ((with_reducible show T _ (isTrue _ _ _) _ _); first
    | ((with_reducible show T _ (isTrue (Expr.Compare _ _ _ _) _ _) _ _); refine T_isTrue_cmp ?_)
    | ((with_reducible show T _ (isTrue (Expr.UnaryOp UnaryOp.Not _ _) _ _) _ _); refine T_isTrue_not ?_)
    | ((with_reducible show T _ (isTrue (Expr.BoolOp BoolOp.Or [_, _] _) _ _) _ _); refine T_isTrue_or2 ?_)
    | ((with_reducible show T _ (isTrue (Expr.BoolOp BoolOp.And [_, _] _) _ _) _ _); refine T_isTrue_and2 ?_)
    | ((with_reducible show T _ (isTrue (Expr.BoolOp BoolOp.And [_, _, _] _) _ _) _ _); refine T_isTrue_and3 ?_)
    | (refine T_isTrue_val ?_))
  | ((with_reducible show T _ (truthy (Value.bool _)) _ _); refine T_truthy_bool ?_)
  | ((with_reducible show T _ (truthy (Value.int _ _)) _ _); refine T_truthy_int ?_)
  | ((with_reducible show T _ (truthy Value.none) _ _); refine T_truthy_none ?_)
  | ((with_reducible show T _ (PySem.call (Value.builtin "abs") ([] ++ [Value.int _ _])) _ _); refine T_abs (fun t => ?_))
  | ((with_reducible show Args _ _ (_ :: _) _ _); refine Args_cons ?_)
  | ((with_reducible show Args _ _ [] _ _); refine Args_nil ?_)
  | ((with_reducible show T _ (callWith _ (Value.builtin _) _ _ _) _ _); refine CW_bi ?_)
  | ((with_reducible show T _ (callWith _ (Value.type _) _ _ _) _ _); refine CW_ty ?_)
  | ((with_reducible show T _ (binaryOp Operator.Add (Value.int _ _) (Value.int _ _)) _ _); refine T_add (fun t => ?_))
  | ((with_reducible show T _ (binaryOp Operator.Sub (Value.int _ _) (Value.int _ _)) _ _); refine T_sub (fun t => ?_))
  | ((with_reducible show T _ (unaryOp UnaryOp.USub (Value.int _ _)) _ _); refine T_neg (fun t => ?_))
  | ((with_reducible show T _ (compareOp CmpOp.Eq (Value.int _ _) (Value.int _ _)) _ _); refine T_eq ?_)
  | ((with_reducible show T _ (compareOp CmpOp.NotEq (Value.int _ _) (Value.int _ _)) _ _); refine T_ne ?_)
  | ((with_reducible show T _ (compareOp CmpOp.Lt (Value.int _ _) (Value.int _ _)) _ _); refine T_lt ?_)
  | ((with_reducible show T _ (compareOp CmpOp.Gt (Value.int _ _) (Value.int _ _)) _ _); refine T_gt ?_)
  | ((with_reducible show T _ (compareOp CmpOp.Is _ Value.none) _ _); refine T_is_none ?_)
  | ((with_reducible show T _ (compareOp CmpOp.IsNot _ Value.none) _ _); refine T_isnot_none ?_)
  | walk_at "e")
set_option hygiene false in
local macro_rules | `(tactic| walk_at "w") => `(tactic| repeat (walk_at "s"))
theorem fill_fragL0 : (PySem.Challenge.rw_at6042_01, Mine.hd.heap_39) = (PySem.Challenge.rw_at6042_01, Mine.hd.heap_39) := by k_fill; rfl
/-- what a new solver is -/
structure Fresh (F : Fix) (st : SS) : Prop where
  vs : st.vs = []
  vset : ∀ k, st.vset k = false
  ini : InitS F F.rows.length st.q st.sent
  bad : st.bad = false
  lev : st.lev = [⟨0, [], false⟩]
  hp : st.hp.Perm ((List.range F.many).flatMap fun (k : Nat) => entries F ((k : Int) + 1))
section
variable {κ : Kx} {F : Fix} {h H : Heap} {L : Addr} {l : List (Str × Value)} {N M X A B : Ledger} {n : Nat}
theorem T_newsolver {cl rg vsA sy : Addr} {ovs : Obj} {t u v : Tok} {Q : Value → Heap → Prop} (R : Room κ (n + 13)) (S : St κ.w H L l [(vsA, ovs)] X h)
    (RO : RowsOk F) (hrl : F.rows.length ≤ 6) (hlen : ∀ r ∈ F.rows, r.length ≤ 3) (hmany : 1 ≤ F.many ∧ F.many ≤ 20) (scok : ScOk F)
    (hr : RowsH (hid h [(vsA, ovs)]) cl F.rows) (er : (hid h [(vsA, ovs)]).get? rg = some (rangeO 1 ((F.many : Int) + 1) t u v)) (Dvs : SetO κ.w [] ovs)
    (q : ∀ N' h' adr st, Sol κ.w F N' adr st → Fresh F st → St κ.w H L l N' X h' → Q (.ref (adr .inst)) h') : T κ (PySem.call (.ref 207) [.ref cl, .ref rg, .ref vsA, .ref sy]) Q h := by
  refine T.call (C_make (fI := 78) S.kin (make_t _) (make_i _) (make_f _) fun x dx h0 f1 f2 ne k e1 e2 => ?_)
  have hL : ∀ {a : Addr}, h.get? a = none → a ≠ L := fun f e => by obtain ⟨o, ho⟩ := S.liveL; rw [← e, f] at ho; cases ho
  have hX : ∀ {a : Addr}, h.get? a = none → ∀ p ∈ X, p.1 ≠ a := fun f p hp e => by have := S.gx hp; rw [e, f] at this; cases this
  have S1 : St κ.w H L l ((dx, emptyDict) :: [(vsA, ovs)]) X h0 := ((S.keeps k).swap.addX e2 (hL f2) (S.freshH f2) (hX f2)).swap
  have S2 : St κ.w H L l ((x, instObj 207 dx) :: (dx, emptyDict) :: [(vsA, ovs)]) X h0 := (S1.swap.addX e1 (hL f1) (S.freshH f1) (hX f1)).swap
  have hv := S.gn (.head _)
  have xv : x ≠ vsA := fun e => by rw [← e, f1] at hv; cases hv
  have dv : dx ≠ vsA := fun e => by rw [← e, f2] at hv; cases hv
  have kk : Keep (hid h [(vsA, ovs)]) (hid h0 [(x, instObj 207 dx), (dx, emptyDict), (vsA, ovs)]) := fun b o e => by
    have hb := hid_sub _ _ e
    refine hid_get (k _ _ hb) fun hm => ?_
    rcases List.mem_cons.mp hm with rfl | hm
    · rw [f1] at hb; cases hb
    · rcases List.mem_cons.mp hm with rfl | hm
      · rw [f2] at hb; cases hb
      · have : b = vsA := List.mem_singleton.mp hm
        rw [this] at e
        have h2 := hid_none (h := h) (N := [(vsA, ovs)]) (p := (vsA, ovs)) (.head _)
        rw [h2] at e; cases e
  have c := sinit_spec (κ := κ.made (.builtin "type.__call__" ⟨.ref 207 :: [.ref cl, .ref rg, .ref vsA, .ref sy], []⟩)) (n := n) (h := h0) (F := F) (x := x) (dx := dx) (cl := cl) (rg := rg) (vsA := vsA) (sy := sy) (ovs := ovs) (t := t) (u := u) (v := v) R.made S2.topN S2.ledN (by simp [ne, xv, dv])
    RO hrl hlen hmany scok (hr.keep kk) (kk _ _ er) Dvs
  refine c.mono fun v h' ⟨N', led, kb, ni, e, adr, st, ea, So, p1, p2, p3, p4, p5, p6⟩ => ⟨e, ?_⟩
  have := q N' h' adr st So ⟨p1, p2, p3, p4, p5, p6⟩ (S2.out led kb ni)
  rw [ea] at this; exact this
end
end Mine
end
section
open PySem PySem.W PySem.Calls PyProof.Rows
set_option Elab.async false
set_option maxRecDepth 100000
set_option linter.all false
namespace Mine
theorem RowsL.last {B : Ledger} {ha : Addr} {hs : List (List Int)} {hh : List Int} {P : Addr → Prop} (x : RowsL B ha (hs ++ [hh]) P) :
    ∃ o p Tr oT, (ha, o) ∈ B ∧ LsO (p ++ [.ref Tr]) o ∧ p.length = hs.length ∧ (Tr, oT) ∈ B ∧ IntsO hh oT ∧ Tr ≠ ha ∧ P Tr ∧
      ∀ (i : Nat) v, p[i]? = some v → ∃ T2 oT2, v = .ref T2 ∧ (T2, oT2) ∈ B ∧ IntsO (hs.getD i []) oT2 ∧ T2 ≠ ha ∧ P T2 := by
  obtain ⟨o, vs, m, L, hl, hv⟩ := x.has
  have hne : vs ≠ [] := fun e => by rw [e] at hl; simp at hl
  obtain ⟨p, y, rfl⟩ := snoc_of hne
  have hpl : p.length = hs.length := by simpa using hl
  obtain ⟨Tr, oT, rfl, a1, a2, a3, a4⟩ := hv p.length y (by simp)
  have e : (hs ++ [hh]).getD p.length [] = hh := by rw [hpl]; simp
  rw [e] at a2
  refine ⟨o, p, Tr, oT, m, L, hpl, a1, a2, a3, a4, fun i v hi => ?_⟩
  have hip : i < p.length := by
    rcases Nat.lt_or_ge i p.length with q | q
    · exact q
    · rw [List.getElem?_eq_none q] at hi; cases hi
  obtain ⟨T2, oT2, e1, e2, e3, e4, e5⟩ := hv i v (by rw [List.getElem?_append_left hip]; exact hi)
  have e : (hs ++ [hh]).getD i [] = hs.getD i [] := by
    rw [List.getD_eq_getElem?_getD, List.getD_eq_getElem?_getD, List.getElem?_append_left (by omega)]
  rw [e] at e3
  exact ⟨T2, oT2, e1, e2, e3, e4, e5⟩
theorem RowsL.pop {B : Ledger} {ha : Addr} {hs : List (List Int)} {P : Addr → Prop} {p : List Value} {o o' : Obj} (m : (ha, o) ∈ B) (L' : LsO p o') (hl : p.length = hs.length)
    (hv : ∀ (i : Nat) v, p[i]? = some v → ∃ T2 oT2, v = .ref T2 ∧ (T2, oT2) ∈ B ∧ IntsO (hs.getD i []) oT2 ∧ T2 ≠ ha ∧ P T2) : RowsL (Mine.upd B ha o') ha hs P :=
  ⟨o', p, mem_upd_self m, L', hl, fun i v hi => let ⟨T, oT, e1, e2, e3, e4, e5⟩ := hv i v hi; ⟨T, oT, e1, mem_upd_of_ne e2 e4, e3, e4, e5⟩⟩
/-- what stands around the solver at each turn -/
structure Around_ (F : Fix) (c : Addr) (oc : Obj) (da la ha ca : Addr) (hist : List (List Int)) (cs : List Int) (X A B : Ledger) : Prop where
  x : X = A ++ B
  o : Off B A
  d : DrawOk A da la
  cell : (c, oc) ∈ B
  h : RowsL B ha hist (fun a => a ≠ ca)
  ch : ∃ och, (ca, och) ∈ B ∧ IntsO cs och
  n1 : ha ≠ ca
  n2 : c ≠ ha
  n3 : c ≠ ca
theorem Around_.more {F : Fix} {c : Addr} {oc : Obj} {da la ha ca : Addr} {hist : List (List Int)} {cs : List Int} {X A B B' : Ledger} (x : Around_ F c oc da la ha ca hist cs X A B) (o : Off B' A) (k : ∀ p ∈ B, p ∈ B') : Around_ F c oc da la ha ca hist cs (A ++ B') A B' := by
  obtain ⟨och, a, b⟩ := x.ch
  exact ⟨rfl, o, x.d, k _ x.cell, x.h.more k (fun _ _ _ h => h), ⟨och, k _ a, b⟩, x.n1, x.n2, x.n3⟩
theorem Around_.draw {F : Fix} {c : Addr} {oc : Obj} {da la ha ca : Addr} {hist : List (List Int)} {cs : List Int} {X A A' B : Ledger} (x : Around_ F c oc da la ha ca hist cs X A B) (o : Off B A') (d : DrawOk A' da la) : Around_ F c oc da la ha ca hist cs (A' ++ B) A' B :=
  ⟨rfl, o, d, x.cell, x.h, x.ch, x.n1, x.n2, x.n3⟩
theorem off_upd' {A B : Ledger} (o : Off B A) {d : Addr} {ob : Obj} : Off (Mine.upd B d ob) A := fun p hp q hq z => by
  have hm : p.1 ∈ B.map (·.1) := by rw [← upd_fst B d ob]; exact List.mem_map_of_mem hp
  obtain ⟨r, hr, e⟩ := List.mem_map.mp hm
  exact o r hr q hq (e.trans z)
theorem Around_.updH {F : Fix} {c : Addr} {oc : Obj} {da la ha ca : Addr} {hist hist' : List (List Int)} {cs : List Int} {X A B : Ledger} {o' : Obj} (x : Around_ F c oc da la ha ca hist cs X A B) (r : RowsL (Mine.upd B ha o') ha hist' (fun a => a ≠ ca)) : Around_ F c oc da la ha ca hist' cs (A ++ Mine.upd B ha o') A (Mine.upd B ha o') := by
  obtain ⟨och, a, b⟩ := x.ch
  exact ⟨rfl, off_upd' x.o, x.d, mem_upd_of_ne x.cell x.n2, r, ⟨och, mem_upd_of_ne a (Ne.symm x.n1), b⟩, x.n1, x.n2, x.n3⟩
theorem Around_.updC {F : Fix} {c : Addr} {oc : Obj} {da la ha ca : Addr} {hist : List (List Int)} {cs cs' : List Int} {X A B : Ledger} {o' : Obj} (x : Around_ F c oc da la ha ca hist cs X A B) (i : IntsO cs' o') : Around_ F c oc da la ha ca hist cs' (A ++ Mine.upd B ca o') A (Mine.upd B ca o') := by
  obtain ⟨och, a, b⟩ := x.ch
  exact ⟨rfl, off_upd' x.o, x.d, mem_upd_of_ne x.cell x.n3, x.h.upd x.n1 (fun a h => h), ⟨o', mem_upd_self a, i⟩, x.n1, x.n2, x.n3⟩
theorem con_add {F : Fix} {h : List Int} {w : Int} (C : Con F h) (hw : IsLit F w) (h1 : w ∉ h) (h2 : -w ∉ h) : Con F (h ++ [w]) := by
  have h0 := hw.1
  refine ⟨List.nodup_append.mpr ⟨C.nd, by simp, fun a ha b hb e => ?_⟩, fun x hx => ?_, fun x hx hx2 => ?_⟩
  · rw [List.mem_singleton.mp hb] at e; exact h1 (e ▸ ha)
  · rcases List.mem_append.mp hx with z | z
    · exact C.lit x z
    · rw [List.mem_singleton.mp z]; exact hw
  · rcases List.mem_append.mp hx with z | z <;> rcases List.mem_append.mp hx2 with z2 | z2
    · exact C.opp x z z2
    · have := List.mem_singleton.mp z2
      exact h2 (by rw [← this, Int.neg_neg]; exact z)
    · rw [List.mem_singleton.mp z] at z2; exact h2 z2
    · have a := List.mem_singleton.mp z
      have b := List.mem_singleton.mp z2
      omega
theorem Stk.lastset {F : Fix} {sent : Int → List Int} {ls : List Lev} {H : List (List Int)} {cs : List Int} (S : Stk F sent ls H cs) : ∀ {hs h}, H = hs ++ [h] → ∀ ls' lv, ls = ls' ++ [lv] → ∀ x ∈ lv.set, x ∈ h := by
  cases S with
  | base g e =>
    intro hs h e1 ls' lv e2 x hx
    have a := List.append_inj' (s₁ := []) e1 rfl
    have a := List.singleton_inj.mp a.2
    have b := List.append_inj' (s₁ := []) e2 rfl
    have b := List.singleton_inj.mp b.2
    rw [← a]; exact (e x).mpr (by rw [b]; exact hx)
  | push S g e d _ =>
    intro hs h e1 ls' lv e2 x hx
    have a := List.append_inj' e1 rfl
    have a := List.singleton_inj.mp a.2
    have b := List.append_inj' e2 rfl
    have b := List.singleton_inj.mp b.2
    rw [← a]; exact (e x).mpr (.inr (by rw [b]; exact hx))
theorem Plain.fitS {w : World} {F : Fix} {N : Ledger} {adr : Role → Addr} {st : SS} {hs : List (List Int)} {h cs : List Int} (P : Plain F st hs h cs) (S : Small F) (So : Sol w F N adr st) : Fit F st := by
  refine P.fit S fun ls lv e => ?_
  obtain ⟨o, m, D⟩ := So.has (.lvS ls.length) (by show ls.length < st.lev.length; rw [e]; simp)
  have D : SetO w (st.lev.getD ls.length lev0).set o := D
  have hl : st.lev.getD ls.length lev0 = lv := by rw [e]; simp
  rw [hl] at D
  have h1 := nodup_le (m := h) D.nodup (P.stk.lastset rfl ls lv e)
  have G := P.stk.good rfl
  have h2 := lits_len G.con.nd G.con.lit
  have := S.many
  omega
theorem Sol.vsnd {w : World} {F : Fix} {N : Ledger} {adr : Role → Addr} {st : SS} (So : Sol w F N adr st) : st.vs.Nodup := by
  obtain ⟨o, m, D⟩ := So.has .vs trivial
  have D : SetO w st.vs o := D
  exact D.nodup
theorem setbad_eq {st : SS} (h : st.bad = false) : ({ st with bad := false } : SS) = st := by
  obtain ⟨a, b, c, d, e, f, g⟩ := st
  dsimp only at h
  subst h
  rfl
theorem Sol.setnd {w : World} {F : Fix} {N : Ledger} {adr : Role → Addr} {st : SS} (So : Sol w F N adr st) {ls : List Lev} {lv : Lev} (e : st.lev = ls ++ [lv]) : lv.set.Nodup := by
  obtain ⟨o, m, D⟩ := So.has (.lvS ls.length) (by show ls.length < st.lev.length; rw [e]; simp)
  have D : SetO w (st.lev.getD ls.length lev0).set o := D
  have hl : st.lev.getD ls.length lev0 = lv := by rw [e]; simp
  rw [hl] at D
  exact D.nodup
theorem Back.hlen {F : Fix} {st st' : SS} {ls : List Lev} {lv : Lev} {hs : List (List Int)} {U cs js : List Int} (B : Back F st ls lv hs U cs) (hn : lv.set.Nodup) (hj : js.Perm lv.set) (D : Undo F st js st') : st'.hp.length ≤ st.hp.length + 4 * F.many := by
  have h1 := D.hp.length_eq
  rw [List.length_append, entries_len, hj.length_eq] at h1
  have h2 := lits_len hn fun x hx => B.con.lit x ((B.vs x).mpr (.inr hx))
  omega
/-- the state at the head of a turn -/
def LoopI (w : World) (F : Fix) (c : Addr) (oc : Obj) (da la ha ca sI : Addr) (i : Nat) (N X : Ledger) : Prop :=
  ∃ A B adr st hs hh cs, Around_ F c oc da la ha ca (hs ++ [hh]) cs X A B ∧ Sol w F N adr st ∧ adr .inst = sI ∧ Plain F st hs hh cs ∧ HeapOk F st 0 ∧ st.hp.length ≤ 100 + 100 * i ∧ cs.length ≤ i
/-- behind the settling -/
def MidI (w : World) (F : Fix) (c : Addr) (oc : Obj) (da la ha ca sI : Addr) (i : Nat) (m : Str → Option Value) (N X : Ledger) : Prop :=
  ∃ A B adr st hs hh cs word tw, Around_ F c oc da la ha ca (hs ++ [hh]) cs X A B ∧ Sol w F N adr st ∧ adr .inst = sI ∧ HeapOk F st 0 ∧ st.hp.length ≤ 100 + 100 * i + 50 ∧ cs.length ≤ i ∧ m "word" = some (.int word tw) ∧
    ((m "due" = some .none ∧ ∃ ls lv, Back F st ls lv hs hh cs) ∨
     (∃ d Dd od, m "due" = some (.ref Dd) ∧ (Dd, od) ∈ B ∧ IntsO d od ∧ Dd ≠ ha ∧ Dd ≠ ca ∧ Plain F st (hs ++ [hh]) d (cs ++ [word])))
end Mine
end
section
open PySem PySem.W PySem.Calls PyProof.Rows
set_option Elab.async false
set_option maxRecDepth 100000
set_option linter.all false
namespace Mine

set_option hygiene false in
local macro_rules | `(tactic| walk_at "e") => `(tactic| ((with_reducible show T _ (eval _ _) _ _); first
  | ((with_reducible show T _ (eval (Expr.Name _ _) _) _ _); first
    | ((with_reducible show T _ (eval (Expr.Name "len" _) _) _ _); refine N_len S (by k_is) ?_)
    | ((with_reducible show T _ (eval (Expr.Name "abs" _) _) _ _); refine N_abs S (by k_is) ?_)
    | ((with_reducible show T _ (eval (Expr.Name "sorted" _) _) _ _); refine N_sorted S (by k_is) ?_)
    | ((with_reducible show T _ (eval (Expr.Name "list" _) _) _ _); refine N_list S (by k_is) ?_)
    | ((with_reducible show T _ (eval (Expr.Name "range" _) _) _ _); refine N_range S (by k_is) ?_)
    | ((with_reducible show T _ (eval (Expr.Name "set" _) _) _ _); refine N_set S (by k_is) ?_)
    | ((with_reducible show T _ (eval (Expr.Name "enumerate" _) _) _ _); refine N_enumerate S (by k_is) ?_)
    | refine T_loc S (by first | rfl | exact hn1 | exact hn2 | exact hn3 | exact hn4 | exact hn5) ?_
    | refine T_glob S (by k_is) ?_)
  | ((with_reducible show T _ (eval (Expr.Constant (Const.int _) _ _) _) _ _); refine T_int (fun t => ?_))
  | ((with_reducible show T _ (eval (Expr.Attribute _ _ _) _) _ _); refine T_attr ?_)
  | ((with_reducible show T _ (eval (Expr.Subscript _ _ _) _) _ _); refine T_item ?_)
  | ((with_reducible show T _ (eval (Expr.Call (Expr.Attribute _ _ _) _ [] _) _) _ _); refine T_Method ?_)
  | ((with_reducible show T _ (eval (Expr.Call _ _ [] _) _) _ _); refine T_Call ?_)
  | ((with_reducible show T _ (eval (Expr.BinOp _ _ _ _) _) _ _); refine T_binop ?_)
  | ((with_reducible show T _ (eval (Expr.UnaryOp _ _ _) _) _ _); refine T_unop ?_)
  | ((with_reducible show T _ (eval (Expr.Compare _ _ _ _) _) _ _); refine T_cmp ?_)
  | ((with_reducible show T _ (eval (Expr.Constant Const.none _ _) _) _ _); refine T_none ?_)
  | ((with_reducible show T _ (eval (Expr.Constant (Const.bool _) _ _) _) _ _); refine T_bool ?_)
  | ((with_reducible show T _ (eval (Expr.Constant (Const.str _) _ _) _) _ _); refine T_str (fun t => ?_))
  | ((with_reducible show T _ (eval (Expr.Dict [] [] _) _) _ _); refine T_dict0 (fun a h c => ?_))
  | ((with_reducible show T _ (eval (Expr.List _ _) _) _ _); refine T_list ?_)
  | ((with_reducible show T _ (eval (Expr.Tuple _ _ _) _) _ _); refine T_tuple ?_)
  | ((with_reducible show T _ (eval (Expr.BoolOp BoolOp.Or [_, _] _) _) _ _); refine T_or2 ?_)
  | ((with_reducible show T _ (eval (Expr.IfExp _ _ _ _) _) _ _); refine T_ifexp ?_)))
set_option hygiene false in
local macro_rules | `(tactic| walk_at "s") => `(tactic| first
  | ((with_reducible show T _ (execs (_ :: _) _) _ _); refine T_seq ?_)
  | ((with_reducible show T _ (execs [] _) _ _); refine T_nil ?_)
  | ((with_reducible show T _ (exec _ _) _ _); first
    | ((with_reducible show T _ (exec (Stmt.Assign [Expr.Name _ _] _ _) _) _ _); refine T_assign ?_)
    | ((with_reducible show T _ (exec (Stmt.If _ _ _ _) _) _ _); refine T_if ?_)
    | ((with_reducible show T _ (exec (Stmt.Return (some _) _) _) _ _); refine T_return ?_)
    | ((with_reducible show T _ (exec (Stmt.Return none _) _) _ _); refine T_return0 ?_)
    | ((with_reducible show T _ (exec (Stmt.Expr _ _) _) _ _); refine T_expr' ?_)
    | ((with_reducible show T _ (exec (Stmt.Assign [Expr.Attribute _ _ _] _ _) _) _ _); refine T_setattr_stmt ?_)
    | ((with_reducible show T _ (exec (Stmt.Assign [Expr.Subscript _ _ _] _ _) _) _ _); refine T_setitem_stmt ?_)
    | ((with_reducible show T _ (exec (Stmt.For (Expr.Name _ _) _ _ [] _) _) _ _); refine T_for ?_)
    | ((with_reducible show T _ (exec (Stmt.AugAssign (Expr.Name _ _) _ _ _) _) _ _); refine T_aug_name ?_)
    | ((with_reducible show T _ (exec (Stmt.AugAssign (Expr.Subscript _ _ _) _ _ _) _) _ _); refine T_aug_item ?_)
    | ((with_reducible show T _ (exec (Stmt.Pass _) _) _ _); refine T_pass ?_)
    | ((with_reducible show T _ (exec (Stmt.Break _) _) _ _); refine T_break ?_)
    | ((with_reducible show T _ (exec (Stmt.Continue _) _) _ _); refine T_continue ?_))
  | ((with_reducible show T _ (storeName _ _ _) _ _); refine T_store S (fun h S => ?_))
  | ((with_reducible show T _ (isTrue _ _ _) _ _); first
    | ((with_reducible show T _ (isTrue (Expr.Compare _ _ _ _) _ _) _ _); refine T_isTrue_cmp ?_)
    | ((with_reducible show T _ (isTrue (Expr.UnaryOp UnaryOp.Not _ _) _ _) _ _); refine T_isTrue_not ?_)
    | ((with_reducible show T _ (isTrue (Expr.BoolOp BoolOp.Or [_, _] _) _ _) _ _); refine T_isTrue_or2 ?_)
    | ((with_reducible show T _ (isTrue (Expr.BoolOp BoolOp.And [_, _] _) _ _) _ _); refine T_isTrue_and2 ?_)
    | ((with_reducible show T _ (isTrue (Expr.BoolOp BoolOp.And [_, _, _] _) _ _) _ _); refine T_isTrue_and3 ?_)
    | (refine T_isTrue_val ?_))
  | ((with_reducible show T _ (truthy (Value.bool _)) _ _); refine T_truthy_bool ?_)
  | ((with_reducible show T _ (truthy (Value.int _ _)) _ _); refine T_truthy_int ?_)
  | ((with_reducible show T _ (truthy Value.none) _ _); refine T_truthy_none ?_)
  | ((with_reducible show T _ (PySem.call (Value.builtin "abs") ([] ++ [Value.int _ _])) _ _); refine T_abs (fun t => ?_))
  | ((with_reducible show Args _ _ (_ :: _) _ _); refine Args_cons ?_)
  | ((with_reducible show Args _ _ [] _ _); refine Args_nil ?_)
  | ((with_reducible show T _ (callWith _ (Value.builtin _) _ _ _) _ _); refine CW_bi ?_)
  | ((with_reducible show T _ (callWith _ (Value.type _) _ _ _) _ _); refine CW_ty ?_)
  | ((with_reducible show T _ (binaryOp Operator.Add (Value.int _ _) (Value.int _ _)) _ _); refine T_add (fun t => ?_))
  | ((with_reducible show T _ (binaryOp Operator.Sub (Value.int _ _) (Value.int _ _)) _ _); refine T_sub (fun t => ?_))
  | ((with_reducible show T _ (unaryOp UnaryOp.USub (Value.int _ _)) _ _); refine T_neg (fun t => ?_))
  | ((with_reducible show T _ (compareOp CmpOp.Eq (Value.int _ _) (Value.int _ _)) _ _); refine T_eq ?_)
  | ((with_reducible show T _ (compareOp CmpOp.NotEq (Value.int _ _) (Value.int _ _)) _ _); refine T_ne ?_)
  | ((with_reducible show T _ (compareOp CmpOp.Lt (Value.int _ _) (Value.int _ _)) _ _); refine T_lt ?_)
  | ((with_reducible show T _ (compareOp CmpOp.Gt (Value.int _ _) (Value.int _ _)) _ _); refine T_gt ?_)
  | ((with_reducible show T _ (compareOp CmpOp.Is _ Value.none) _ _); refine T_is_none ?_)
  | ((with_reducible show T _ (compareOp CmpOp.IsNot _ Value.none) _ _); refine T_isnot_none ?_)
  | walk_at "e")
set_option hygiene false in
local macro_rules | `(tactic| walk_at "w") => `(tactic| repeat (walk_at "s"))
theorem fill_fragL1 : (PySem.Challenge.rw_at6042_01, Mine.hd.heap_39) = (PySem.Challenge.rw_at6042_01, Mine.hd.heap_39) := by k_fill; rfl
section
variable {κ : Kx} {h H : Heap} {L : Addr} {l : List (Str × Value)} {N M X A B : Ledger} {n : Nat}
theorem St.toA (S : St κ.w H L l N X h) : St κ.w H L l [] (N ++ X) h :=
  ⟨S.top, S.ns, S.keep, S.offL, (fun p hp => nomatch hp), fun p hp => (List.mem_append.mp hp).elim (S.n p) (S.x p), fun p _ q hq => nomatch hq⟩
theorem upd_app (o : Off B A) {d : Addr} {ob o₀ : Obj} (hd : (d, o₀) ∈ B) : Mine.upd (A ++ B) d ob = A ++ Mine.upd B d ob := by
  unfold Mine.upd
  rw [List.map_append]
  congr 1
  conv => rhs; rw [← List.map_id A]
  exact List.map_congr_left fun p hp => if_neg fun e => o _ hd p hp e.symm
theorem off_upd (o : Off B A) {d : Addr} {ob : Obj} : Off (Mine.upd B d ob) A := fun p hp q hq z => by
  have hm : p.1 ∈ B.map (·.1) := by rw [← upd_fst B d ob]; exact List.mem_map_of_mem hp
  obtain ⟨r, hr, e⟩ := List.mem_map.mp hm
  exact o r hr q hq (e.trans z)
theorem T_store_cellB {env : Env} {x : Str} {v : Value} {c : Addr} {ob : Obj} {v0 : Option Value} {Q : Unit → Heap → Prop} (S : St κ.w H L l N (A ++ B) h) (o : Off B A) (hc : env.cells.lookup x = some c) (hm : (c, ob) ∈ B) (ho : ob.data = .cell v0)
    (q : ∀ h' o', o'.data = .cell (some v) → St κ.w H L l N (A ++ Mine.upd B c o') h' → Off (Mine.upd B c o') A → Q () h') (hk : env.scope.kind = .function := by rfl) (hx : env.kindOf x = some .cell := by rfl) : T κ (storeName env x v) Q h :=
  T_store_cell S hc (List.mem_append_right _ hm) ho (fun h' o' hd S' => by
    rw [upd_app o hm] at S'
    exact q h' o' hd S' (off_upd o)) hk hx
theorem St.hidX (S : St κ.w H L l N X h) {a : Addr} {ob : Obj} (hp : (a, ob) ∈ X) : (hid h N).get? a = some ob := hid_get (S.gx hp) fun hm => by
  obtain ⟨q, hq, e⟩ := List.mem_map.mp hm
  exact S.off _ hp q hq e.symm
/-- all but the named parts goes to the base -/
theorem St.rest {A' B' : Ledger} (S : St κ.w H L l N X h) (k : ∀ p ∈ A' ++ B', p ∈ X) : St κ.w (St.reb L N (A' ++ B') h) L l N (A' ++ B') h := (S.dropX k).rebase
theorem RowsL.heap {NR : Ledger} {ra : Addr} {rows : List (List Int)} {P : Addr → Prop} (x : RowsL NR ra rows P) (led : ∀ p ∈ NR, H.get? p.1 = some p.2) : RowsH H ra rows := by
  obtain ⟨o, vs, m, L, hl, hv⟩ := x.has
  exact ⟨o, vs, led _ m, L, hl, fun i v hi => let ⟨T, oT, e1, e2, e3, _⟩ := hv i v hi; ⟨T, oT, e1, led _ e2, e3⟩⟩
def fixOf (rows : List (List Int)) (many : Nat) : Fix := ⟨rows, many, fun l => -(((rows.filter fun r => decide (1 < r.length) && decide (l ∈ r)).length : Nat) : Int)⟩
theorem fixOf_sc (rows : List (List Int)) (many : Nat) : ScOk (fixOf rows many) := fun _ _ => rfl
theorem rowsOk_of {many : Nat} {rows : List (List Int)} (G : RowsGood many rows) : RowsOk (fixOf rows many) :=
  ⟨fun r hr => (G.row r hr).1, fun r hr => (G.row r hr).2.1.1, fun r hr => (G.row r hr).2.1.2.1, fun r hr c hc => (G.row r hr).2.1.2.2 c hc⟩
set_option maxHeartbeats 8000000 in
theorem law_spec (R : Room κ (n + 20)) (top : TopIn κ.w (hid h [])) {s : Addr} {os : Obj} {S0 : List Int} {vs : List Value} (es : h.get? s = some os) (Ls : ∀ h' : Heap, h'.get? s = some os → h'.IsList s vs.toArray) (is : IntsAre vs S0) (hl : S0.length ≤ 63) :
    C κ (.call (.ref 279) ⟨[.ref s], []⟩) (Out h [] fun v _ => v = .bool true) h := by
  refine C_defC [("script", .ref s)] [("script", .ref s)] (fun y => none) (n := n + 19) R top (fun p hp => nomatch hp) (by k_is) (by k_is) (by rfl) (fun m => ?_) (fun L cl => ?_) (fun L cl => ?_) (fun κ L h₁ X0 ew hX0 S R => ?_)
  · intro y hy
    rw [List.mem_singleton.mp hy]; exact .inl rfl
  · funext y; rfl
  · funext y; rfl
  rw [← ew] at top
  have es : (hid h []).get? s = some os := keep_hid0 h _ _ es
  generalize hid h [] = G at S top es ⊢
  obtain ⟨oc, mc, hc⟩ := hX0 "solver" (L + 1) (by rfl)
  clear hX0 ew
  replace S := S.dropX (X' := [(L + 1, oc)]) fun p hp => by rw [List.mem_singleton.mp hp]; exact mc
  clear mc
  walk_at "w"
  refine CW_K (by k_is) ?_
  walk_at "w"
  refine ⟨S.kin, T_out S (draw_spec (n := n + 16) (R.le (by omega)) S.topN (S.base es) Ls is (by omega)) fun v A h ⟨da, la, e1, D⟩ S1 => ?_⟩
  subst e1
  clear S
  have o := S1.off
  have S := S1.toA
  clear S1
  walk_at "w"
  refine CW_K (by k_is) ?_
  walk_at "w"
  refine ⟨S.kin, T_takeA (n := n + 14) (R.le (by omega)) S o D (by decide) fun x tx A1 h x0 x4 D1 S1 o1 => ?_⟩
  clear S o D
  have S := S1
  have o := o1
  have D := D1
  clear S1 o1 D1
  walk_at "w"
  obtain ⟨many, hmany⟩ : ∃ many : Nat, 2 + x = (many : Int) := ⟨(2 + x).toNat, by omega⟩
  rw [hmany] at S
  have hm : 2 ≤ many ∧ many ≤ 5 := by omega
  clear hmany x0 x4
  walk_at "w"
  refine CW_K (by k_is) ?_
  walk_at "w"
  refine ⟨S.kin, T_outA S o (clauses_spec (n := n + 11) (R.le (by omega)) (SA_top S) (SA_led S) D hm) fun v A2 h ⟨ND, NR, ra, rows, e1, e2, D1, hrl, oNR, hgood⟩ S1 o1 => ?_⟩
  subst e1 e2
  clear S o D
  have S := S1
  have D := D1
  have o : Off [(L + 1, oc)] ND := fun p hp q hq => o1 p hp q (List.mem_append_left _ hq)
  have k1 : ∀ p ∈ ND ++ [(L + 1, oc)], p ∈ ND ++ NR ++ [(L + 1, oc)] := fun p hp => by
    rcases List.mem_append.mp hp with z | z
    · exact List.mem_append_left _ (List.mem_append_left _ z)
    · exact List.mem_append_right _ z
  have hK : Keep G (St.reb L [] (ND ++ [(L + 1, oc)]) h) := (S1.dropX k1).sub_reb
  have hrH : RowsH (St.reb L [] (ND ++ [(L + 1, oc)]) h) ra rows := hrl.heap fun p hp => by
    have hx : p ∈ ND ++ NR ++ [(L + 1, oc)] := List.mem_append_left _ (List.mem_append_right _ hp)
    refine St.reb_get (S1.gx hx) (S1.x _ hx).2.1 (by simp) fun hm => ?_
    obtain ⟨q, hq, e⟩ := List.mem_map.mp hm
    rcases List.mem_append.mp hq with z | z
    · exact oNR p hp q z e.symm
    · exact o1 q z p (List.mem_append_right _ hp) e
  have S := S1.rest k1
  clear S1 o1 k1 hrl oNR
  have topG := S.top
  generalize St.reb L [] (ND ++ [(L + 1, oc)]) h = H at S hK hrH topG
  have hF : ∃ F, F = fixOf rows many := ⟨_, rfl⟩
  obtain ⟨F, hF⟩ := hF
  have fr : F.rows = rows := by rw [hF]; rfl
  have fm : F.many = many := by rw [hF]; rfl
  have RO : RowsOk F := by rw [hF]; exact rowsOk_of hgood
  have scok : ScOk F := by rw [hF]; exact fixOf_sc _ _
  have hrl : F.rows.length ≤ 6 := by rw [fr]; exact hgood.len
  have hlen3 : ∀ r ∈ F.rows, r.length ≤ 3 := by rw [fr]; exact fun r hr => (hgood.row r hr).2.2
  have hlenK : ∀ r ∈ F.rows, r.length ≤ 1000 := fun r hr => by have := hlen3 r hr; omega
  have sm : Small F := ⟨by rw [fm]; omega, by omega⟩
  have hOk : Ok F := ⟨fun i => rowAt_lit RO i, by rw [fm]; omega, by omega⟩
  rw [← fr] at hrH
  rw [← fm] at S hm
  clear hF hgood fr fm
  walk_at "w"
  refine CW_K (by k_is) ?_
  walk_at "w"
  refine T_range2 fun r1 h v1 c1 => ?_
  obtain ⟨S1, o1⟩ := S.newB o c1
  clear S o
  have S := S1
  walk_at "w"
  refine T_set_new (fun vsA h ovs Dvs c2 => ?_)
  replace S := S.newN c2
  walk_at "w"
  refine T_range2 fun r2 h v2 c3 => ?_
  obtain ⟨S2, o2⟩ := S.newB o1 c3
  clear S S1 o1
  have S := S2
  walk_at "w"
  refine T_list_range R.handled (S.gx (List.mem_append_right _ (.head _))) (by omega) (by omega) fun sy h osy Isy c4 => ?_
  obtain ⟨S3, o3⟩ := S.newB o2 c4
  clear S S2 o2
  have S := S3
  clear S3
  have hvx : ∀ {p : Addr × Obj}, p ∈ ND ++ ((sy, osy) :: (r2, rangeO 1 ((F.many : Int) + 1) _ _ v2) :: (r1, rangeO 1 ((F.many : Int) + 1) _ _ v1) :: [(L + 1, oc)]) → p.1 ∉ [(vsA, ovs)].map (·.1) := fun {p} hp hm => S.off p hp (vsA, ovs) (.head _) (List.mem_singleton.mp hm)
  refine ⟨S.kin, T_newsolver (F := F) (n := n + 5) (t := _) (u := _) (v := v1) (R.le (by omega)) S RO hrl hlen3 (by omega) scok (hrH.keep fun b o e => hid_get (S.base e) fun hm => ?_) (hid_get (S.gx (List.mem_append_right _ (.tail _ (.tail _ (.head _))))) (hvx (List.mem_append_right _ (.tail _ (.tail _ (.head _)))))) Dvs fun NS h adr st So hfresh S1 => ?_⟩
  · have hm : b = vsA := List.mem_singleton.mp hm
    have := (S.n _ (.head _)).2.2
    rw [hm] at e
    rw [e] at this; cases this
  clear S hvx
  have o : Off [(L + 1, oc)] ND := fun p hp q hq => o3 p (.tail _ (.tail _ (.tail _ hp))) q hq
  have S := S1.dropX (X' := ND ++ [(L + 1, oc)]) fun p hp => by
    rcases List.mem_append.mp hp with z | z
    · exact List.mem_append_left _ z
    · exact List.mem_append_right _ (.tail _ (.tail _ (.tail _ z)))
  clear S1 o3 Dvs c1 c2 c3 c4 Isy
  refine T_store_cellB S o (by rfl) (.head _) hc (fun h oc2 hc2 S1 o1 => ?_)
  have e1 : Mine.upd [(L + 1, oc)] (L + 1) oc2 = [(L + 1, oc2)] := by simp [Mine.upd]
  rw [e1] at S1 o1
  clear S o hc
  have hc := hc2
  clear hc2
  have S := S1
  have o := o1
  clear S1 o1 e1
  obtain ⟨sI, hsI⟩ : ∃ sI, adr .inst = sI := ⟨_, rfl⟩
  rw [hsI] at hc
  walk_at "w"
  refine CW_K (by k_is) ?_
  walk_at "w"
  refine ⟨by decide, fun e0 h c1 => ?_⟩
  obtain ⟨S1, o1⟩ := S.newB o c1
  clear S o
  have S := S1
  clear S1
  walk_at "w"
  refine ⟨S.kin, T_out0 S o1 (brought_spec (F := F) (n := n + 15) (R.le (by omega)) (top0 S) (hrH.keep S.keep) RO sm hlenK (S.gx (List.mem_append_right _ (.head _))) ⟨[], LsO.new [], .nil⟩ ⟨.nil, (fun c h => nomatch h), fun c h => nomatch h⟩) fun vB N2 h ⟨ob, hB, hv⟩ S2 o2 _ => ?_⟩
  clear S o1
  have S := S2
  clear S2
  walk_at "w"
  refine T_cell (c := L + 1) (by rfl) (S.gx (List.mem_append_right _ (List.mem_append_right _ (.tail _ (.head _))))) hc ?_
  have hJ0 := start_JJ RO sm hfresh.vs hfresh.vset hfresh.ini hfresh.bad hfresh.lev
  rw [← hsI]
  refine T_smeth S So K_simplify (fun f ok => ok.m5) ?_
  refine CW_K (by k_is) ?_
  walk_at "w"
  refine ⟨S.kin, T_out S (simp_spec (n := n + 9) (R.le (by omega)) S.topN S.ledN So hOk (JJ F (cfg0 st)) (unset F) (fun st => st.q.length) (fun st J => J.fit sm) (JJ.step0 RO) hJ0) fun v N3 h ⟨e1, adr1, st1, J1, hadr1, hpost⟩ S1 => ?_⟩
  subst e1
  have hsI1 : adr1 .inst = sI := (hadr1 .inst (by decide)).trans hsI
  clear S So hJ0 hadr1
  have S := S1
  clear S1
  rcases hpost with ⟨hq, So⟩ | ⟨q, lit, hq, hcl, So⟩
  · obtain ⟨d, rfl, hcd, hdv⟩ := J1.agree RO hq hB
    obtain ⟨Dd, od, rfl, mD, iD⟩ := hv
    walk_at "w"
    refine T_cell (c := L + 1) (by rfl) (S.gx (List.mem_append_right _ (List.mem_append_right _ (.tail _ (.head _))))) hc ?_
    rw [← hsI1]
    refine T_sat S So A_bad (fun f ok => ok.bad) rfl ?_
    rw [J1.bad]
    walk_at "w"
    refine T_isNot_bool ?_
    walk_at "w"
    refine ⟨fun hb => (by cases hb), fun _ => ?_⟩
    walk_at "w"
    refine ⟨fun hb => (by cases hb), fun _ => ?_⟩
    walk_at "w"
    have hpl : Plain F st1 [] d [] := start_plain J1 hq hcd hdv
    have hhp : HeapOk F st1 0 := start_heap hfresh.hp J1.hp
    have hhl : st1.hp.length ≤ 100 := by
      have h1 : st1.hp = st.hp := J1.hp
      rw [h1, start_hlen hfresh.hp]; omega
    have hl1 : st1.lev.length = 1 := by have := hpl.stk.len; simpa using this.1
    refine CW_K (by k_is) ?_
    walk_at "w"
    refine T_cell (c := L + 1) (by rfl) (S.gx (List.mem_append_right _ (List.mem_append_right _ (.tail _ (.head _))))) hc ?_
    walk_at "w"
    refine ⟨S.kin, ?_⟩
    rw [← hsI1]
    refine T_outRo S S.ledN (alike_spec (n := n + 13) (R.le (by omega)) S.topN S.ledN So (hrH.keep S.keepHid) sm (by omega) hlenK (S.hidX (List.mem_append_right _ (List.mem_append_left _ mD))) iD hcd (fun x => (hdv x).symm) hpl.vset) fun v h hv S1 _ => ?_
    subst hv
    clear S
    have S := S1
    clear S1
    walk_at "w"
    refine ⟨fun hb => (by cases hb), fun _ => ?_⟩
    walk_at "w"
    refine T_cell (c := L + 1) (by rfl) (S.gx (List.mem_append_right _ (List.mem_append_right _ (.tail _ (.head _))))) hc ?_
    rw [← hsI1]
    refine T_level (n := n + 14) (R.le (by omega)) S So (by intro e; rw [e] at hl1; simp at hl1) (fun h S1 => ?_)
    clear S
    have S := S1
    clear S1
    walk_at "w"
    refine T_cell (c := L + 1) (by rfl) (S.gx (List.mem_append_right _ (List.mem_append_right _ (.tail _ (.head _))))) hc ?_
    rw [← hsI1]
    refine T_sat S So A_lv (fun f ok => ok.lv) rfl ?_
    walk_at "w"
    obtain ⟨olv, mlv, Llv⟩ := So.has .lv trivial
    have Llv : LsO ((List.range st1.lev.length).map fun k => .ref (adr1 (.lvI k))) olv := Llv
    rw [hl1] at Llv ⊢
    refine T_item_list Llv (S.gn mlv) (by decide) (by decide) rfl ?_
    refine T_isNot_same ?_
    walk_at "w"
    refine ⟨fun hb => (by cases hb), fun _ => ?_⟩
    walk_at "w"
    refine ⟨by show 1 ≤ sizeLine; decide, fun ha h ch => ?_⟩
    have S : St κ.w H L _ N3 (ND ++ (N2 ++ ((e0, lso [] 0) :: [(L + 1, oc2)]))) _ := S
    obtain ⟨S1, o3⟩ := S.newB o2 ch
    have fha : ∀ p ∈ N2 ++ ((e0, lso [] 0) :: [(L + 1, oc2)]), p.1 ≠ ha := fun p hp e => by have := S.gx (List.mem_append_right _ hp); rw [e, ch.fresh] at this; cases this
    clear S o2
    have S := S1
    clear S1
    walk_at "w"
    refine ⟨by decide, fun ca h cc => ?_⟩
    obtain ⟨S1, o4⟩ := S.newB o3 cc
    have fca : ∀ p ∈ ((ha, lso [.ref Dd] 0) :: (N2 ++ ((e0, lso [] 0) :: [(L + 1, oc2)]))), p.1 ≠ ca := fun p hp e => by have := S.gx (List.mem_append_right _ hp); rw [e, cc.fresh] at this; cases this
    clear S o3
    have S := S1
    clear S1
    have AR : Around_ F (L + 1) oc2 da la ha ca ([] ++ [d]) [] (ND ++ ((ca, lso [] 0) :: (ha, lso [.ref Dd] 0) :: (N2 ++ ((e0, lso [] 0) :: [(L + 1, oc2)])))) ND ((ca, lso [] 0) :: (ha, lso [.ref Dd] 0) :: (N2 ++ ((e0, lso [] 0) :: [(L + 1, oc2)]))) := by
      refine ⟨rfl, o4, D, by simp, ⟨_, [.ref Dd], .tail _ (.head _), ⟨0, rfl⟩, rfl, fun i v hi => ?_⟩, ⟨_, .head _, [], LsO.new [], .nil⟩, fca _ (.head _), fha (L + 1, oc2) (by simp), fca (L + 1, oc2) (by simp)⟩
      match i, hi with
      | 0, hi => exact ⟨Dd, od, (Option.some.inj hi).symm, .tail _ (.tail _ (List.mem_append_left _ mD)), iD, fha _ (List.mem_append_left _ mD), fca _ (.tail _ (List.mem_append_left _ mD))⟩
      | i + 1, hi => simp at hi
    have S : St κ.w H L _ N3 (ND ++ ((ca, lso [] 0) :: (ha, lso [.ref Dd] 0) :: (N2 ++ ((e0, lso [] 0) :: [(L + 1, oc2)])))) _ := S
    generalize ((ca, lso [] 0) :: (ha, lso [.ref Dd] 0) :: (N2 ++ ((e0, lso [] 0) :: [(L + 1, oc2)]))) = B at S AR o4
    clear fha fca ch cc mD iD o4 J1 hB hfresh hdv hcd
    walk_at "w"
    refine CW_K (by k_is) ?_
    walk_at "w"
    refine ⟨S.kin, T_takeA (n := n + 14) (R.le (by omega)) S AR.o AR.d (by decide) fun x tx A2 h x0 x9 D2 S1 o5 => ?_⟩
    have AR2 := AR.draw o5 D2
    clear S AR D
    have S := S1
    clear S1
    walk_at "w"
    refine T_range1 fun r1 h t v c => ?_
    obtain ⟨S1, o6⟩ := S.newB o5 c
    have AR := AR2.more o6 (fun p hp => .tail _ hp)
    clear S AR2 o5
    have S := S1
    clear S1
    refine T_iter_range R (S.gx (List.mem_append_right _ (.head _))) (by omega) (by omega) fun I h' it => ?_
    have hcnt : (x - 0).toNat ≤ 8 := by omega
    refine ForAt.mk4 ["way", "word", "due"] S it (fun i m N' X' => LoopI κ.w F (L + 1) oc2 da la ha ca sI i N' X') (fun N' X' => LoopI κ.w F (L + 1) oc2 da la ha ca sI 20 N' X')
      ⟨_, _, adr1, st1, [], d, [], AR, So, hsI1, hpl, hhp, by omega, Nat.le_refl _⟩ (fun i m N' X' _ p hp => nomatch hp) (fun i v l2 N4 X4 H4 h4 hk4 hi hP hI hl2 S4 => ?_) (fun m N' X' hI => ?_) (fun l2 N4 X4 h4 hI hl2 S4 => ?_)
    · clear S AR it So hpl hhp hhl hl1
      obtain ⟨A3, B3, adr3, st3, hs3, hh3, cs3, AR, So, hI, hpl, hhp, hhl, hcl⟩ := hI
      have hx := AR.x
      subst hx
      obtain ⟨tv, rfl⟩ := hP
      have S := S4
      clear S4
      have hi8 : i < 8 := by omega
      have hn1 : look l2 "draw" = some (.ref da) := (hl2 "draw" (by decide) (by decide)).trans rfl
      have hn2 : look l2 "rows" = some (.ref ra) := (hl2 "rows" (by decide) (by decide)).trans rfl
      have hn3 : look l2 "many" = some (.int F.many _) := (hl2 "many" (by decide) (by decide)).trans rfl
      have hn4 : look l2 "history" = some (.ref ha) := (hl2 "history" (by decide) (by decide)).trans rfl
      have hn5 : look l2 "choices" = some (.ref ca) := (hl2 "choices" (by decide) (by decide)).trans rfl
      walk_at "w"
      refine CW_K (by k_is) ?_
      walk_at "w"
      refine ⟨S.kin, T_takeA (n := n + 14) (R.le (by omega)) S AR.o AR.d (by decide) fun way tw A4 h w0 w4 D4 S1 o4 => ?_⟩
      have AR4 := AR.draw o4 D4
      clear S AR
      have S := S1
      have AR := AR4
      clear S1 AR4 o4 D4
      refine T_store S (fun h S => ?_)
      refine T_seq (T_cut (fun h' => ∃ l' N' X', St κ.w H4 L l' N' X' h' ∧ (∀ y : Str, y ≠ "turn" → y ∉ (["way", "word", "due"] : List Str) → look l' y = look l2 y) ∧ MidI κ.w F (L + 1) oc2 da la ha ca sI i (look l') N' X') ?_ (fun h' hM => ?_))
      · refine T_if (T.mono (Q := fun b h' => ∃ B5, St κ.w H4 L (("way", .int way tw) :: ("turn", .int (0 + (i : Int)) tv) :: l2) N4 (A4 ++ B5) h' ∧ Around_ F (L + 1) oc2 da la ha ca (hs3 ++ [hh3]) cs3 (A4 ++ B5) A4 B5 ∧ (b = false → cs3 ≠ [] ∧ 2 ≤ way)) ?_ fun b h' z => ⟨fun hb => ?_, fun hb => ?_⟩)
        · walk_at "w"
          refine ⟨fun hb => ?_, fun hb => ?_⟩
          · exact ⟨_, S, AR, fun h => by cases h⟩
          · have hb := of_decide_eq_false hb
            walk_at "w"
            refine ⟨by decide, fun e1 h c1 => ?_⟩
            obtain ⟨S1, o1⟩ := S.newB AR.o c1
            have AR1 := AR.more o1 (fun p hp => .tail _ hp)
            obtain ⟨och, mch, ich⟩ := AR.ch
            refine T_eq_ints R (S1.gx (List.mem_append_right _ (.tail _ mch))) ich (S1.gx (List.mem_append_right _ (.head _))) ⟨[], LsO.new [], .nil⟩ ?_
            walk_at "w"
            exact ⟨_, S1, AR1, fun h => ⟨of_decide_eq_false h, by omega⟩⟩
        · obtain ⟨B5, S1, AR1, _⟩ := z
          clear S AR hb
          have S := S1
          have AR := AR1
          clear S1 AR1
          walk_at "w"
          refine T_cell (c := L + 1) (by rfl) (S.gx (List.mem_append_right _ AR.cell)) hc ?_
          rw [← hI]
          refine T_smeth S So K_calc (fun f ok => ok.m8) ?_
          refine CW_K (by k_is) ?_
          walk_at "w"
          refine ⟨S.kin, T_out S (calc_spec (n := n + 16) (R.le (by omega)) S.topN S.ledN So (fun p hp => (hhp.ok p hp).1) (by omega) (by have := sm.many; omega)) fun v N5 h ⟨lit, tl, st5, e, So5, hbut, hcalc⟩ S1 => ?_⟩
          subst e
          clear S So
          have S := S1
          have So := So5
          clear S1 So5
          have hpl5 := hpl.butHp hbut
          have hhpW := Calc.heap hhp hbut hcalc
          have hhl5 : st5.hp.length ≤ 100 + 100 * i := Nat.le_trans hcalc.len hhl
          walk_at "w"
          refine CW_K (by k_is) ?_
          walk_at "w"
          obtain ⟨oh, pp, Tr, oT, mh, Lh, hpp, mT, iT, nT1, nT2, hvv⟩ := AR.h.last
          refine T_item_last Lh (S.gx (List.mem_append_right _ mh)) ?_
          walk_at "w"
          refine ⟨S.kin, T_out0 S AR.o (choice_spec (F := F) (n := n + 15) (R.le (by omega)) (top0 S) ((hrH.keep hk4).keep S.keep) sm hlenK (S.gx (List.mem_append_right _ mT)) iT) fun v N6 h ⟨nn, tn, e, hch⟩ S1 o6 _ => ?_⟩
          subst e
          have AR1 := AR.more o6 (fun p hp => List.mem_append_right _ hp)
          clear S AR mh Lh hpp mT iT nT1 nT2 hvv
          have S := S1
          have AR := AR1
          clear S1 AR1 o6
          obtain ⟨hlit, hlit2⟩ := Plain.choice hpl hhp scok hcalc hch
          subst hlit
          clear hpl hhp hch hcalc hbut
          have hpl := hpl5
          clear hpl5
          walk_at "w"
          refine ⟨fun hb => (by simp at hb), fun _ => ?_⟩
          walk_at "w"
          refine ⟨fun hb => ?_, fun hb => ?_⟩
          · have hb : lit = 0 := by simpa using hb
            walk_at "w"
            refine ⟨_, _, _, S, fun y h1 h2 => ?_, _, _, adr3, st5, hs3, hh3, cs3, AR, So, (by first | exact hI | rfl), hpl, by rw [hb] at hhpW; exact hhpW, by omega, by omega⟩
            have e1 : y ≠ "word" := fun e => h2 (by rw [e]; simp)
            have e2 : y ≠ "way" := fun e => h2 (by rw [e]; simp)
            simp only [look, if_neg h1, if_neg e1, if_neg e2]
            exact hl2 y h1 h2
          · have hb : lit ≠ 0 := by simpa using hb
            obtain ⟨hw, hw1, hw2⟩ := hlit2 hb
            walk_at "w"
            refine CW_K (by k_is) ?_
            walk_at "w"
            obtain ⟨oh, pp, Tr, oT, mh, Lh, hpp, mT, iT, nT1, nT2, hvv⟩ := AR.h.last
            have GG := hpl.stk.good rfl
            have hhl9 := lits_len GG.con.nd GG.con.lit
            obtain ⟨vT, LT, iT⟩ := iT
            have hvT := iT.length
            refine T_item_last Lh (S.gx (List.mem_append_right _ mh)) ?_
            walk_at "w"
            refine ⟨by show 1 ≤ sizeLine; decide, fun e1 h c1 => ?_⟩
            obtain ⟨S1, o1⟩ := S.newB AR.o c1
            have AR1 := AR.more o1 (fun p hp => .tail _ hp)
            clear S AR
            have S := S1
            clear S1
            refine T_add_list (S.gx (List.mem_append_right _ (.tail _ mT))) LT (S.gx (List.mem_append_right _ (.head _))) (LsO.new _) (by simp; omega) fun r h oR LR cR => ?_
            obtain ⟨S1, o2⟩ := S.newB o1 cR
            have AR2 := AR1.more o2 (fun p hp => .tail _ hp)
            clear S AR1 o1
            have S := S1
            clear S1
            walk_at "w"
            refine ⟨S.kin, T_out0 S o2 (brought_spec (F := F) (n := n + 15) (R.le (by omega)) (top0 S) ((hrH.keep hk4).keep S.keep) RO sm hlenK (S.gx (List.mem_append_right _ (.head _))) ⟨_, LR, ints_app iT (.cons _ _ .nil)⟩ (con_add GG.con hw hw1 hw2)) fun vB N7 h ⟨ob, hB, hv⟩ S1 o7 fr7 => ?_⟩
            have nD : ∀ p ∈ N7, p.1 ≠ ha ∧ p.1 ≠ ca := fun p hp => by
              obtain ⟨oh2, _, mh2, _⟩ := AR2.h.has
              obtain ⟨och2, mc2, _⟩ := AR2.ch
              exact ⟨fun e => (by have := S.gx (List.mem_append_right _ mh2); rw [← e, fr7 p hp] at this; cases this), fun e => (by have := S.gx (List.mem_append_right _ mc2); rw [← e, fr7 p hp] at this; cases this)⟩
            have AR := AR2.more o7 (fun p hp => List.mem_append_right _ hp)
            clear S AR2 o2
            have S := S1
            clear S1
            walk_at "w"
            refine CW_K (by k_is) ?_
            walk_at "w"
            refine T_cell (c := L + 1) (by rfl) (S.gx (List.mem_append_right _ AR.cell)) hc ?_
            walk_at "w"
            refine ⟨S.kin, ?_⟩
            rw [← hI]
            refine T_out S (settle_spec (n := n + 5) (R.le (by omega)) S.topN S.ledN So hOk hw (JW F st5 hh3 lit false) (unset F) (fun st => st.q.length) (fun st J => J.1.fit sm) (JW.step RO) (fun st J => J.1.bad) (hpl.fitS sm So) (by have := hpl.stk.len; simp at this; omega) (fun js hjs => hpl.first RO sm hw hw1 hw2 js hjs)) fun v N8 h ⟨adr8, st8, J8, hadr8, hpost⟩ S1 => ?_
            clear S
            have S := S1
            clear S1
            have hI8 : adr8 .inst = sI := hadr8.trans hI
            obtain ⟨hH8, hP8⟩ := J8.heap hpl hhpW
            rcases hpost with ⟨rfl, hq, So8⟩ | ⟨rfl, ⟨q, lq, hq, hcl8⟩, So8⟩
            · obtain ⟨d8, rfl, hcd, hdv⟩ := J8.1.agree RO hq hB
              obtain ⟨Dd8, od8, rfl, mD, iD⟩ := hv
              walk_at "w"
              refine T_isNot_bool ?_
              walk_at "w"
              refine ⟨fun hb => (by cases hb), fun _ => ?_⟩
              walk_at "w"
              have hpl8 := JJ.plain hpl J8.1 J8.2 hw1 hq hcd hdv
              rw [setbad_eq J8.1.bad] at So8
              refine ⟨_, _, _, S, fun y h1 h2 => ?_, _, _, adr8, st8, hs3, hh3, cs3, lit, _, AR, So8, (by first | exact hI8 | exact hadr8), hH8, by rw [hP8]; omega, by omega, rfl, .inr ⟨d8, Dd8, od8, rfl, List.mem_append_left _ mD, iD, ?_, ?_, hpl8⟩⟩
              · have e1 : y ≠ "word" := fun e => h2 (by rw [e]; simp)
                have e2 : y ≠ "way" := fun e => h2 (by rw [e]; simp)
                have e3 : y ≠ "due" := fun e => h2 (by rw [e]; simp)
                simp only [look, if_neg h1, if_neg e1, if_neg e2, if_neg e3]
              · exact (nD _ mD).1
              · exact (nD _ mD).2
            · have hob : ob = none := J8.1.clash hq hcl8 hB
              subst hob
              have hv : vB = .none := hv
              subst hv
              walk_at "w"
              refine T_isNot_bool ?_
              walk_at "w"
              refine ⟨fun hb => (by cases hb), fun _ => ?_⟩
              walk_at "w"
              obtain ⟨ss, hback⟩ := JJ.back hpl J8.1
              refine ⟨_, _, _, S, fun y h1 h2 => ?_, _, _, adr8, _, hs3, hh3, cs3, lit, _, AR, So8, (by first | exact hI8 | exact hadr8), ⟨hH8.ok, hH8.all⟩, by show st8.hp.length ≤ _; rw [hP8]; omega, by omega, rfl, .inl ⟨rfl, _, _, hback⟩⟩
              · have e1 : y ≠ "word" := fun e => h2 (by rw [e]; simp)
                have e2 : y ≠ "way" := fun e => h2 (by rw [e]; simp)
                have e3 : y ≠ "due" := fun e => h2 (by rw [e]; simp)
                simp only [look, if_neg h1, if_neg e1, if_neg e2, if_neg e3]
        · obtain ⟨B5, S1, AR1, hz⟩ := z
          obtain ⟨hcne, hway⟩ := hz hb
          clear S AR hb hz
          have S := S1
          have AR := AR1
          clear S1 AR1
          obtain ⟨cs', cc, hcs⟩ := snoc_of hcne
          subst hcs
          obtain ⟨ls, lv, hs', U, e2, e3, hdd, BK⟩ := hpl.back
          subst e2
          have hcw : cc ∈ lv.set := by rw [← e3]; exact hdd
          have hcv : cc ∈ st3.vs := (BK.vs cc).mpr (.inr hcw)
          have hw : IsLit F (-cc) := (BK.con.lit cc hcv).neg
          have hw1 : -cc ∉ U := fun q => BK.con.opp cc hcv ((BK.vs _).mpr (.inl q))
          have hw2 : -(-cc) ∉ U := by rw [Int.neg_neg]; exact BK.dis cc hcw
          obtain ⟨och, mch, vch, Lch, ich⟩ := AR.ch
          obtain ⟨us, tc, hvc, iu⟩ := ints_snoc ich
          subst hvc
          have hlcs : cs'.length + 1 ≤ i := by simpa using hcl
          walk_at "w"
          refine T_item_last Lch (S.gx (List.mem_append_right _ mch)) ?_
          walk_at "w"
          refine T_cell (c := L + 1) (by rfl) (S.gx (List.mem_append_right _ AR.cell)) hc ?_
          rw [← hI]
          refine T_smeth S So K_undo (fun f ok => ok.m4) ?_
          refine CW_K (by k_is) ?_
          walk_at "w"
          refine ⟨S.kin, T_out S (undo_spec (n := n + 13) (R.le (by omega)) S.topN S.ledN So BK.lev (fun x hx => ⟨(BK.vs x).mpr (.inr hx), BK.con.lit x ((BK.vs x).mpr (.inr hx))⟩) (by omega) (by have := sm.many; omega) (by have := BK.stk.len; simp at this; (try simp at hcl); omega)) fun v N9 h ⟨e, st9, js, hjs, So9, hun, hlev9⟩ S1 => ?_⟩
          subst e
          have hpl9 := BK.undo hjs hun hlev9 So9.vsnd
          have hhp9 := hhp.undo hun (fun x hx => BK.con.lit x ((BK.vs x).mpr (.inr (hjs.mem_iff.mp hx)))) (fun h => absurd rfl h.1)
          have hhl9 := BK.hlen (So.setnd BK.lev) hjs hun
          clear S So
          have S := S1
          have So := So9
          clear S1 So9

          clear mch Lch ich iu
          clear hpl hhp
          have hpl := hpl9
          have hhp := hhp9
          clear hpl9 hhp9
          walk_at "w"
          obtain ⟨oh, pp, Tr, oT, mh, Lh, hpp, mT, iT, nT1, nT2, hvv⟩ := AR.h.last
          refine T_m_pop Lh (S.gx (List.mem_append_right _ mh)) ?_
          walk_at "w"
          refine T_pop Lh (S.gx (List.mem_append_right _ mh)) (by have := BK.stk.len; simp at this; simp at hpp; omega) fun h oh2 Lh2 ch => ?_
          obtain ⟨S1, o1⟩ := S.updB AR.o mh ch
          have AR1 := AR.updH (RowsL.pop mh Lh2 hpp hvv)
          clear S AR mh Lh hpp mT iT nT1 nT2 hvv
          have S := S1
          have AR := AR1
          clear S1 AR1 o1
          walk_at "w"
          obtain ⟨och, mch, vch, Lch, ich⟩ := AR.ch
          obtain ⟨us, tc, hvc, iu⟩ := ints_snoc ich
          subst hvc
          refine T_m_pop Lch (S.gx (List.mem_append_right _ mch)) ?_
          walk_at "w"
          refine T_pop Lch (S.gx (List.mem_append_right _ mch)) (by have := iu.length; omega) fun h oc5 Lc5 ch => ?_
          obtain ⟨S1, o1⟩ := S.updB AR.o mch ch
          have AR1 := AR.updC ⟨us, Lc5, iu⟩
          clear S AR mch Lch ich
          have S := S1
          have AR := AR1
          clear S1 AR1 o1
          walk_at "w"
          refine CW_K (by k_is) ?_
          walk_at "w"
          refine T_cell (c := L + 1) (by rfl) (S.gx (List.mem_append_right _ AR.cell)) hc ?_
          walk_at "w"
          obtain ⟨oh, pp, Tr, oT, mh, Lh, hpp, mT, iT, nT1, nT2, hvv⟩ := AR.h.last
          refine T_item_last Lh (S.gx (List.mem_append_right _ mh)) ?_
          walk_at "w"
          refine ⟨S.kin, ?_⟩
          rw [← hI]
          refine T_outRo S S.ledN (alike_spec (n := n + 13) (R.le (by omega)) S.topN S.ledN So ((hrH.keep hk4).keep S.keepHid) sm (by omega) hlenK (S.hidX (List.mem_append_right _ mT)) iT (hpl.stk.good rfl).con hpl.vs hpl.vset) fun v h hv S1 _ => ?_
          subst hv
          clear S mh Lh hpp mT iT nT1 nT2 hvv
          have S := S1
          clear S1
          walk_at "w"
          refine ⟨fun hb => (by cases hb), fun _ => ?_⟩

          walk_at "w"
          refine ⟨fun hb => ?_, fun hb => ?_⟩
          · walk_at "w"
            refine ⟨_, _, _, S, fun y h1 h2 => ?_, _, _, adr3, st9, hs', U, cs', AR, So, (by first | exact hI | rfl), hpl, hhp, by omega, by omega⟩
            have e1 : y ≠ "word" := fun e => h2 (by rw [e]; simp)
            have e2 : y ≠ "way" := fun e => h2 (by rw [e]; simp)
            simp only [look, if_neg h1, if_neg e1, if_neg e2]
            exact hl2 y h1 h2
          · have hhpW : HeapOk F st9 (-cc) := ⟨hhp.ok, fun l hl hv _ => hhp.all l hl hv hl.1⟩
            walk_at "w"
            refine CW_K (by k_is) ?_
            walk_at "w"
            obtain ⟨oh, pp, Tr, oT, mh, Lh, hpp, mT, iT, nT1, nT2, hvv⟩ := AR.h.last
            have GG := hpl.stk.good rfl
            have hhl9 := lits_len GG.con.nd GG.con.lit
            obtain ⟨vT, LT, iT⟩ := iT
            have hvT := iT.length
            refine T_item_last Lh (S.gx (List.mem_append_right _ mh)) ?_
            walk_at "w"
            refine ⟨by show 1 ≤ sizeLine; decide, fun e1 h c1 => ?_⟩
            obtain ⟨S1, o1⟩ := S.newB AR.o c1
            have AR1 := AR.more o1 (fun p hp => .tail _ hp)
            clear S AR
            have S := S1
            clear S1
            refine T_add_list (S.gx (List.mem_append_right _ (.tail _ mT))) LT (S.gx (List.mem_append_right _ (.head _))) (LsO.new _) (by simp; omega) fun r h oR LR cR => ?_
            obtain ⟨S1, o2⟩ := S.newB o1 cR
            have AR2 := AR1.more o2 (fun p hp => .tail _ hp)
            clear S AR1 o1
            have S := S1
            clear S1
            walk_at "w"
            refine ⟨S.kin, T_out0 S o2 (brought_spec (F := F) (n := n + 15) (R.le (by omega)) (top0 S) ((hrH.keep hk4).keep S.keep) RO sm hlenK (S.gx (List.mem_append_right _ (.head _))) ⟨_, LR, ints_app iT (.cons _ _ .nil)⟩ (con_add GG.con hw hw1 hw2)) fun vB N7 h ⟨ob, hB, hv⟩ S1 o7 fr7 => ?_⟩
            have nD : ∀ p ∈ N7, p.1 ≠ ha ∧ p.1 ≠ ca := fun p hp => by
              obtain ⟨oh2, _, mh2, _⟩ := AR2.h.has
              obtain ⟨och2, mc2, _⟩ := AR2.ch
              exact ⟨fun e => (by have := S.gx (List.mem_append_right _ mh2); rw [← e, fr7 p hp] at this; cases this), fun e => (by have := S.gx (List.mem_append_right _ mc2); rw [← e, fr7 p hp] at this; cases this)⟩
            have AR := AR2.more o7 (fun p hp => List.mem_append_right _ hp)
            clear S AR2 o2
            have S := S1
            clear S1
            walk_at "w"
            refine CW_K (by k_is) ?_
            walk_at "w"
            refine T_cell (c := L + 1) (by rfl) (S.gx (List.mem_append_right _ AR.cell)) hc ?_
            walk_at "w"
            refine ⟨S.kin, ?_⟩
            rw [← hI]
            refine T_out S (settle_spec (n := n + 5) (R.le (by omega)) S.topN S.ledN So hOk hw (JW F st9 U (-cc) true) (unset F) (fun st => st.q.length) (fun st J => J.1.fit sm) (JW.step RO) (fun st J => J.1.bad) (hpl.fitS sm So) (by have := hpl.stk.len; simp at this; omega) (fun js hjs => hpl.first RO sm hw hw1 hw2 js hjs)) fun v N8 h ⟨adr8, st8, J8, hadr8, hpost⟩ S1 => ?_
            clear S
            have S := S1
            clear S1
            have hI8 : adr8 .inst = sI := hadr8.trans hI
            obtain ⟨hH8, hP8⟩ := J8.heap hpl hhpW
            rcases hpost with ⟨rfl, hq, So8⟩ | ⟨rfl, ⟨q, lq, hq, hcl8⟩, So8⟩
            · obtain ⟨d8, rfl, hcd, hdv⟩ := J8.1.agree RO hq hB
              obtain ⟨Dd8, od8, rfl, mD, iD⟩ := hv
              walk_at "w"
              refine T_isNot_bool ?_
              walk_at "w"
              refine ⟨fun hb => (by cases hb), fun _ => ?_⟩
              walk_at "w"
              have hpl8 := JJ.plain hpl J8.1 J8.2 hw1 hq hcd hdv
              rw [setbad_eq J8.1.bad] at So8
              refine ⟨_, _, _, S, fun y h1 h2 => ?_, _, _, adr8, st8, hs', U, cs', (-cc), _, AR, So8, (by first | exact hI8 | exact hadr8), hH8, by rw [hP8]; omega, by omega, rfl, .inr ⟨d8, Dd8, od8, rfl, List.mem_append_left _ mD, iD, ?_, ?_, hpl8⟩⟩
              · have e1 : y ≠ "word" := fun e => h2 (by rw [e]; simp)
                have e2 : y ≠ "way" := fun e => h2 (by rw [e]; simp)
                have e3 : y ≠ "due" := fun e => h2 (by rw [e]; simp)
                simp only [look, if_neg h1, if_neg e1, if_neg e2, if_neg e3]
              · exact (nD _ mD).1
              · exact (nD _ mD).2
            · have hob : ob = none := J8.1.clash hq hcl8 hB
              subst hob
              have hv : vB = .none := hv
              subst hv
              walk_at "w"
              refine T_isNot_bool ?_
              walk_at "w"
              refine ⟨fun hb => (by cases hb), fun _ => ?_⟩
              walk_at "w"
              obtain ⟨ss, hback⟩ := JJ.back hpl J8.1
              refine ⟨_, _, _, S, fun y h1 h2 => ?_, _, _, adr8, _, hs', U, cs', (-cc), _, AR, So8, (by first | exact hI8 | exact hadr8), ⟨hH8.ok, hH8.all⟩, by show st8.hp.length ≤ _; rw [hP8]; omega, by omega, rfl, .inl ⟨rfl, _, _, hback⟩⟩
              · have e1 : y ≠ "word" := fun e => h2 (by rw [e]; simp)
                have e2 : y ≠ "way" := fun e => h2 (by rw [e]; simp)
                have e3 : y ≠ "due" := fun e => h2 (by rw [e]; simp)
                simp only [look, if_neg h1, if_neg e1, if_neg e2, if_neg e3]
      · obtain ⟨l5, N5, X5, S5, hl5, A5, B5, adr5, st5, hs5, hh5, cs5, word, tw5, AR5, So5, hI5, hhp5, hhl5, hcl5, hwd, hcase⟩ := hM
        have hx := AR5.x
        subst hx
        clear S AR So hI hpl hhp hhl hcl
        have S := S5
        have AR := AR5
        have So := So5
        have hI := hI5
        have hhp := hhp5
        have hhl := hhl5
        have hcl := hcl5
        clear S5 AR5 So5 hI5 hhp5 hhl5 hcl5
        have hm2 : look l5 "rows" = some (.ref ra) := (hl5 "rows" (by decide) (by decide)).trans hn2
        have hm3 : look l5 "many" = some (.int F.many _) := (hl5 "many" (by decide) (by decide)).trans hn3
        have hm4 : look l5 "history" = some (.ref ha) := (hl5 "history" (by decide) (by decide)).trans hn4
        have hm5 : look l5 "choices" = some (.ref ca) := (hl5 "choices" (by decide) (by decide)).trans hn5
        refine T_seq (T_cut (fun h' => ∃ l' N' X', St κ.w H4 L l' N' X' h' ∧ (∀ y : Str, y ≠ "turn" → y ∉ (["way", "word", "due"] : List Str) → look l' y = look l2 y) ∧ LoopI κ.w F (L + 1) oc2 da la ha ca sI (i + 1) N' X') ?_ (fun h' hM => ?_))
        · clear hn1 hn2 hn3 hn4 hn5
          rcases hcase with ⟨hdu, ls, lv, BK⟩ | ⟨d, Dd, od, hdu, mD, iD, nd1, nd2, hpl⟩
          · have hn1 := hdu
            have hn2 := hwd
            walk_at "w"
            refine ⟨fun _ => ?_, fun hb => (by cases hb)⟩
            walk_at "w"
            refine T_cell (c := L + 1) (by rfl) (S.gx (List.mem_append_right _ AR.cell)) hc ?_
            rw [← hI]
            refine T_smeth S So K_undo (fun f ok => ok.m4) ?_
            refine CW_K (by k_is) ?_
            walk_at "w"
            refine ⟨S.kin, T_out S (undo_spec (n := n + 13) (R.le (by omega)) S.topN S.ledN So BK.lev (fun x hx => ⟨(BK.vs x).mpr (.inr hx), BK.con.lit x ((BK.vs x).mpr (.inr hx))⟩) (by omega) (by have := sm.many; omega) (by have := BK.stk.len; simp at this; (try simp at hcl); omega)) fun v N9 h ⟨e, st9, js, hjs, So9, hun, hlev9⟩ S1 => ?_⟩
            subst e
            have hpl9 := BK.undo hjs hun hlev9 So9.vsnd
            have hhp9 := hhp.undo hun (fun x hx => BK.con.lit x ((BK.vs x).mpr (.inr (hjs.mem_iff.mp hx)))) (fun h => absurd rfl h.1)
            have hhl9 := BK.hlen (So.setnd BK.lev) hjs hun
            clear S So
            have S := S1
            have So := So9
            clear S1 So9

            walk_at "w"
            exact ⟨_, _, _, S, hl5, _, _, adr5, st9, hs5, hh5, cs5, AR, So, (by first | exact hI | rfl), hpl9, hhp9, by omega, by omega⟩
          · have hn1 := hdu
            have hn2 := hwd
            have hn4 := hm4
            have hn5 := hm5
            walk_at "w"
            refine ⟨fun hb => (by cases hb), fun _ => ?_⟩
            walk_at "w"
            obtain ⟨oh, vh, mh, Lh, hvl, hvv⟩ := AR.h.has
            have hlen5 := hpl.stk.len
            refine T_m_append Lh (S.gx (List.mem_append_right _ mh)) ?_
            walk_at "w"
            refine T_append Lh (S.gx (List.mem_append_right _ mh)) (by simp at hlen5 hvl; omega) fun h oh2 Lh2 ch => ?_
            obtain ⟨S1, o1⟩ := S.updB AR.o mh ch
            have AR1 := AR.updH (RowsL.push mh Lh2 hvl hvv mD iD nd1 (fun a h => h) nd2)
            clear S AR mh Lh hvl hvv
            have S := S1
            have AR := AR1
            clear S1 AR1 o1
            walk_at "w"
            obtain ⟨och, mch, vch, Lch, ich⟩ := AR.ch
            refine T_m_append Lch (S.gx (List.mem_append_right _ mch)) ?_
            walk_at "w"
            refine T_append Lch (S.gx (List.mem_append_right _ mch)) (by have := ich.length; omega) fun h oc5 Lc5 ch => ?_
            obtain ⟨S1, o1⟩ := S.updB AR.o mch ch
            have AR1 := AR.updC ⟨_, Lc5, ints_app ich (.cons _ _ .nil)⟩
            walk_at "w"
            exact ⟨_, _, _, S1, hl5, _, _, adr5, st5, hs5 ++ [hh5], d, cs5 ++ [word], AR1, So, hI, hpl, hhp, by omega, by simp; omega⟩
        · obtain ⟨l6, N6, X6, S6, hl6, A6, B6, adr6, st6, hs6, hh6, cs6, AR6, So6, hI6, hpl6, hhp6, hhl6, hcl6⟩ := hM
          have hx := AR6.x
          subst hx
          clear S AR So hI hhp hhl hcl
          have S := S6
          have AR := AR6
          have So := So6
          have hI := hI6
          have hpl := hpl6
          clear S6 AR6 So6 hI6 hpl6 hm2 hm3 hm4 hm5
          have hq2 : look l6 "rows" = some (.ref ra) := (hl6 "rows" (by decide) (by decide)).trans hn2
          have hq3 : look l6 "many" = some (.int F.many _) := (hl6 "many" (by decide) (by decide)).trans hn3
          have hq4 : look l6 "history" = some (.ref ha) := (hl6 "history" (by decide) (by decide)).trans hn4
          have hq5 : look l6 "choices" = some (.ref ca) := (hl6 "choices" (by decide) (by decide)).trans hn5
          clear hn1 hn2 hn3 hn4 hn5
          have hn2 := hq2
          have hn3 := hq3
          have hn4 := hq4
          have hn5 := hq5
          walk_at "w"
          refine CW_K (by k_is) ?_
          walk_at "w"
          refine T_cell (c := L + 1) (by rfl) (S.gx (List.mem_append_right _ AR.cell)) hc ?_
          walk_at "w"
          obtain ⟨oh, pp, Tr, oT, mh, Lh, hpp, mT, iT, nT1, nT2, hvv⟩ := AR.h.last
          refine T_item_last Lh (S.gx (List.mem_append_right _ mh)) ?_
          walk_at "w"
          refine ⟨S.kin, ?_⟩
          rw [← hI]
          refine T_outRo S S.ledN (alike_spec (n := n + 13) (R.le (by omega)) S.topN S.ledN So ((hrH.keep hk4).keep S.keepHid) sm (by omega) hlenK (S.hidX (List.mem_append_right _ mT)) iT (hpl.stk.good rfl).con hpl.vs hpl.vset) fun v h hv S1 _ => ?_
          subst hv
          clear S mh Lh hpp mT iT nT1 nT2 hvv
          have S := S1
          clear S1
          walk_at "w"
          refine ⟨fun hb => (by cases hb), fun _ => ?_⟩

          walk_at "w"
          refine T_cell (c := L + 1) (by rfl) (S.gx (List.mem_append_right _ AR.cell)) hc ?_
          rw [← hI]
          refine T_sat S So A_lv (fun f ok => ok.lv) rfl ?_
          walk_at "w"
          obtain ⟨olv, mlv, Llv⟩ := So.has .lv trivial
          have Llv : LsO ((List.range st6.lev.length).map fun k => .ref (adr6 (.lvI k))) olv := Llv
          have hlen6 := hpl.stk.len
          refine T_len_list Llv (S.gn mlv) (by simp; omega) (fun t => ?_)
          walk_at "w"
          obtain ⟨och, mch, vch, Lch, ich⟩ := AR.ch
          refine T_len_list Lch (S.gx (List.mem_append_right _ mch)) (by have := ich.length; omega) (fun t => ?_)
          walk_at "w"
          refine ⟨fun hb => ?_, fun _ => ?_⟩
          · have h1 := ich.length
            simp at hb
            omega
          · walk_at "w"
            exact ⟨_, _, _, S, fun y h1 h2 => (hl6 y h1 h2).trans (hl2 y h1 h2), _, _, adr6, st6, hs6, hh6, cs6, AR, So, (by first | exact hI | rfl), hpl, hhp6, hhl6, hcl6⟩

    · obtain ⟨A3, B3, adr3, st3, hs3, hh3, cs3, a1, a2, a3, a4, a5, a6, a7⟩ := hI
      exact ⟨A3, B3, adr3, st3, hs3, hh3, cs3, a1, a2, a3, a4, a5, by omega, by omega⟩
    · clear S AR it So hpl hhp hhl hl1
      obtain ⟨A3, B3, adr3, st3, hs3, hh3, cs3, AR, So, hI, hpl, hhp, hhl, hcl⟩ := hI
      have hx := AR.x
      subst hx
      have S := S4
      clear S4
      have hn1 : look l2 "rows" = some (.ref ra) := (hl2 "rows" (by decide) (by decide)).trans rfl
      have hn2 : look l2 "choices" = some (.ref ca) := (hl2 "choices" (by decide) (by decide)).trans rfl
      walk_at "w"
      refine T_cell (c := L + 1) (by rfl) (S.gx (List.mem_append_right _ AR.cell)) hc ?_
      rw [← hI]
      refine T_smeth S So K_conflict (fun f ok => ok.m11) ?_
      refine CW_K (by k_is) ?_
      walk_at "w"
      refine ⟨S.kin, T_out S (conflict_spec (n := n + 16) (R.le (by omega)) S.topN S.ledN So (by have := hpl.stk.len; simp at this; omega)) fun v N5 h ⟨r, orr, e1, e2, iR⟩ S1 => ?_⟩
      subst e1 e2
      have So5 : Sol κ.w F ((r, orr) :: N4) adr3 st3 := So.more (fun p hp => .tail _ hp)
      clear S So
      have S := S1
      have So := So5
      clear S1 So5
      walk_at "w"
      obtain ⟨och, mch, vch, Lch, ich⟩ := AR.ch
      have hvc := ich.length
      refine T_lro ?_
      walk_at "w"
      refine T_iter_list R Lch (S.gx (List.mem_append_right _ mch)) fun I2 h2 it2 => ?_
      refine LRo.pure (fun i ys => IntsAre ys ((cs3.map fun w => -w).take i)) (by omega) it2 (fun p hp => by rw [List.mem_singleton.mp hp]; exact S.gx (List.mem_append_right _ mch)) S.topH .nil (fun C i v ys l3 H3 h3 hk3 hi hP hY S3 => ?_) (fun ys D o h3 hY L3 c3 => ?_)
      · obtain ⟨w, tw, hw, rfl⟩ := ints_of_at ich hP
        have hw2 : (cs3.map fun w => -w)[i]? = some (-w) := by rw [List.getElem?_map, hw]; rfl
        have S := S3
        refine T_tests_nil ?_
        rw [if_pos rfl]
        walk_at "w"
        refine ⟨_, _, S, ?_⟩
        rw [take_succ_of hw2]
        exact ints_app hY (.cons _ _ .nil)
      have hfull : (cs3.map fun w => -w).take vch.length = cs3.map fun w => -w := List.take_of_length_le (by simp; omega)
      rw [hfull] at hY
      have heq : ((st3.lev.drop 1).map fun l => -l.dec) = cs3.map fun w => -w := by
        rw [← hpl.stk.decs, List.map_map]; rfl
      rw [heq] at iR
      obtain ⟨S1, o1⟩ := S.newB AR.o c3
      have AR1 := AR.more o1 (fun p hp => .tail _ hp)
      clear S AR
      have S := S1
      have AR := AR1
      clear S1 AR1
      refine T_ne_ints R (S.gn (.head _)) iR (S.gx (List.mem_append_right _ (.head _))) ⟨_, L3, hY⟩ ?_
      walk_at "w"
      refine ⟨fun hb => (by simp at hb), fun _ => ?_⟩
      walk_at "w"
      refine T_lcomp (F := fun cl' X0 => ∃ ck o, cl' = (("k" : Str), ck) :: [(("solver" : Str), L + 1)] ∧ X0 = [(ck, o)] ∧ o.data = .cell none) (by rfl) rfl (by decide) (by intro _; rfl) (NewEnv.one rfl (fun _ => rfl) (fun _ => rfl)) ?_
      walk_at "w"
      obtain ⟨orows, vrows, erows, Lrows, hvrows, hrow⟩ := hrH.has
      refine T_enum R Lrows (S.base erows) fun I itt h' itn => ?_
      obtain ⟨hws, hk12, ndl, Z, hndz, W, hz⟩ := itn [] 0 default
      refine W.self 0 _ hz _ ?_
      clear hws hk12 ndl Z hndz W hz
      refine ⟨I, [I, itt], [(ra, orows)], _, _, _, [], fun cl' i ys N' X' => ∃ ck ock v0, cl' = (("k" : Str), ck) :: [(("solver" : Str), L + 1)] ∧ ys = [] ∧ (ck, ock) ∈ X' ∧ ock.data = .cell v0, rfl, by omega, itn _ _ _, (fun p hp => nomatch hp), S.topH.keep (keep_hid0 _), fun cl' X0 hF => ?_, fun cl' i ys N' X' _ p hp => .inr (by rw [List.mem_singleton.mp hp]; exact keep_hid0 _ _ _ (S.base erows)), ?_, ?_⟩
      · obtain ⟨ck, o, e1, e2, e3⟩ := hF
        exact ⟨ck, o, none, e1, rfl, by rw [e2]; exact .head _, e3⟩
      · rintro C cl' i v ys l3 N6 X6 H6 h6 h7 hk6 hi hP ⟨ck, ock, v0, rfl, rfl, mck, hck⟩ S6
        obtain ⟨Tt, tt, xv, rfl, hxv, hfr, htup⟩ := hP
        obtain ⟨Tr, oT, rfl, eT, iT⟩ := hrow i xv hxv
        have hiF : i < F.rows.length := by omega
        have hmem : rowAt F i ∈ F.rows := rowAt_mem hiF
        have iT : IntsO (rowAt F i) oT := iT
        obtain ⟨vT, LT, iTT⟩ := id iT
        have hvT := iTT.length
        have hl3 := hlen3 _ hmem
        have keepA : ∀ {b : Addr} {o : Obj}, _ = some o → H6.get? b = some o := fun {b o} e => hk6 b o (keep_hid0 _ _ _ e)
        have ledA : ∀ p ∈ (r, orr) :: N4, H6.get? p.1 = some p.2 := fun p hp => keepA (S.gn hp)
        have topA : ∀ h8, Keep H6 h8 → TopIn κ.w (hid h8 ((r, orr) :: N4)) := fun h8 k8 => S.topN.keep fun b o e => by
          refine hid_get (k8 _ _ (keepA (hid_sub _ _ e))) fun hm => ?_
          obtain ⟨p, hp, rfl⟩ := List.mem_map.mp hm
          rw [hid_none hp] at e; cases e
        have cellA := keepA (S.gx (List.mem_append_right _ AR.cell))
        have rowA := keepA (S.base eT)
        clear S itn
        refine T_assign_tuple2 R htup (fun h8 k8 => T_store_cell (S6.keeps k8) (by rfl) mck hck (fun h8 oc8 hc8 S => T_store S (fun h8 S => ?_)))
        have mck8 := mem_upd_self (o := oc8) mck
        generalize Mine.upd X6 ck oc8 = X8 at S mck8
        clear S6 htup mck hck
        refine T_tests_one ?_
        walk_at "w"
        refine T_len_list LT (S.base rowA) (by omega) (fun t => ?_)
        walk_at "w"
        refine ⟨fun hb => ?_, fun hb => ?_⟩
        · rw [if_neg (by simp)]
          exact ⟨_, _, _, S, ck, oc8, _, rfl, rfl, mck8, hc8⟩
        · have hb : 1 < (rowAt F i).length := by have := of_decide_eq_true hb; omega
          walk_at "w"
          refine T_sieve R (fun w => decide ((i : Int) ∈ st3.sent w)) ?_
          walk_at "w"
          refine ⟨_, _, _, rfl, S.base rowA, iT, by omega, S.topH, fun C2 w tw l4 H9 h9 hk9 hw S9 => ?_, fun D9 o9 h9 i9 c9 => ?_⟩
          · have k69 : Keep H6 H9 := fun b o e => hk9 _ _ (S.base e)
            have led9 : Led h9 ((r, orr) :: N4) := fun p hp => S9.base (k69 _ _ (ledA p hp))
            have top9 := topA h9 fun b o e => S9.base (k69 _ _ e)
            have g1 := S9.base (k69 _ _ cellA)
            have g2 := S9.base (hk9 _ _ (S.gx mck8))
            clear S
            have S := S9
            clear S9
            walk_at "w"
            refine T_cell (c := L + 1) (by rfl) g1 hc ?_
            rw [← hI]
            refine T_smethL S.kin led9 So K_issent (fun f ok => ok.m2) ?_
            refine CW_K (by k_is) ?_
            walk_at "w"
            refine T_cell (c := ck) (by rfl) g2 hc8 ?_
            walk_at "w"
            refine ⟨S.kin, T_outRo S led9 (issent_spec (n := n + 16) (R.le (by omega)) top9 led9 So (rowAt_lit RO i w hw)) fun v h hv S1 _ => ?_⟩
            subst hv
            walk_at "w"
            exact ⟨rfl, _, S1⟩
          · replace S := S.new c9
            obtain ⟨v9, L9, i9⟩ := i9
            have h29 := hpl.watch.filter RO hiF hb
            have hv9 := i9.length
            refine T_len_list L9 (S.gx (.head _)) (by omega) (fun t => ?_)
            walk_at "w"
            have e2 : (v9.length : Int) = 2 := by omega
            rw [e2]
            rw [if_neg (by decide)]
            exact ⟨_, _, _, S, ck, oc8, _, rfl, rfl, .tail _ mck8, hc8⟩
      · rintro cl' ys N6 X6 D o h6 ⟨ck, ock, v0, rfl, rfl, mck, hck⟩ hL led2 hfr hND hkb hni
        have S1 := S.outRo led2 hkb hni
        clear S
        have S := S1
        clear S1
        walk_at "w"
        refine ⟨by decide, fun e1 h c1 => ?_⟩
        replace S := S.new c1
        refine T_eq_ints R (S.gx (.tail _ (.head _))) ⟨[], hL, .nil⟩ (S.gx (.head _)) ⟨[], LsO.new [], .nil⟩ ?_
        exact ⟨_, _, _, S.back hK top, rfl⟩
  · have hob : ob = none := J1.clash hq hcl hB
    subst hob
    have hv : vB = .none := hv
    subst hv
    walk_at "w"
    refine T_cell (c := L + 1) (by rfl) (S.gx (List.mem_append_right _ (List.mem_append_right _ (.tail _ (.head _))))) hc ?_
    rw [← hsI1]
    refine T_sat S So A_bad (fun f ok => ok.bad) rfl ?_
    walk_at "w"
    refine T_isNot_bool ?_
    walk_at "w"
    refine ⟨fun hb => (by cases hb), fun _ => ?_⟩
    walk_at "w"
    refine ⟨fun _ => ?_, fun hb => (by cases hb)⟩
    walk_at "w"
    exact ⟨_, _, _, S.back hK top, rfl⟩
end
end Mine
end
open Mine
open PySem.Calls
set_option maxHeartbeats 8000000 in
theorem PySem.Challenge.cw_at6042_01_holds : PySem.Challenge.rw_at6042_01.Holds := by
  refine Mine.hd ?_
  k_fill
  intro w s₀ s₁ mg mb G Y fa o pm cd doc dV kV ho hd' hcd hD hmg hg args vals as hpre hlay hrd hwl hlo
  have KX := kIn_of Y
  refine Ground.open G ?_
  intro T B D TE TW
  try (refine guard_noD D (by decide +kernel) ?_; clear D)
  wrow_args hpre hlay hrd hwl hlo
  all_goals (first | refine callC_kw (enter_call ?_) | refine enter_call ?_ | refine callC_kw (enter_callW ?_) | refine enter_callW ?_)
  all_goals (try refine codeAny_mono ?_ (fun _ _ g => GoodW.toG g))
  clear hcd hD ho hd'
  rename_i ns _ _ _ _ _ _ _ s vs _ hL _ _ _ hI _ hlen _
  obtain ⟨os, es, hos⟩ := id hL
  have efa : fa = 279 := by
    have h1 := mg_of KX T.g (n := "law") (v := .ref 279) (by k_is)
    have h2 : mg "law" = some (.ref fa) := hmg
    rw [h1] at h2
    cases h2; rfl
  subst efa
  obtain ⟨hp, g, d, tk, oss⟩ := s₁
  have TI : TopIn w (hid hp []) := (TopIn.mk KX ⟨_, _, _, _, topRead_of T⟩).keep (keep_hid0 hp)
  have RM : Room ⟨w, callerA, g, oss⟩ 20 := ⟨rfl, by show callerA.depth + 4 * 20 < recursionLimit; decide, by show callerA.units + 16 * 20 + 100 < cLine; decide⟩
  have key := law_spec (κ := ⟨w, callerA, g, oss⟩) (n := 0) (h := hp) RM TI es (fun h' e => ⟨os, e, hos⟩) hI (by omega)
  refine codeAny_mono (key d tk) fun r s' z => ?_
  rcases r with e | (_ | _ | _ | v)
  · exact z.elim
  · exact z.elim
  · exact z.elim
  · exact z.elim
  obtain ⟨z1, z2, N', led, kb, ni, rfl⟩ := z
  refine ⟨.inl ⟨.bool true, ofPy (.bool true), [], rfl, fun cls => ?_, ?_, ?_, ?_⟩, fun b o e => kb b o e (by simp), z2, z1.trans hg⟩
  · rfl
  · exact ReadsW.bool true
  · with_unfolding_all rfl
  · exact fun _ => ⟨.nil, fun a h => nomatch h⟩
