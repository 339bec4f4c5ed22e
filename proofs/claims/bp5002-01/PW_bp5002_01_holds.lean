import PyProof.Rows.All
import Wide.All
import OpenK.AllK
import Wide.FinOn
import PySem.Challenge.RW_bp5002_01
open PySem PySem.W PyProof.Rows
set_option Elab.async false
namespace Mine
local macro_rules | `(tactic| k_head) => `(tactic| z_head)
set_option maxRecDepth 100000 in
set_option maxHeartbeats 0 in
open_top hd for PySem.Challenge.rw_bp5002_01
end Mine
open PySem.W.X PySem.Calls
set_option maxRecDepth 100000
set_option maxHeartbeats 4000000
namespace Mine

def kOfHd {q : Program} {loose : List Str} {XP : (Str → Option Value) → Heap → Prop} {as : List Addr} {K : Params → Frag} {n t : Nat} {r : RowW} {d : DefRec} {kwd : List (Str × Expr)} {run : Value → List Value → Sem Value} {P : Prop}
    (_ : (WalkX q loose XP (obsZ as) (valZ K n t) r d kwd run) → P) : Params → Frag := K
noncomputable def KK : Params → Frag := kOfHd Mine.hd
abbrev PR : Program := PySem.Challenge.rw_bp5002_01.row.prog
/-- the two code tables that the call lets grow: of Function.__init__, of Expression.literalize -/
abbrev P1 : Addr := 348
abbrev P2 : Addr := 44
noncomputable def KF (P : Params) : Frag := (KK P).filter fun p => p.1 != P1 && p.1 != P2
noncomputable abbrev K (w : World) : Frag := KF w.params


/-! what does not change: a partial map of the heap -/
abbrev Im := Addr → Option Obj
def Im.up (I : Im) (a : Addr) (o : Obj) : Im := fun x => if x = a then some o else I x
def Le (I J : Im) : Prop := ∀ a o, I a = some o → J a = some o
theorem Le.refl (I : Im) : Le I I := fun _ _ e => e
theorem Le.trans {I J L : Im} (x : Le I J) (y : Le J L) : Le I L := fun a o e => y a o (x a o e)
theorem Le.up {I : Im} {a : Addr} {o : Obj} (h : I a = none) : Le I (I.up a o) := fun b q e => by
  unfold Im.up
  by_cases hb : b = a
  · subst hb; rw [h] at e; cases e
  · rw [if_neg hb]; exact e
theorem Im.up_self {I : Im} {a : Addr} {o : Obj} : (I.up a o) a = some o := by unfold Im.up; rw [if_pos rfl]
theorem Im.up_ne {I : Im} {a b : Addr} {o : Obj} (h : b ≠ a) : (I.up a o) b = I b := by unfold Im.up; rw [if_neg h]

abbrev Mt (a : Addr) : Prop := a = P1 ∨ a = P2
structure Grow (M : Addr → Prop) (h : Heap) (I : Im) (h' : Heap) (I' : Im) : Prop where
  le : Le I I'
  ex : ∀ a o, h.get? a = some o → ∃ o', h'.get? a = some o'
  fresh : ∀ a o o', ¬ M a → h.get? a = some o → I' a = some o' → I a = some o'
  kp : ∀ a o, ¬ M a → h.get? a = some o → h'.get? a = some o
theorem Grow.refl (M : Addr → Prop) (h : Heap) (I : Im) : Grow M h I h I := ⟨.refl I, fun _ o e => ⟨o, e⟩, fun _ _ _ _ _ e => e, fun _ _ _ e => e⟩
theorem Grow.trans {M : Addr → Prop} {h h' h'' : Heap} {I I' I'' : Im} (x : Grow M h I h' I') (y : Grow M h' I' h'' I'') : Grow M h I h'' I'' :=
  ⟨x.le.trans y.le, fun a o e => let ⟨o', e'⟩ := x.ex a o e; y.ex a o' e', fun a o o' n e q => x.fresh a o o' n e (y.fresh a o o' n (x.kp a o n e) q), fun a o n e => y.kp a o n (x.kp a o n e)⟩
theorem Grow.mono {M M' : Addr → Prop} {h h' : Heap} {I I' : Im} (x : Grow M h I h' I') (k : ∀ a, M a → M' a) : Grow M' h I h' I' :=
  ⟨x.le, x.ex, fun a o o' n e => x.fresh a o o' (fun q => n (k a q)) e, fun a o n e => x.kp a o (fun q => n (k a q)) e⟩
theorem Grow.push (M : Addr → Prop) (h : Heap) (I : Im) (o : Obj) : Grow M h I (h.push o) I :=
  ⟨.refl I, fun _ q e => ⟨q, Heap.get?_push_of_some _ e⟩, fun _ _ _ _ _ e => e, fun _ _ _ e => Heap.get?_push_of_some _ e⟩

/-- a code table: empty, or the one code that the one place of it makes -/
def TabAt (P : Addr) (line col : Nat) (h : Heap) : Prop := h.get? P = some (tabObj #[]) ∨ ∃ v, h.get? P = some (tabObj #[rawInt line, rawInt col, v])
theorem TabAt.at {P : Addr} {l c : Nat} {h h' : Heap} (x : TabAt P l c h) (k : ∀ o, h.get? P = some o → h'.get? P = some o) : TabAt P l c h' :=
  x.elim (fun e => .inl (k _ e)) fun ⟨v, e⟩ => .inr ⟨v, k _ e⟩
theorem TabAt.ne {P a : Addr} {l c : Nat} {h : Heap} {o : Obj} (x : TabAt P l c h) (e : h.get? a = some o) (hc : o.cls ≠ .none) : a ≠ P := by
  rintro rfl
  rcases x with q | ⟨v, q⟩ <;> (rw [e] at q; cases q; exact hc rfl)
theorem TabAt.ne_dict {P a : Addr} {l c : Nat} {h : Heap} {o : Obj} {es : Array DictEntry} {n : Nat} (x : TabAt P l c h) (e : h.get? a = some o) (hc : o.data = .dict es n) : a ≠ P := by
  rintro rfl
  rcases x with q | ⟨v, q⟩ <;> (rw [e] at q; cases q; cases hc)

structure Top0 (w : World) (B : Heap) : Prop where
  X : (K w).In B
  T : ∃ p loose mg mb, TopRead p loose mg mb B
structure Ok (w : World) (B : Heap) (I : Im) (h : Heap) (g : Array GenState) : Prop where
  top : Top0 w B
  base : ∀ a o, B.get? a = some o → I a = some o
  sub : ∀ a o, I a = some o → h.get? a = some o
  n1 : I P1 = none
  n2 : I P2 = none
  t1 : TabAt P1 172 19 h
  t2 : TabAt P2 27 15 h
  bare : AllBare g
section
variable {w : World} {B : Heap} {I : Im} {h : Heap} {g : Array GenState}
theorem Ok.stays (k : Ok w B I h g) : ∀ a o, B.get? a = some o → h.get? a = some o := fun a o e => k.sub a o (k.base a o e)
theorem Ok.X (k : Ok w B I h g) : (K w).In h := k.top.X.keeps k.stays
theorem Ok.T (k : Ok w B I h g) : ∃ p loose mg mb, TopRead p loose mg mb h := let ⟨p, l, mg, mb, t⟩ := k.top.T; ⟨p, l, mg, mb, t.keeps k.stays⟩
theorem Ok.lim (k : Ok w B I h g) : h.NoLimit := let ⟨_, _, _, _, t⟩ := k.T; t.nolimit
theorem Ok.lt (k : Ok w B I h g) {a : Addr} {o : Obj} (e : I a = some o) : a < h.objs.size := Heap.lt_size (k.sub a o e)
theorem Ok.none_size (k : Ok w B I h g) : I h.objs.size = none := by
  cases q : I h.objs.size with
  | none => rfl
  | some o => exact absurd (k.lt q) (Nat.lt_irrefl _)
/-- the heap changes where nothing of I, and no table, lies -/
theorem Ok.moved {h' : Heap} (k : Ok w B I h g) (C : Addr) (hs : ∀ b o, b ≠ C → h.get? b = some o → h'.get? b = some o) (hI : I C = none) (c1 : C ≠ P1) (c2 : C ≠ P2) : Ok w B I h' g :=
  { k with
    sub := fun a o e => hs a o (fun q => by subst q; rw [hI] at e; cases e) (k.sub a o e)
    t1 := k.t1.at fun o e => hs _ o (Ne.symm c1) e
    t2 := k.t2.at fun o e => hs _ o (Ne.symm c2) e }
theorem Ok.keeps {h' : Heap} (k : Ok w B I h g) (hs : ∀ b o, h.get? b = some o → h'.get? b = some o) : Ok w B I h' g :=
  { k with sub := fun a o e => hs _ _ (k.sub a o e), t1 := k.t1.at fun _ e => hs _ _ e, t2 := k.t2.at fun _ e => hs _ _ e }
theorem Ok.push (k : Ok w B I h g) (o : Obj) : Ok w B I (h.push o) g := k.keeps fun _ _ e => Heap.get?_push_of_some _ e
/-- an object that stands is told once and for all -/
theorem Ok.freeze (k : Ok w B I h g) {a : Addr} {o : Obj} (e : h.get? a = some o) (hI : I a = none) (hc : a ≠ P1) (hc' : a ≠ P2) : Ok w B (I.up a o) h g :=
  { k with
    base := fun b q e' => Le.up hI b q (k.base b q e')
    sub := fun b q e' => by
      by_cases hb : b = a
      · subst hb; rw [Im.up_self] at e'; cases e'; exact e
      · rw [Im.up_ne hb] at e'; exact k.sub b q e'
    n1 := by rw [Im.up_ne (Ne.symm hc)]; exact k.n1
    n2 := by rw [Im.up_ne (Ne.symm hc')]; exact k.n2 }
theorem Ok.ne1 (k : Ok w B I h g) {a : Addr} {o : Obj} (e : h.get? a = some o) (hc : o.cls ≠ .none) : a ≠ P1 := k.t1.ne e hc
theorem Ok.ne2 (k : Ok w B I h g) {a : Addr} {o : Obj} (e : h.get? a = some o) (hc : o.cls ≠ .none) : a ≠ P2 := k.t2.ne e hc
theorem Ok.there (k : Ok w B I h g) : (∃ o, h.get? P1 = some o) ∧ ∃ o, h.get? P2 = some o :=
  ⟨k.t1.elim (fun e => ⟨_, e⟩) fun ⟨_, e⟩ => ⟨_, e⟩, k.t2.elim (fun e => ⟨_, e⟩) fun ⟨_, e⟩ => ⟨_, e⟩⟩
theorem Ok.below (k : Ok w B I h g) : P1 < h.objs.size ∧ P2 < h.objs.size :=
  ⟨k.t1.elim Heap.lt_size fun ⟨_, e⟩ => Heap.lt_size e, k.t2.elim Heap.lt_size fun ⟨_, e⟩ => Heap.lt_size e⟩
end

/-- a def's frame: what stood at its call, what is known now, its locals -/
structure St (w : World) (B : Heap) (M : Addr → Prop) (h₀ : Heap) (I₀ : Im) (L : Addr) (m : Str → Option Value) (I : Im) (h : Heap) (g : Array GenState) : Prop where
  ok : Ok w B I h g
  G : Grow M h₀ I₀ h I
  ns : h.Ns L m
  nL : I L = none
  off : h₀.get? L = none
  low : (∃ o, h₀.get? P1 = some o) ∧ ∃ o, h₀.get? P2 = some o
def Im.fz (I : Im) (p : Addr → Bool) (h : Heap) : Im := fun a => if p a then h.get? a else I a
section
variable {w : World} {B : Heap} {M : Addr → Prop} {h₀ : Heap} {I₀ I : Im} {L : Addr} {m : Str → Option Value} {h : Heap} {g : Array GenState}
theorem St.ne (S : St w B M h₀ I₀ L m I h g) : L ≠ P1 ∧ L ≠ P2 := by
  obtain ⟨o, es, ep, e, hd, _⟩ := S.ns
  exact ⟨S.ok.t1.ne_dict e hd, S.ok.t2.ne_dict e hd⟩
theorem St.lt (S : St w B M h₀ I₀ L m I h g) {a : Addr} {o : Obj} (e : h₀.get? a = some o) : a < h.objs.size := let ⟨_, q⟩ := S.G.ex a o e; Heap.lt_size q
theorem St.at_size (S : St w B M h₀ I₀ L m I h g) : h₀.get? h.objs.size = none := by
  cases q : h₀.get? h.objs.size with
  | none => rfl
  | some o => exact absurd (S.lt q) (Nat.lt_irrefl _)
theorem St.offP (S : St w B M h₀ I₀ L m I h g) {a : Addr} (e : h₀.get? a = none) : a ≠ P1 ∧ a ≠ P2 :=
  ⟨fun q => (by obtain ⟨o, z⟩ := S.low.1; rw [← q, e] at z; cases z), fun q => (by obtain ⟨o, z⟩ := S.low.2; rw [← q, e] at z; cases z)⟩
theorem St.push (S : St w B M h₀ I₀ L m I h g) (o : Obj) : St w B M h₀ I₀ L m I (h.push o) g where
  ok := S.ok.push o
  G := S.G.trans (.push M h I o)
  ns := S.ns.push o
  nL := S.nL
  off := S.off
  low := S.low
/-- what stands at these places stays so from now on -/
theorem St.freezeAll (S : St w B M h₀ I₀ L m I h g) (p : Addr → Bool) (hp : ∀ a, p a = true → h₀.get? a = none ∧ a ≠ L) : St w B M h₀ I₀ L m (I.fz p h) h g := by
  have hle : Le I (I.fz p h) := fun a o e => by
    unfold Im.fz
    split
    · exact S.ok.sub a o e
    · exact e
  have off : ∀ a o, h₀.get? a = some o → I.fz p h a = I a := fun a o ha => by
    unfold Im.fz
    split
    · rename_i q; rw [(hp a q).1] at ha; cases ha
    · rfl
  exact {
    ok := { S.ok with
      base := fun a o e => hle a o (S.ok.base a o e)
      sub := fun a o e => by
        unfold Im.fz at e
        split at e
        · exact e
        · exact S.ok.sub a o e
      n1 := by obtain ⟨o, e⟩ := S.low.1; rw [off _ o e]; exact S.ok.n1
      n2 := by obtain ⟨o, e⟩ := S.low.2; rw [off _ o e]; exact S.ok.n2 }
    G := ⟨S.G.le.trans hle, S.G.ex, fun a o o' n e q => S.G.fresh a o o' n e (by rw [off a o e] at q; exact q), S.G.kp⟩
    ns := S.ns
    nL := by
      unfold Im.fz
      split
      · rename_i q; exact absurd rfl (hp _ q).2
      · exact S.nL
    off := S.off
    low := S.low }
theorem Im.fz_up {I : Im} {h : Heap} {a : Addr} {o : Obj} (e : h.get? a = some o) : I.fz (fun b => b == a) h = I.up a o := by
  funext b
  unfold Im.fz Im.up
  by_cases hb : b = a
  · subst hb; rw [if_pos (beq_self_eq_true b), if_pos rfl]; exact e
  · rw [if_neg hb, if_neg (by simpa using hb)]
theorem St.freeze (S : St w B M h₀ I₀ L m I h g) {a : Addr} {o : Obj} (e : h.get? a = some o) (hn : h₀.get? a = none) (hL : a ≠ L) : St w B M h₀ I₀ L m (I.up a o) h g := by
  rw [← Im.fz_up e]
  exact S.freezeAll _ fun b hb => by
    have : b = a := beq_iff_eq.mp hb
    subst this; exact ⟨hn, hL⟩
/-- a new object that never changes -/
theorem St.new (S : St w B M h₀ I₀ L m I h g) (o : Obj) (hf : o.isFreed = false) : St w B M h₀ I₀ L m (I.up h.objs.size o) (h.push o) g :=
  (S.push o).freeze (Heap.get?_push_size _ hf) S.at_size (Nat.ne_of_gt S.ns.lt)
/-- a change at one address that stood not at the call -/
theorem St.moved {h' : Heap} (S : St w B M h₀ I₀ L m I h g) (C : Addr) (hs : ∀ b o, b ≠ C → h.get? b = some o → h'.get? b = some o) (hI : I C = none) (cL : C ≠ L) (cn : h₀.get? C = none) : St w B M h₀ I₀ L m I h' g where
  ok := S.ok.moved C hs hI (S.offP cn).1 (S.offP cn).2
  G := by
    have ne : ∀ a o, h₀.get? a = some o → a ≠ C := fun a o e q => by rw [q, cn] at e; cases e
    exact ⟨S.G.le, fun a o e => let ⟨o', e'⟩ := S.G.ex a o e; ⟨o', hs a o' (ne a o e) e'⟩, S.G.fresh, fun a o n e => hs a o (ne a o e) (S.G.kp a o n e)⟩
  ns := S.ns.at' fun o e => hs _ o (Ne.symm cL) e
  nL := S.nL
  off := S.off
  low := S.low
/-- a change at one address that the call may change -/
theorem St.movedM {h' : Heap} (S : St w B M h₀ I₀ L m I h g) (C : Addr) (hs : ∀ b o, b ≠ C → h.get? b = some o → h'.get? b = some o) (hI : I C = none) (c1 : C ≠ P1) (c2 : C ≠ P2) (cL : C ≠ L) (cM : M C) (ce : ∃ o, h'.get? C = some o) : St w B M h₀ I₀ L m I h' g where
  ok := S.ok.moved C hs hI c1 c2
  G := ⟨S.G.le, fun a o e => by
      by_cases q : a = C
      · subst q; exact ce
      · obtain ⟨o', e'⟩ := S.G.ex a o e; exact ⟨o', hs a o' q e'⟩, S.G.fresh, fun a o n e => hs a o (fun q => n (q ▸ cM)) (S.G.kp a o n e)⟩
  ns := S.ns.at' fun o e => hs _ o (Ne.symm cL) e
  nL := S.nL
  off := S.off
  low := S.low
theorem St.stored {h' : Heap} {m' : Str → Option Value} (S : St w B M h₀ I₀ L m I h g) (hn : h'.Ns L m') (hs : ∀ b o, b ≠ L → h.get? b = some o → h'.get? b = some o) : St w B M h₀ I₀ L m' I h' g where
  ok := S.ok.moved L hs S.nL S.ne.1 S.ne.2
  G := by
    have ne : ∀ a o, h₀.get? a = some o → a ≠ L := fun a o e q => by rw [q, S.off] at e; cases e
    exact ⟨S.G.le, fun a o e => let ⟨o', e'⟩ := S.G.ex a o e; ⟨o', hs a o' (ne a o e) e'⟩, S.G.fresh, fun a o n e => hs a o (ne a o e) (S.G.kp a o n e)⟩
  ns := hn
  nL := S.nL
  off := S.off
  low := S.low
/-- behind a call -/
theorem St.called {M' : Addr → Prop} {h' : Heap} {I' : Im} {g' : Array GenState} (S : St w B M h₀ I₀ L m I h g) (k : Ok w B I' h' g') (G : Grow M' h I h' I') (hM : ∀ a, M' a → M a ∨ h₀.get? a = none) (hL : ¬ M' L) : St w B M h₀ I₀ L m I' h' g' where
  ok := k
  G := by
    have nn : ∀ a o, ¬ M a → h₀.get? a = some o → ¬ M' a := fun a o n e q => (hM a q).elim n fun z => by rw [e] at z; cases z
    exact ⟨S.G.le.trans G.le, fun a o e => let ⟨o', e'⟩ := S.G.ex a o e; G.ex a o' e', fun a o o' n e q => S.G.fresh a o o' n e (G.fresh a o o' (nn a o n e) (S.G.kp a o n e) q), fun a o n e => G.kp a o (nn a o n e) (S.G.kp a o n e)⟩
  ns := S.ns.at' fun o e => G.kp L o hL e
  nL := by
    cases q : I' L with
    | none => rfl
    | some o =>
      obtain ⟨oL, es, ep, e, _⟩ := S.ns
      have := G.fresh L oL o hL e q
      rw [S.nL] at this; cases this
  off := S.off
  low := S.low
/-- behind a call that changes the tables alone -/
theorem St.after {h' : Heap} {I' : Im} {g' : Array GenState} (S : St w B M h₀ I₀ L m I h g) (k : Ok w B I' h' g') (G : Grow Mt h I h' I') (hM : ∀ a, Mt a → M a) : St w B M h₀ I₀ L m I' h' g' :=
  S.called k G (fun a q => .inl (hM a q)) fun q => q.elim S.ne.1 S.ne.2
end

/-! room below -/
structure Room (A : Around) (n : Nat) : Prop where
  hh : A.handled = none
  fr : ∃ l, A.frames = some l
  dep : A.depth + 3 * n < recursionLimit
  un : A.units + 12 * n < cLine
section
variable {A : Around} {n m : Nat}
theorem Room.le (r : Room A n) (h : m ≤ n) : Room A m := ⟨r.hh, r.fr, by have := r.dep; omega, by have := r.un; omega⟩
theorem Room.d (r : Room A n) : A.depth < recursionLimit := by have := r.dep; omega
theorem Room.u (r : Room A n) : A.units < cLine := by have := r.un; omega
theorem Room.deeper (r : Room A (n + 1)) (env : Env) : Room (A.deeper env) n :=
  ⟨r.hh, let ⟨l, e⟩ := r.fr; ⟨env :: l, by simp [Around.deeper, e]⟩, by have := r.dep; show A.depth + 1 + 3 * n < _; omega, by have := r.un; show A.units + 3 + 12 * n < _; omega⟩
theorem Room.in1 (r : Room A (n + 1)) : Room A.in1 n := ⟨r.hh, r.fr, by have := r.dep; show A.depth + 3 * n < _; omega, by have := r.un; show A.units + 1 + 12 * n < _; omega⟩
end

def rv : Flow → Value | .ret v => v | _ => .none

section
variable {w : World} {B : Heap} {I : Im} {h : Heap} {g : Array GenState} {d : Drawn} {t : Nat} {o : OsState} {A : Around}

theorem frame_St {M : Addr → Prop} {I₁ : Im} {h₁ h₂ : Heap} {m : Str → Option Value} (k0 : Ok w B I h g) (k : Ok w B I₁ h₁ g) (G : Grow M h I h₁ I₁) (hn : h₂.Ns h₁.objs.size m) (hk : ∀ a o, h₁.get? a = some o → h₂.get? a = some o) :
    St w B M h I h₁.objs.size m I₁ h₂ g where
  ok := k.keeps hk
  G := ⟨G.le, fun a o e => let ⟨o', e'⟩ := G.ex a o e; ⟨o', hk a o' e'⟩, G.fresh, fun a o n e => hk a o (G.kp a o n e)⟩
  ns := hn
  nL := k.none_size
  off := by
    cases q : h.get? h₁.objs.size with
    | none => rfl
    | some o => obtain ⟨o', e'⟩ := G.ex _ o q; exact absurd (Heap.lt_size e') (Nat.lt_irrefl _)
  low := k0.there

/-- a plain def of the text is entered -/
theorem enter {f : Addr} {name qual : Str} {params : Arguments} {body : List Stmt} {scope : Scope} {dV kV doc pm cdv ct oc : Value} {an od : Option Addr} {osl : Array (Option Value)} {cl : List (Str × Addr)} {vs : List Value} {binds : List (Str × Value)} {Q : Value → Shared → Prop} {E : Value → Shared → Prop}
    (M : Addr → Prop) (k : Ok w B I h g) (ho : (K w).lookup f = some ⟨oc, od, .func (fnX name qual params body scope cl dV kV doc pm an cdv ct), osl⟩) (hcd : codeIn (K w) cdv qual = true) (hroom : A.depth < recursionLimit)
    (hbind : bindArgs (fnX name qual params body scope cl dV kV doc pm an cdv ct) ⟨vs, []⟩ = pure binds) (hcell : ∀ x ∈ scope.names, x.2 ≠ .cell) (hloc : (binds.all fun x => decide (scope.names.lookup x.1 = some .local)) = true)
    (hco : scope.isCoroutine = false) (hgen : scope.isGenerator = false) (hk : scope.kind = .function)
    (hb : ∀ h₁ t₁ E', St w B M h I h.objs.size (fun x => binds.reverse.lookup x) I h₁ g →
      wpAny (model PR w) (A.deeper (envX qual scope h.objs.size f cdv cl)) (execs body (envX qual scope h.objs.size f cdv cl)) (fun fl s' => Q (rv fl) s') E' ⟨h₁, g, d, t₁, o⟩) :
    wpAny (model PR w) A (call (.ref f) vs) Q E ⟨h, g, d, t, o⟩ := by
  refine wpAny_call (codeAny_call_def (s := ⟨h, g, d, t, o⟩) (fd := fnX name qual params body scope cl dV kV doc pm an cdv ct) (body := body) (binds := binds) hroom (k.X _ _ ho) rfl k.lim (codeRec_of k.X hcd) rfl (.of_eq hbind) hcell (locs hloc) (fun h₁ hns hk₁ => ?_) hco hgen hk)
  have z := hb h₁ (t + binds.length) (fun e s' => wpAny (model PR w) (A.deeper (callEnv (fnX name qual params body scope cl dV kV doc pm an cdv ct) h.objs.size f)) (leaving (callEnv (fnX name qual params body scope cl dV kV doc pm an cdv ct) h.objs.size f) e) (fun _ s'' => E e s'') (fun e' s'' => E e' s'') s')
    (frame_St k k (.refl M h I) hns hk₁)
  refine wpAny_mono z (fun fl s' q => ?_) fun _ _ q => q
  cases fl <;> exact q
end
end Mine
namespace Mine
section
variable {w : World} {B : Heap} {I : Im} {h : Heap} {g : Array GenState} {d : Drawn} {t : Nat} {o : OsState} {A : Around}

/-- a def whose names a block within takes: its cells stand from the start -/
theorem enterC {f : Addr} {name qual : Str} {params : Arguments} {body : List Stmt} {scope : Scope} {dV kV doc pm cdv ct oc : Value} {an od : Option Addr} {osl : Array (Option Value)} {vs : List Value} {binds : List (Str × Value)} {Q : Value → Shared → Prop} {E : Value → Shared → Prop}
    (M : Addr → Prop) (k : Ok w B I h g) (ho : (K w).lookup f = some ⟨oc, od, .func (fnX name qual params body scope [] dV kV doc pm an cdv ct), osl⟩) (hcd : codeIn (K w) cdv qual = true) (hroom : A.depth < recursionLimit)
    (hbind : bindArgs (fnX name qual params body scope [] dV kV doc pm an cdv ct) ⟨vs, []⟩ = pure binds) (hkind : (binds.all fun y => scope.names.lookup y.1 == some .local || scope.names.lookup y.1 == some .cell) = true)
    (hnd : ((cellsFrom 0 scope.names []).map (·.1)).Nodup)
    (hco : scope.isCoroutine = false) (hgen : scope.isGenerator = false) (hk : scope.kind = .function)
    (hb : ∀ h₁ t₁ I₁ E', St w B M h I h.objs.size (bindL (envOfC qual scope h.objs.size f cdv).kindOf binds fun _ => none) I₁ h₁ g → Le I I₁ →
      (∀ n c, (cellsFrom (h.objs.size + 1) scope.names []).lookup n = some c → ∃ q, I₁ c = some q ∧ q.data = .cell (bindC (envOfC qual scope h.objs.size f cdv).kindOf binds (fun _ => none) n)) →
      wpAny (model PR w) (A.deeper (envX qual scope h.objs.size f cdv (cellsFrom (h.objs.size + 1) scope.names []))) (execs body (envX qual scope h.objs.size f cdv (cellsFrom (h.objs.size + 1) scope.names []))) (fun fl s' => Q (rv fl) s') E' ⟨h₁, g, d, t₁, o⟩) :
    wpAny (model PR w) A (call (.ref f) vs) Q E ⟨h, g, d, t, o⟩ := by
  refine wpAny_call (codeAny_call_function (s := ⟨h, g, d, t, o⟩) (fd := fnX name qual params body scope [] dV kV doc pm an cdv ct) (body := body) hroom (k.X _ _ ho) rfl hco hgen rfl (codeRec_of k.X hcd) ?_)
  rw [hbind]
  refine wpAny_pure ?_
  refine wpAny_newFunctionEnv_cells hk (kindsX hkind _) fun env' he s' x => ?_
  subst he
  refine ⟨k.lim.keeps x.toInCall.keep, codeAny_func ?_⟩
  obtain ⟨h₁, tk, rfl⟩ := x.toInCall.same
  have S0 : St w B M h I h.objs.size (bindL (envOfC qual scope h.objs.size f cdv).kindOf binds fun _ => none) I h₁ g := frame_St k k (.refl M h I) x.toInCall.ns x.toInCall.keep
  have S1 := S0.freezeAll (fun a => (cellsFrom (h.objs.size + 1) scope.names []).any (·.2 == a)) (fun a ha => by
    obtain ⟨⟨n, c⟩, hm, hc⟩ := List.any_eq_true.mp ha
    have e : c = a := beq_iff_eq.mp hc
    subst e
    have := x.above n c hm
    refine ⟨?_, Nat.ne_of_gt this⟩
    cases q : h.get? c with
    | none => rfl
    | some o => exact absurd (Nat.lt_trans (Heap.lt_size q) this) (Nat.lt_irrefl _))
  refine wpAny_mono (hb h₁ tk _ _ S1 (fun a q e => ?_) fun n c hc => ?_) (fun fl s' q => ?_) fun _ _ q => q
  · unfold Im.fz
    split
    · exact S0.ok.sub a q e
    · exact e
  · obtain ⟨q, hq, hd⟩ := x.cell n c hc
    refine ⟨q, ?_, hd⟩
    unfold Im.fz
    rw [if_pos (List.any_eq_true.mpr ⟨(n, c), mem_of_lookup hc, beq_self_eq_true c⟩)]
    exact hq
  · cases fl <;> exact q

def Lst (I : Im) (a : Addr) (l : List Value) : Prop := ∃ n, I a = some { cls := .type "list", data := .seq l.toArray n }
theorem Lst.le {I J : Im} {a : Addr} {l : List Value} (x : Lst I a l) (h : Le I J) : Lst J a l := let ⟨n, e⟩ := x; ⟨n, h _ _ e⟩

/-- a block «[elt for x in ..]» over anything that is walked n times -/
theorem comp_rest {M : Addr → Prop} {Is : Im} {hs hi : Heap} {gs : Array GenState} {ti : Nat} {E : Value → Shared → Prop} {env : Env} {elt iter : Expr} {x : Str} {px : Pos} {scope : Scope} {cl : List (Str × Addr)} {pos : Pos} {It : Addr} {fp wr : List Addr} {n : Nat} {P : Nat → Value → Prop} {Stt : Nat → Heap → Prop}
    (W : Walks PR w A It fp wr n P Stt) (hwr : ∀ b ∈ wr, b = It) (k : Ok w B Is hs gs) (ki : Ok w B Is hi gs) (Gi : Grow M hs Is hi Is) (hIt : hs.get? It = none) (hIt' : Is It = none) (hItl : It < hi.objs.size)
    (hfp : ∀ b ∈ fp, b < hi.objs.size ∧ ¬ M b) (hst : Stt 0 hi) (hSI : ∀ i h, Stt i h → ∃ q, h.get? It = some q) (hsz : n ≤ sizeLine)
    (hcell : ∀ y ∈ scope.names, y.2 ≠ .cell) (hkind : scope.kind = .function) (hx : scope.names.lookup x = some .local)
    (hM : ∀ a, M a → ∃ q, hs.get? a = some q)
    (R : Nat → Im → Value → Prop) (hR : ∀ i I I' y, Le I I' → R i I y → R i I' y)
    (V : Heap → Prop) (hV : ∀ h1 h2, (∀ a q, (∃ q0, hs.get? a = some q0) → h1.get? a = some q → h2.get? a = some q) → V h1 → V h2) (hV0 : V hi)
    (helt : ∀ i v C m I' h' g' t' Q' E', i < n → P i v → St w B M hs Is C m I' h' g' → m x = some v → V h' →
      (∀ y I'' h'' g'' t'', Ok w B I'' h'' g'' → Grow M h' I' h'' I'' → V h'' → R i I'' y → Q' y ⟨h'', g'', d, t'', o⟩) → wpAny (model PR w) A (eval elt (compEnvC scope cl C env)) Q' E' ⟨h', g', d, t', o⟩)
    {RR : Value → Addr → Result → Shared → Prop}
    (hRR : ∀ D C h' I' g' t' ys m', Ok w B I' h' g' → Grow M hs Is h' I' → h'.Ns C m' → I' C = none → hs.get? C = none → Lst I' D ys → ys.length = n → (∀ j y, ys[j]? = some y → R j I' y) → V h' → RR (.ref D) C (.ok .next) ⟨h', g', d, t', o⟩) :
    wpAny (model PR w) A (newList []) (fun acc s₃ => wpAny (model PR w) A (newFunctionEnv scope env.globals cl [] env.qual none .none (some env)) (fun cenv s₄ =>
      codeAny (model PR w) A (.compStart (.ListComp elt [⟨.Name x px, iter, [], 0⟩] scope pos) 0 (.ref It) acc { cenv with scope := relabel scope env }) (RR acc cenv.locals) s₄) E s₃) E ⟨hi, gs, d, ti, o⟩ := by
  refine wpAny_newObj_type (wpAny_newFunctionEnv hcell (by intro y hy; simp at hy) (fun h₁ hns₁ hsb₁ => ?_) hkind)
  dsimp only at hns₁ hsb₁ ⊢
  generalize hH2 : hi.push { cls := .type "list", dict := none, data := .seq ([] : List Value).toArray } = H2 at hns₁ hsb₁ ⊢
  have hC : H2.objs.size = hi.objs.size + 1 := by rw [← hH2, Heap.size_push]
  have hDC : hi.objs.size ≠ H2.objs.size := by rw [hC]; exact Nat.ne_of_lt (Nat.lt_succ_self _)
  have old : ∀ b q, hi.get? b = some q → h₁.get? b = some q := fun b q e => hsb₁.extBut b q (Nat.ne_of_lt (by rw [hC]; exact Nat.lt_succ_of_lt (Heap.lt_size e))) (Heap.get?_push_of_some _ (hH2 ▸ Heap.get?_push_of_some _ e))
  have hsi : ∀ a q, hs.get? a = some q → a < hi.objs.size := fun a q e => let ⟨_, e'⟩ := Gi.ex a q e; Heap.lt_size e'
  have hsn : ∀ a : Nat, hi.objs.size ≤ a → hs.get? a = none := fun a ha => by
    cases q : hs.get? a with
    | none => rfl
    | some q' => exact absurd (hsi a q' q) (Nat.not_lt.mpr ha)
  have isn : ∀ a : Nat, hi.objs.size ≤ a → Is a = none := fun a ha => by
    cases q : Is a with
    | none => rfl
    | some q' => exact absurd (Heap.lt_size (ki.sub a q' q)) (Nat.not_lt.mpr ha)
  have nM : ∀ a, hs.get? a = none → ¬ M a := fun a e m => by obtain ⟨q, z⟩ := hM a m; rw [e] at z; cases z
  have hCn := hsn H2.objs.size (by rw [hC]; omega)
  have hDn := hsn hi.objs.size (Nat.le_refl _)
  have hacc : h₁.PlainList hi.objs.size #[] := ⟨_, hsb₁.extBut _ _ hDC (Heap.get?_push_of_some _ (hH2 ▸ Heap.get?_push_size _ rfl))⟩
  have hst₁ : Stt 0 h₁ := W.frame _ _ _ hst fun b _ q e => old b q e
  have S₁ : St w B M hs Is H2.objs.size (fun y => ([] : List (Str × Value)).reverse.lookup y) Is h₁ gs := {
    ok := ki.keeps old
    G := ⟨Gi.le, fun a q e => let ⟨q', e'⟩ := Gi.ex a q e; ⟨q', old a q' e'⟩, Gi.fresh, fun a q m e => old a q (Gi.kp a q m e)⟩
    ns := hns₁
    nL := isn H2.objs.size (by rw [hC]; omega)
    off := hCn
    low := k.there }
  have hDf : hi.objs.size ∉ fp := fun hm => Nat.lt_irrefl _ (hfp _ hm).1
  have hCf : H2.objs.size ∉ fp := fun hm => by have := (hfp _ hm).1; rw [hC] at this; exact Nat.not_succ_lt_self this
  have hV1 : V h₁ := hV hi h₁ (fun a q _ e => old a q e) hV0
  have hkx : (compEnvC scope cl H2.objs.size env).kindOf x = some .local := lookup_relabel_local hx
  have loop : ∀ t', codeAny (model PR w) A (.compLoop (.ListComp elt [⟨.Name x px, iter, [], 0⟩] scope pos) 0 (.ref It) (.ref hi.objs.size) (compEnvC scope cl H2.objs.size env)) (RR (.ref hi.objs.size) H2.objs.size) ⟨h₁, gs, d, t', o⟩ := by
    intro t'
    refine codeAny_compLoop_list (fun kk s' => ∃ h' I' g' t' m' ys i, s' = ⟨h', g', d, t', o⟩ ∧ kk = n + 1 - i ∧ i ≤ n ∧ Stt i h' ∧ St w B M hs Is H2.objs.size m' I' h' g' ∧ h'.PlainList hi.objs.size (ys : List Value).toArray ∧ ys.length = i ∧
      (∀ j y, ys[j]? = some y → R j I' y) ∧ V h' ∧ I' hi.objs.size = none ∧ I' It = none) ?_ (n + 1) ⟨h₁, Is, gs, t', _, [], 0, rfl, rfl, Nat.zero_le _, hst₁, S₁, hacc, rfl, fun j y e => by simp at e, hV1, isn _ (Nat.le_refl _), hIt'⟩
    rintro kk s' ⟨h', I', g', t', m', ys, i, rfl, rfl, hi', hst', S', hl', hys, hRs, hv', hID, hII⟩
    by_cases hlt : i < n
    · refine W.item i _ _ _ hlt hst' fun v h2 tk2 hP hst2 hk2 => ?_
      have kI : ∀ b q, b ≠ It → h'.get? b = some q → h2.get? b = some q := fun b q hb e => hk2 b q (fun z => hb (hwr b z)) e
      have hItC : It ≠ H2.objs.size := Nat.ne_of_lt (by rw [hC]; exact Nat.lt_succ_of_lt hItl)
      have S2 : St w B M hs Is H2.objs.size m' I' h2 g' := S'.moved It kI hII hItC hIt
      refine wpAny_assign_Name (wpAny_storeName_local hkx S2.ns (fun h3 hn3 hs3 => ?_) (by simp [compEnvC, relabel, hkind]))
      have k3 : ∀ b q, b ≠ H2.objs.size → h2.get? b = some q → h3.get? b = some q := fun b q hb e => (hs3.2 b hb).trans e
      have S3 := S2.stored hn3 k3
      have hv3 : V h3 := hV h' h3 (fun a q ⟨q0, e0⟩ e => k3 a q (fun z => by rw [z, hCn] at e0; cases e0) (kI a q (fun z => by rw [z, hIt] at e0; cases e0) e)) hv'
      have nIM : ¬ M It := nM It hIt
      have nDM : ¬ M hi.objs.size := nM _ hDn
      refine helt i v _ _ I' h3 g' _ _ _ hlt hP S3 (by simp) hv3 fun y I4 h4 g4 t4 k4 G4 hv4 hy => ?_
      have S4 : St w B M hs Is H2.objs.size _ I4 h4 g4 := S3.called k4 G4 (fun a m => .inl m) (nM _ hCn)
      have hst3 : Stt (i + 1) h3 := W.frame _ _ _ hst2 fun b hb q e => k3 b q (fun z => hCf (z ▸ hb)) e
      have hst4 : Stt (i + 1) h4 := W.frame _ _ _ hst3 fun b hb q e => G4.kp b q (hfp b hb).2 e
      have hItD : It ≠ hi.objs.size := Nat.ne_of_lt hItl
      have l3 : h3.PlainList hi.objs.size ys.toArray := hl'.at fun q e => k3 _ q hDC (kI _ q (Ne.symm hItD) e)
      have l4 : h4.PlainList hi.objs.size ys.toArray := l3.at fun q e => G4.kp _ q nDM e
      have iD4 : I4 hi.objs.size = none := by
        cases z : I4 hi.objs.size with
        | none => rfl
        | some q => obtain ⟨nn, e⟩ := l3; have := G4.fresh _ _ q nDM e z; rw [hID] at this; cases this
      have eIt : ∃ q, h3.get? It = some q := hSI _ _ hst3
      have iI4 : I4 It = none := by
        cases z : I4 It with
        | none => rfl
        | some q => obtain ⟨nn, e⟩ := eIt; have := G4.fresh _ _ q nIM e z; rw [hII] at this; cases this
      have hsz4 : ys.toArray.size ≤ sizeLine := by rw [List.size_toArray, hys]; omega
      refine wpAny_list_append_plain (hsz := hsz4) l4 fun h5 l5 hs5 => ?_
      have k5 : ∀ b q, b ≠ hi.objs.size → h4.get? b = some q → h5.get? b = some q := fun b q hb e => (hs5.2 b hb).trans e
      have S5 := S4.moved _ k5 iD4 hDC hDn
      refine ⟨n + 1 - (i + 1), by omega, h5, I4, g4, _, _, ys ++ [y], i + 1, rfl, rfl, hlt, W.frame _ _ _ hst4 fun b hb q e => k5 b q (fun z => hDf (z ▸ hb)) e, S5, by simpa using l5, by simp [hys], fun j u e => ?_,
        hV h4 h5 (fun a q ⟨q0, e0⟩ e => k5 a q (fun z => by rw [z, hDn] at e0; cases e0) e) hv4, iD4, iI4⟩
      rcases Nat.lt_trichotomy j i with hj | hj | hj
      · rw [List.getElem?_append_left (by omega)] at e
        exact hR j I' I4 u G4.le (hRs j u e)
      · subst hj
        rw [← hys] at e
        simp at e
        subst e
        exact hy
      · rw [List.getElem?_eq_none (by simp [hys]; omega)] at e; cases e
    · have hin : i = n := by omega
      subst hin
      refine W.done _ _ _ hst' fun h2 tk2 hk2 => ?_
      have kI : ∀ b q, b ≠ It → h'.get? b = some q → h2.get? b = some q := fun b q hb e => hk2 b q (fun z => hb (hwr b z)) e
      have hItC : It ≠ H2.objs.size := Nat.ne_of_lt (by rw [hC]; exact Nat.lt_succ_of_lt hItl)
      have S2 : St w B M hs Is H2.objs.size m' I' h2 g' := S'.moved It kI hII hItC hIt
      have hv2 : V h2 := hV h' h2 (fun a q ⟨q0, e0⟩ e => kI a q (fun z => by rw [z, hIt] at e0; cases e0) e) hv'
      obtain ⟨nn, e⟩ := hl'
      have eD := kI _ _ (Ne.symm (Nat.ne_of_lt hItl)) e
      have S3 := S2.freeze eD hDn hDC
      exact hRR _ _ h2 _ g' _ ys m' S3.ok S3.G S3.ns S3.nL hCn ⟨nn, Im.up_self⟩ hys (fun j y e' => hR j I' _ y (Le.up hID) (hRs j y e')) hv2
  exact codeAny_compStart_list (loop _) (W.self 0 _ _ _ hst₁ (loop _))

def Tup (I : Im) (a : Addr) (l : List Value) : Prop := ∃ n, I a = some { cls := .type "tuple", data := .seq l.toArray n }
theorem Tup.le {I J : Im} {a : Addr} {l : List Value} (x : Tup I a l) (h : Le I J) : Tup J a l := let ⟨n, e⟩ := x; ⟨n, h _ _ e⟩
theorem Tup.is {I : Im} {a : Addr} {l : List Value} (x : Tup I a l) (k : Ok w B I h g) : IsTup h a l.toArray := let ⟨n, e⟩ := x; ⟨_, k.sub _ _ e, rfl, n, rfl⟩
theorem Lst.is {I : Im} {a : Addr} {l : List Value} (x : Lst I a l) (k : Ok w B I h g) : h.IsList a l.toArray := let ⟨n, e⟩ := x; ⟨_, k.sub _ _ e, rfl, n, rfl⟩

structure CompHyps (w : World) (B : Heap) (d : Drawn) (o : OsState) (A : Around) (env : Env) (scope : Scope) (cl : List (Str × Addr)) (x : Str) (elt : Expr) (M : Addr → Prop) (I : Im) (h : Heap) (n : Nat) (P : Nat → Value → Prop) (R : Nat → Im → Value → Prop) (V : Heap → Prop) : Prop where
  hM : ∀ a, M a → ∃ q, h.get? a = some q
  hR : ∀ i I I' y, Le I I' → R i I y → R i I' y
  hV : ∀ h1 h2, (∀ a q, (∃ q0, h.get? a = some q0) → h1.get? a = some q → h2.get? a = some q) → V h1 → V h2
  hV0 : V h
  helt : ∀ i v C m I' h' g' t' Q' E', i < n → P i v → St w B M h I C m I' h' g' → m x = some v → V h' →
      (∀ y I'' h'' g'' t'', Ok w B I'' h'' g'' → Grow M h' I' h'' I'' → V h'' → R i I'' y → Q' y ⟨h'', g'', d, t'', o⟩) → wpAny (model PR w) A (eval elt (compEnvC scope cl C env)) Q' E' ⟨h', g', d, t', o⟩

def CompDone (w : World) (B : Heap) (d : Drawn) (o : OsState) (M : Addr → Prop) (I : Im) (h : Heap) (n : Nat) (R : Nat → Im → Value → Prop) (V : Heap → Prop) (K : Addr → Shared → Prop) : Prop :=
  ∀ D h' I' g' t' ys, Ok w B I' h' g' → Grow M h I h' I' → Lst I' D ys → ys.length = n → (∀ j y, ys[j]? = some y → R j I' y) → V h' → K D ⟨h', g', d, t', o⟩

theorem comp_tup {M : Addr → Prop} {ts : Nat} {E : Value → Shared → Prop} {env : Env} {elt iter : Expr} {x : Str} {px : Pos} {scope : Scope} {cl : List (Str × Addr)} {pos : Pos} {ax : Addr} {xs : List Value} {R : Nat → Im → Value → Prop} {V : Heap → Prop}
    (hh : A.handled = none) (k : Ok w B I h g) (hx0 : Tup I ax xs) (hMa : ¬ M ax) (hsz : xs.length ≤ sizeLine)
    (hcell : ∀ y ∈ scope.names, y.2 ≠ .cell) (hkind : scope.kind = .function) (hx : scope.names.lookup x = some .local)
    (C : CompHyps w B d o A env scope cl x elt M I h xs.length (fun i v => xs[i]? = some v) R V) {RR : Value → Addr → Result → Shared → Prop}
    (hRR : ∀ D C h' I' g' t' ys m', Ok w B I' h' g' → Grow M h I h' I' → h'.Ns C m' → I' C = none → h.get? C = none → Lst I' D ys → ys.length = xs.length → (∀ j y, ys[j]? = some y → R j I' y) → V h' → RR (.ref D) C (.ok .next) ⟨h', g', d, t', o⟩) :
    wpAny (model PR w) A (pyIter (.ref ax)) (fun it s₂ => wpAny (model PR w) A (newList []) (fun acc s₃ => wpAny (model PR w) A (newFunctionEnv scope env.globals cl [] env.qual none .none (some env)) (fun cenv s₄ =>
      codeAny (model PR w) A (.compStart (.ListComp elt [⟨.Name x px, iter, [], 0⟩] scope pos) 0 it acc { cenv with scope := relabel scope env }) (RR acc cenv.locals) s₄) E s₃) E s₂) E ⟨h, g, d, ts, o⟩ := by
  have tt := hx0.is k
  obtain ⟨n0, e0⟩ := hx0
  have hal : ax < h.objs.size := Heap.lt_size (k.sub _ _ e0)
  refine wpAny_pyIter_tuple tt ?_
  have nIt : h.get? h.objs.size = none := by
    cases q : h.get? h.objs.size with
    | none => rfl
    | some o => exact absurd (Heap.lt_size q) (Nat.lt_irrefl _)
  have nM : ¬ M h.objs.size := fun m => by obtain ⟨q, z⟩ := C.hM _ m; rw [nIt] at z; cases z
  have W := Walks.tuple (prog := PR) (w := w) (A := A) hh h.objs.size ax (Nat.ne_of_lt hal) xs.toArray
  rw [List.size_toArray] at W
  refine comp_rest W (fun b hb => by simpa using hb) k (k.push _) (.push M h I _) nIt k.none_size (by rw [Heap.size_push]; exact Nat.lt_succ_self _) (fun b hb => ?_)
    ⟨⟨_, Heap.get?_push_size _ rfl, rfl, rfl⟩, tt.keeps fun b o e => Heap.get?_push_of_some _ e⟩ (fun i h z => let ⟨⟨q, e, _⟩, _⟩ := z; ⟨q, e⟩) hsz hcell hkind hx C.hM R C.hR V C.hV (C.hV _ _ (fun a q _ e => Heap.get?_push_of_some _ e) C.hV0)
    (fun i v C' m I' h' g' t' Q' E' hi hP => C.helt i v C' m I' h' g' t' Q' E' hi (by simpa using hP)) hRR
  simp only [List.mem_cons, List.not_mem_nil, or_false] at hb
  rcases hb with rfl | rfl
  · exact ⟨by rw [Heap.size_push]; exact Nat.lt_succ_self _, nM⟩
  · exact ⟨by rw [Heap.size_push]; exact Nat.lt_succ_of_lt hal, hMa⟩
theorem comp_lst {M : Addr → Prop} {ts : Nat} {E : Value → Shared → Prop} {env : Env} {elt iter : Expr} {x : Str} {px : Pos} {scope : Scope} {cl : List (Str × Addr)} {pos : Pos} {ax : Addr} {xs : List Value} {R : Nat → Im → Value → Prop} {V : Heap → Prop}
    (hh : A.handled = none) (k : Ok w B I h g) (hx0 : Lst I ax xs) (hMa : ¬ M ax) (hsz : xs.length ≤ sizeLine)
    (hcell : ∀ y ∈ scope.names, y.2 ≠ .cell) (hkind : scope.kind = .function) (hx : scope.names.lookup x = some .local)
    (C : CompHyps w B d o A env scope cl x elt M I h xs.length (fun i v => xs[i]? = some v) R V) {RR : Value → Addr → Result → Shared → Prop}
    (hRR : ∀ D C h' I' g' t' ys m', Ok w B I' h' g' → Grow M h I h' I' → h'.Ns C m' → I' C = none → h.get? C = none → Lst I' D ys → ys.length = xs.length → (∀ j y, ys[j]? = some y → R j I' y) → V h' → RR (.ref D) C (.ok .next) ⟨h', g', d, t', o⟩) :
    wpAny (model PR w) A (pyIter (.ref ax)) (fun it s₂ => wpAny (model PR w) A (newList []) (fun acc s₃ => wpAny (model PR w) A (newFunctionEnv scope env.globals cl [] env.qual none .none (some env)) (fun cenv s₄ =>
      codeAny (model PR w) A (.compStart (.ListComp elt [⟨.Name x px, iter, [], 0⟩] scope pos) 0 it acc { cenv with scope := relabel scope env }) (RR acc cenv.locals) s₄) E s₃) E s₂) E ⟨h, g, d, ts, o⟩ := by
  have tt := hx0.is k
  obtain ⟨n0, e0⟩ := hx0
  have hal : ax < h.objs.size := Heap.lt_size (k.sub _ _ e0)
  refine wpAny_pyIter_list tt ?_
  have nIt : h.get? h.objs.size = none := by
    cases q : h.get? h.objs.size with
    | none => rfl
    | some o => exact absurd (Heap.lt_size q) (Nat.lt_irrefl _)
  have nM : ¬ M h.objs.size := fun m => by obtain ⟨q, z⟩ := C.hM _ m; rw [nIt] at z; cases z
  have W := Walks.list (prog := PR) (w := w) (A := A) hh h.objs.size ax (Nat.ne_of_lt hal) xs.toArray
  rw [List.size_toArray] at W
  refine comp_rest W (fun b hb => by simpa using hb) k (k.push _) (.push M h I _) nIt k.none_size (by rw [Heap.size_push]; exact Nat.lt_succ_self _) (fun b hb => ?_)
    ⟨⟨_, Heap.get?_push_size _ rfl, rfl, rfl⟩, tt.at fun o e => Heap.get?_push_of_some _ e⟩ (fun i h z => let ⟨⟨q, e, _⟩, _⟩ := z; ⟨q, e⟩) hsz hcell hkind hx C.hM R C.hR V C.hV (C.hV _ _ (fun a q _ e => Heap.get?_push_of_some _ e) C.hV0)
    (fun i v C' m I' h' g' t' Q' E' hi hP => C.helt i v C' m I' h' g' t' Q' E' hi (by simpa using hP)) hRR
  simp only [List.mem_cons, List.not_mem_nil, or_false] at hb
  rcases hb with rfl | rfl
  · exact ⟨by rw [Heap.size_push]; exact Nat.lt_succ_self _, nM⟩
  · exact ⟨by rw [Heap.size_push]; exact Nat.lt_succ_of_lt hal, hMa⟩

/-- what a block's source must be -/
def CompSrcOk (w : World) (B : Heap) (d : Drawn) (o : OsState) (A : Around) (env : Env) (scope : Scope) (cl : List (Str × Addr)) (x : Str) (elt : Expr) (K : Addr → Shared → Prop) (xv : Value) (s : Shared) : Prop :=
  ∃ ax xs I h g t, ∃ (M : Addr → Prop) (R : Nat → Im → Value → Prop) (V : Heap → Prop), xv = .ref ax ∧ s = ⟨h, g, d, t, o⟩ ∧ Ok w B I h g ∧ (Tup I ax xs ∨ Lst I ax xs) ∧ ¬ M ax ∧ xs.length ≤ sizeLine ∧
    CompHyps w B d o A env scope cl x elt M I h xs.length (fun i v => xs[i]? = some v) R V ∧ CompDone w B d o M I h xs.length R V K

theorem comp_ev {E : Value → Shared → Prop} {s : Shared} {Q : Value → Shared → Prop} {env : Env} {elt iter : Expr} {x : Str} {px : Pos} {scope : Scope} {cl : List (Str × Addr)} {pos : Pos}
    (hh : A.handled = none) (hclos : closureFor scope env = pure cl) (hcell : ∀ y ∈ scope.names, y.2 ≠ .cell) (hkind : scope.kind = .function) (hnames : ∀ x ∈ scope.names, x.2 = .local → scope.names.lookup x.1 = some .local) (hx : scope.names.lookup x = some .local)
    (hs : ∀ x, foldedSetIterable iter env x = pure x)
    (hq : wpAny (model PR w) A (eval iter env) (CompSrcOk w B d o A env scope cl x elt fun D s' => Q (.ref D) s') E s) :
    wpAny (model PR w) A (eval (.ListComp elt [⟨.Name x px, iter, [], 0⟩] scope pos) env) Q E s := by
  rw [eval_ListComp]
  refine wpAny_comprehension_free (g := ⟨.Name x px, iter, [], 0⟩) (gs := []) rfl hs hclos hkind hnames (wpAny_mono hq (fun xv s₁ z => ?_) fun _ _ e => e)
  obtain ⟨ax, xs, I, h, g, t, M, R, V, rfl, rfl, k, src, nM, hsz, C, D⟩ := z
  have fin : ∀ D C h' I' g' t' ys m', Ok w B I' h' g' → Grow M h I h' I' → h'.Ns C m' → I' C = none → h.get? C = none → Lst I' D ys → ys.length = xs.length → (∀ j y, ys[j]? = some y → R j I' y) → V h' →
      compPost (model PR w) A E none Q (.ref D) C (.ok .next) ⟨h', g', d, t', o⟩ := by
    intro D' C' h' I' g' t' ys m' k' G' hn hi hc hl hlen hr hv
    refine ⟨m', hn, fun h'' hs'' => ?_⟩
    have nP : ∀ P, (∃ q, h.get? P = some q) → C' ≠ P := fun P ⟨q, e⟩ z => by rw [← z, hc] at e; cases e
    have kk : ∀ b q, b ≠ C' → h'.get? b = some q → h''.get? b = some q := fun b q hb e => (hs''.2 b hb).trans e
    refine D D' h'' I' g' t' ys (k'.moved C' kk hi (nP _ k.there.1) (nP _ k.there.2)) ⟨G'.le, fun a q e => ?_, G'.fresh, fun a q m e => kk a q (fun z => nP a ⟨q, e⟩ z.symm) (G'.kp a q m e)⟩ hl hlen hr (C.hV h' h'' (fun a q e0 e => kk a q (fun z => nP a e0 z.symm) e) hv)
    obtain ⟨q', e'⟩ := G'.ex a q e
    exact ⟨q', kk a q' (fun z => nP a ⟨q, e⟩ z.symm) e'⟩
  rcases src with t' | l'
  · exact comp_tup (RR := fun acc C => compPost (model PR w) A E none Q acc C) hh k t' nM hsz hcell hkind hx C fin
  · exact comp_lst (RR := fun acc C => compPost (model PR w) A E none Q acc C) hh k l' nM hsz hcell hkind hx C fin

def CompSrcAs (w : World) (B : Heap) (d : Drawn) (o : OsState) (A : Around) (M₀ : Addr → Prop) (h₀ : Heap) (I₀ : Im) (env : Env) (scope : Scope) (cl : List (Str × Addr)) (x y : Str) (elt : Expr) (Q : Flow → Shared → Prop) (xv : Value) (s : Shared) : Prop :=
  ∃ ax xs I h g t m, ∃ (M : Addr → Prop) (R : Nat → Im → Value → Prop) (V : Heap → Prop), xv = .ref ax ∧ s = ⟨h, g, d, t, o⟩ ∧ St w B M₀ h₀ I₀ env.locals m I h g ∧ (Tup I ax xs ∨ Lst I ax xs) ∧ ¬ M ax ∧ xs.length ≤ sizeLine ∧
    CompHyps w B d o A env scope cl x elt M I h xs.length (fun i v => xs[i]? = some v) R V ∧ (∀ a, M a → M₀ a ∨ h₀.get? a = none) ∧ ¬ M env.locals ∧
    ∀ D h' I' g' t' ys, St w B M₀ h₀ I₀ env.locals (fun z => if z = y then some (.ref D) else m z) I' h' g' → Le I I' → Lst I' D ys → ys.length = xs.length → (∀ j u, ys[j]? = some u → R j I' u) → (∃ hv, V hv ∧ ∀ a q, a ≠ env.locals → (∃ q0, h.get? a = some q0) → hv.get? a = some q → h'.get? a = some q) → Q .next ⟨h', g', d, t', o⟩

/-- «y = [elt for x in ..]»; y is the frame's own name -/
theorem comp_assign {M₀ : Addr → Prop} {h₀ : Heap} {I₀ : Im} {E : Value → Shared → Prop} {s : Shared} {Q : Flow → Shared → Prop} {env : Env} {elt iter : Expr} {x y : Str} {px py : Pos} {scope : Scope} {cl : List (Str × Addr)} {pos spos : Pos}
    (hsw : swapsWith (.ListComp elt [⟨.Name x px, iter, [], 0⟩] scope pos) (some (.Name y py)) spos.line env = pure true)
    (hh : A.handled = none) (hclos : closureFor scope env = pure cl) (hcell : ∀ y ∈ scope.names, y.2 ≠ .cell) (hkind : scope.kind = .function) (hnames : ∀ x ∈ scope.names, x.2 = .local → scope.names.lookup x.1 = some .local) (hx : scope.names.lookup x = some .local)
    (hy : env.kindOf y = some .local) (hp : (env.scope.kind == .class || (env.scope.kind == .module && env.locals != env.globals)) = false)
    (hs : ∀ x, foldedSetIterable iter env x = pure x)
    (hq : wpAny (model PR w) A (eval iter env) (CompSrcAs w B d o A M₀ h₀ I₀ env scope cl x y elt Q) E s) :
    wpAny (model PR w) A (exec (.Assign [.Name y py] (.ListComp elt [⟨.Name x px, iter, [], 0⟩] scope pos) spos) env) Q E s := by
  rw [exec_Assign_Name_used _ _ _ _ hsw]
  refine wpAny_bind (wpAny_standAt (wpAny_bind ?_))
  show wpAny _ A (do let _ ← comprehension (.ListComp elt [⟨.Name x px, iter, [], 0⟩] scope pos) scope env _ (newList []) false (eval iter env) (some (assign (.Name y py) env))) _ _ s
  refine wpAny_bind (wpAny_mono (wpAny_comprehension_free (Q := fun _ s' => Q .next s') (g := ⟨.Name x px, iter, [], 0⟩) (gs := []) rfl hs hclos hkind hnames (wpAny_mono hq (fun xv s₁ z => ?_) fun _ _ e => e))
    (fun _ s' hq => wpAny_pure (wpAny_pure hq)) fun _ _ e => e)
  obtain ⟨ax, xs, I, h, g, t, m, M, R, V, rfl, rfl, S, src, nM, hsz, C, hMM, nML, D⟩ := z
  have fin : ∀ D C h' I' g' t' ys m', Ok w B I' h' g' → Grow M h I h' I' → h'.Ns C m' → I' C = none → h.get? C = none → Lst I' D ys → ys.length = xs.length → (∀ j y, ys[j]? = some y → R j I' y) → V h' →
      compPost (model PR w) A E (some (assign (.Name y py) env)) (fun _ s' => Q .next s') (.ref D) C (.ok .next) ⟨h', g', d, t', o⟩ := by
    intro D' C' h' I' g' t' ys m' k' G' hn hi hc hl hlen hr hv
    have S1 := S.called k' G' hMM nML
    refine wpAny_assign_Name (wpAny_storeName_local hy S1.ns (fun h2 hn2 hs2 => ?_) hp)
    have k2 : ∀ b q, b ≠ env.locals → h'.get? b = some q → h2.get? b = some q := fun b q hb e => (hs2.2 b hb).trans e
    have S2 := S1.stored hn2 k2
    have hCL : C' ≠ env.locals := by
      rintro rfl
      obtain ⟨q, es, ep, e, _⟩ := S.ns
      rw [hc] at e; cases e
    refine ⟨m', hn.at' fun q e => k2 _ q hCL e, fun h3 hs3 => ?_⟩
    have k3 : ∀ b q, b ≠ C' → h2.get? b = some q → h3.get? b = some q := fun b q hb e => (hs3.2 b hb).trans e
    have hc0 : h₀.get? C' = none := by
      cases z : h₀.get? C' with
      | none => rfl
      | some q => obtain ⟨q', e'⟩ := S.G.ex _ _ z; rw [hc] at e'; cases e'
    have S3 := S2.moved C' k3 hi hCL hc0
    exact D D' h3 I' g' _ ys S3 G'.le hl hlen hr ⟨h', hv, fun a q haL ⟨q0, e0⟩ e => k3 a q (fun z => by rw [z, hc] at e0; cases e0) (k2 a q haL e)⟩
  rcases src with t' | l'
  · exact comp_tup (RR := fun acc C => compPost (model PR w) A E (some (assign (.Name y py) env)) (fun _ s' => Q .next s') acc C) hh S.ok t' nM hsz hcell hkind hx C fin
  · exact comp_lst (RR := fun acc C => compPost (model PR w) A E (some (assign (.Name y py) env)) (fun _ s' => Q .next s') acc C) hh S.ok l' nM hsz hcell hkind hx C fin
end
end Mine
namespace Mine
section
variable {w : World} {B : Heap} {I : Im} {h : Heap} {g : Array GenState} {d : Drawn} {t : Nat} {o : OsState} {A : Around} {E : Value → Shared → Prop} {env : Env}

/-! leaves -/
theorem lk_hd {x k : Str} {v : Value} {r : List (Str × Value)} (e : (x == k) = true) : List.lookup x ((k, v) :: r) = some v := by
  simp [List.lookup, e]
theorem lk_tl {x k : Str} {v u : Value} {r : List (Str × Value)} (e : (x == k) = false) (y : List.lookup x r = some v) : List.lookup x ((k, u) :: r) = some v := by
  simp [List.lookup, e, y]
theorem up_lk {y : Str} {v : Value} {l : List (Str × Value)} : (fun x => if x = y then some v else l.lookup x) = fun x => List.lookup x ((y, v) :: l) := by
  funext x
  by_cases e : x = y
  · subst e; simp [List.lookup]
  · rw [if_neg e]
    show _ = List.lookup x ((y, v) :: l)
    have : (x == y) = false := by simpa using e
    simp [List.lookup, this]

theorem nm_loc {M : Addr → Prop} {h₀ : Heap} {I₀ : Im} {m : Str → Option Value} {x : Str} {p : Pos} {v : Value} {Q : Value → Shared → Prop}
    (S : St w B M h₀ I₀ env.locals m I h g) (hk : env.scope.kind = .function) (hn : env.kindOf x = some .local) (hm : m x = some v) (hx : (x == "__debug__") = false) (hq : Q v ⟨h, g, d, t, o⟩) :
    wpAny (model PR w) A (eval (.Name x p) env) Q E ⟨h, g, d, t, o⟩ := wpAny_Name (wpAny_loadName_local hk hn S.ns hm hq) hx
theorem nm_glob {g' : Array GenState} {x : Str} {p : Pos} {v : Value} {Q : Value → Shared → Prop}
    (k : Ok w B I h g) (hk : env.scope.kind = .function) (hn : env.kindOf x = some .globalImplicit) (hg : env.globals = mainGlobals) (hm : nsIn (K w) mainGlobals x = some (some v)) (hx : (x == "__debug__") = false) (hq : Q v ⟨h, g', d, t, o⟩) :
    wpAny (model PR w) A (eval (.Name x p) env) Q E ⟨h, g', d, t, o⟩ := by
  obtain ⟨_, _, mg, mb, T⟩ := k.T
  exact Name_function_global hk hn (loadGlobal_global (mg := mg) (by rw [hg]; exact T.g) (mg_of k.X T.g hm) hq) hx
theorem nm_boot {g' : Array GenState} {x : Str} {p : Pos} {v : Value} {Q : Value → Shared → Prop}
    (k : Ok w B I h g) (hk : env.scope.kind = .function) (hn : env.kindOf x = some .globalImplicit) (hg : env.globals = mainGlobals) (hb : env.builtins = builtinsNs) (hm : nsIn (K w) mainGlobals x = some none) (hv : bootBuiltins x = some v) (hne : x ≠ "__name__") (hx : (x == "__debug__") = false) (hq : Q v ⟨h, g', d, t, o⟩) :
    wpAny (model PR w) A (eval (.Name x p) env) Q E ⟨h, g', d, t, o⟩ := by
  obtain ⟨_, _, mg, mb, T⟩ := k.T
  exact Name_function_global hk hn (loadGlobal_builtin (mg := mg) (mb := mb) (by rw [hg]; exact T.g) (mg_none_of k.X T.g hm) (by rw [hb]; exact T.b) ((T.builtins x hne).trans hv) hq) hx
/-- a name of the def that stands in a cell, or that a block takes from the def around it -/
theorem nm_cell {g' : Array GenState} {x : Str} {p : Pos} {v : Value} {c : Addr} {q : Obj} {Q : Value → Shared → Prop}
    (k : Ok w B I h g) (hk : env.scope.kind = .function) (hn : env.kindOf x = some .cell) (hc : env.cells.lookup x = some c) (hi : I c = some q) (hd : q.data = .cell (some v)) (hx : (x == "__debug__") = false) (hq : Q v ⟨h, g', d, t, o⟩) :
    wpAny (model PR w) A (eval (.Name x p) env) Q E ⟨h, g', d, t, o⟩ := wpAny_Name (wpAny_loadName_cell hk hn hc ⟨q, k.sub _ _ hi, hd⟩ hq) hx
theorem nm_free {g' : Array GenState} {x : Str} {p : Pos} {v : Value} {c : Addr} {q : Obj} {Q : Value → Shared → Prop}
    (k : Ok w B I h g) (hk : env.scope.kind = .function) (hn : env.kindOf x = some .free) (hc : env.cells.lookup x = some c) (hi : I c = some q) (hd : q.data = .cell (some v)) (hx : (x == "__debug__") = false) (hx' : (x == "__classdict__") = false) (hq : Q v ⟨h, g', d, t, o⟩) :
    wpAny (model PR w) A (eval (.Name x p) env) Q E ⟨h, g', d, t, o⟩ := wpAny_Name (wpAny_loadName_free hk hn hc ⟨q, k.sub _ _ hi, hd⟩ hq hx') hx
/-- «x = e», x the frame's own name -/
theorem put {M : Addr → Prop} {h₀ : Heap} {I₀ : Im} {l : List (Str × Value)} {x : Str} {v : Value} {Q : Unit → Shared → Prop}
    (S : St w B M h₀ I₀ env.locals (fun z => l.lookup z) I h g) (hn : env.kindOf x = some .local) (hs : (env.scope.kind == .class || (env.scope.kind == .module && env.locals != env.globals)) = false)
    (hq : ∀ h', St w B M h₀ I₀ env.locals (fun z => List.lookup z ((x, v) :: l)) I h' g → (∀ b q, b ≠ env.locals → h.get? b = some q → h'.get? b = some q) → Q () ⟨h', g, d, t + 1, o⟩) :
    wpAny (model PR w) A (storeName env x v) Q E ⟨h, g, d, t, o⟩ := by
  refine wpAny_storeName_local hn S.ns (fun h' hn' hs' => hq h' ?_ fun b q hb e => (hs'.2 b hb).trans e) hs
  rw [← up_lk]
  exact S.stored hn' fun b q hb e => (hs'.2 b hb).trans e
/-- an item of a tuple that stands -/
theorem sub_tup {g' : Array GenState} {value slice : Expr} {a : Addr} {l : List Value} {n : Int} {u : Tok} {j : Nat} {x : Value} {Q : Value → Shared → Prop} (k : Ok w B I h g) (ht : Tup I a l)
    (h0 : -2 ^ 63 ≤ n) (h1 : n < 2 ^ 63) (hj : seqIndex? n l.length = some j) (hx : l[j]? = some x) (hs : subscripted slice false (.ref a) (.int n u) = operate [.ref a, .int n u] (getItem (.ref a) (.int n u))) (hq : Q x ⟨h, g', d, t, o⟩) :
    wpAny (model PR w) A (subscriptTail value slice (.ref a) (.int n u)) Q E ⟨h, g', d, t, o⟩ :=
  item_tupleT (l := l) (ht.is k) h0 h1 hj hx hq hs
end
end Mine
namespace Mine

/-! the law's data -/
inductive T where
  | sym (x : Str) | con (b : Bool) | not (t : T) | op2 (k : Bool) (a b : T) | op3 (k : Bool) (a b c : T)
abbrev opw (k : Bool) : Str := if k then Str.ofString "or" else Str.ofString "and"
abbrev conw (k : Bool) : Str := if k then Str.ofString "1" else Str.ofString "0"
def T.op : T → Option (Bool × List T) | .op2 k a b => some (k, [a, b]) | .op3 k a b c => some (k, [a, b, c]) | _ => none
def T.h : T → Nat
  | .sym _ => 1 | .con _ => 1 | .not t => t.h + 1 | .op2 _ a b => max a.h b.h + 1 | .op3 _ a b c => max a.h (max b.h c.h) + 1
def T.low : T → Bool → T
  | .sym x, b => if b then .not (.sym x) else .sym x
  | .con c, b => .con (c != b)
  | .not t, b => t.low (!b)
  | .op2 k x y, b => .op2 (k != b) (x.low b) (y.low b)
  | .op3 k x y z, b => .op3 (k != b) (x.low b) (y.low b) (z.low b)
def TIn (I : Im) : T → Value → Prop
  | .sym x, v => ∃ a tk tk', v = .ref a ∧ Tup I a [.str (Str.ofString "sym") tk, .str x tk']
  | .con b, v => ∃ a tk, v = .ref a ∧ Tup I a [.str (conw b) tk]
  | .not t, v => ∃ a tk u, v = .ref a ∧ Tup I a [.str (Str.ofString "not") tk, u] ∧ TIn I t u
  | .op2 k x y, v => ∃ a tk u1 u2, v = .ref a ∧ Tup I a [.str (opw k) tk, u1, u2] ∧ TIn I x u1 ∧ TIn I y u2
  | .op3 k x y z, v => ∃ a tk u1 u2 u3, v = .ref a ∧ Tup I a [.str (opw k) tk, u1, u2, u3] ∧ TIn I x u1 ∧ TIn I y u2 ∧ TIn I z u3
theorem TIn.le {I J : Im} (hl : Le I J) : ∀ {t : T} {v : Value}, TIn I t v → TIn J t v := by
  intro t
  induction t with
  | sym x => rintro v ⟨a, tk, tk', rfl, h⟩; exact ⟨a, tk, tk', rfl, h.le hl⟩
  | con b => rintro v ⟨a, tk, rfl, h⟩; exact ⟨a, tk, rfl, h.le hl⟩
  | not t ih => rintro v ⟨a, tk, u, rfl, h, x⟩; exact ⟨a, tk, u, rfl, h.le hl, ih x⟩
  | op2 k x y ix iy => rintro v ⟨a, tk, u1, u2, rfl, h, x1, x2⟩; exact ⟨a, tk, u1, u2, rfl, h.le hl, ix x1, iy x2⟩
  | op3 k x y z ix iy iz => rintro v ⟨a, tk, u1, u2, u3, rfl, h, x1, x2, x3⟩; exact ⟨a, tk, u1, u2, u3, rfl, h.le hl, ix x1, iy x2, iz x3⟩
/-- the parts, item by item -/
def Each (R : T → Value → Prop) (ts : List T) (us : List Value) : Prop := us.length = ts.length ∧ ∀ (j : Nat) u t, us[j]? = some u → ts[j]? = some t → R t u
theorem Each.nil {R : T → Value → Prop} : Each R [] [] := ⟨rfl, fun j u t e => by simp at e⟩
theorem Each.cons {R : T → Value → Prop} {t : T} {u : Value} {ts : List T} {us : List Value} (h : R t u) (r : Each R ts us) : Each R (t :: ts) (u :: us) :=
  ⟨by simp [r.1], fun j u' t' e e' => by
    cases j with
    | zero => simp at e e'; subst e; subst e'; exact h
    | succ j => simp at e e'; exact r.2 j u' t' e e'⟩
theorem Each.hd {R : T → Value → Prop} {t : T} {ts : List T} {us : List Value} (r : Each R (t :: ts) us) : ∃ u us', us = u :: us' ∧ R t u ∧ Each R ts us' := by
  obtain ⟨hl, hr⟩ := r
  cases us with
  | nil => simp at hl
  | cons u us => exact ⟨u, us, rfl, hr 0 u t (by simp) (by simp), by simpa using hl, fun j u' t' e e' => hr (j + 1) u' t' (by simpa using e) (by simpa using e')⟩
theorem Each.done {R : T → Value → Prop} {us : List Value} (r : Each R [] us) : us = [] := by have := r.1; simpa using this
theorem Each.le {R R' : T → Value → Prop} {ts : List T} {us : List Value} (r : Each R ts us) (h : ∀ t u, R t u → R' t u) : Each R' ts us := ⟨r.1, fun j u t e e' => h t u (r.2 j u t e e')⟩
theorem TIn.op {I : Im} {t : T} {k : Bool} {ts : List T} {v : Value} (ho : t.op = some (k, ts)) (x : TIn I t v) : ∃ a tk us, v = .ref a ∧ Tup I a (.str (opw k) tk :: us) ∧ Each (TIn I) ts us := by
  cases t with
  | op2 k' a b =>
    simp only [T.op, Option.some.injEq, Prod.mk.injEq] at ho
    obtain ⟨rfl, rfl⟩ := ho
    obtain ⟨a, tk, u1, u2, rfl, h, x1, x2⟩ := x
    exact ⟨a, tk, _, rfl, h, .cons x1 (.cons x2 .nil)⟩
  | op3 k' a b c =>
    simp only [T.op, Option.some.injEq, Prod.mk.injEq] at ho
    obtain ⟨rfl, rfl⟩ := ho
    obtain ⟨a, tk, u1, u2, u3, rfl, h, x1, x2, x3⟩ := x
    exact ⟨a, tk, _, rfl, h, .cons x1 (.cons x2 (.cons x3 .nil))⟩
  | _ => cases ho
theorem TIn.mk {I : Im} {t : T} {k : Bool} {ts : List T} {a : Addr} {tk : Tok} {us : List Value} (ho : t.op = some (k, ts)) (hu : Tup I a (.str (opw k) tk :: us)) (x : Each (TIn I) ts us) : TIn I t (.ref a) := by
  cases t with
  | op2 k' a b =>
    simp only [T.op, Option.some.injEq, Prod.mk.injEq] at ho
    obtain ⟨rfl, rfl⟩ := ho
    obtain ⟨u1, r1, rfl, x1, e⟩ := x.hd
    obtain ⟨u2, r2, rfl, x2, e⟩ := e.hd
    cases e.done
    exact ⟨_, tk, u1, u2, rfl, hu, x1, x2⟩
  | op3 k' a b c =>
    simp only [T.op, Option.some.injEq, Prod.mk.injEq] at ho
    obtain ⟨rfl, rfl⟩ := ho
    obtain ⟨u1, r1, rfl, x1, e⟩ := x.hd
    obtain ⟨u2, r2, rfl, x2, e⟩ := e.hd
    obtain ⟨u3, r3, rfl, x3, e⟩ := e.hd
    cases e.done
    exact ⟨_, tk, u1, u2, u3, rfl, hu, x1, x2, x3⟩
  | _ => cases ho
theorem T.four (t : T) : (∃ x, t = .sym x) ∨ (∃ b, t = .con b) ∨ (∃ u, t = .not u) ∨ ∃ k ts, t.op = some (k, ts) := by
  cases t with
  | sym x => exact .inl ⟨x, rfl⟩
  | con b => exact .inr (.inl ⟨b, rfl⟩)
  | not u => exact .inr (.inr (.inl ⟨u, rfl⟩))
  | op2 k a b => exact .inr (.inr (.inr ⟨k, _, rfl⟩))
  | op3 k a b c => exact .inr (.inr (.inr ⟨k, _, rfl⟩))
theorem T.op_h {t : T} {k : Bool} {ts : List T} (ho : t.op = some (k, ts)) {j : Nat} {u : T} (e : ts[j]? = some u) : u.h < t.h := by
  have hm := List.mem_of_getElem? e
  cases t with
  | op2 k' a b =>
    simp only [T.op, Option.some.injEq, Prod.mk.injEq] at ho
    obtain ⟨rfl, rfl⟩ := ho
    simp only [List.mem_cons, List.not_mem_nil, or_false] at hm
    simp only [T.h]
    rcases hm with rfl | rfl <;> omega
  | op3 k' a b c =>
    simp only [T.op, Option.some.injEq, Prod.mk.injEq] at ho
    obtain ⟨rfl, rfl⟩ := ho
    simp only [List.mem_cons, List.not_mem_nil, or_false] at hm
    simp only [T.h]
    rcases hm with rfl | rfl | rfl <;> omega
  | _ => cases ho
theorem T.op_len {t : T} {k : Bool} {ts : List T} (ho : t.op = some (k, ts)) : ts.length = 2 ∨ ts.length = 3 := by
  cases t <;> simp only [T.op, Option.some.injEq, Prod.mk.injEq, reduceCtorEq] at ho
  · obtain ⟨_, rfl⟩ := ho; exact .inl rfl
  · obtain ⟨_, rfl⟩ := ho; exact .inr rfl
theorem T.low_op {t : T} {k : Bool} {ts : List T} (ho : t.op = some (k, ts)) (b : Bool) : (t.low b).op = some (k != b, ts.map (·.low b)) := by
  cases t <;> simp only [T.op, Option.some.injEq, Prod.mk.injEq, reduceCtorEq] at ho
  · obtain ⟨rfl, rfl⟩ := ho; rfl
  · obtain ⟨rfl, rfl⟩ := ho; rfl
end Mine
namespace Mine
abbrev n_self : Str := ⟨⟨[115, 101, 108, 102]⟩⟩
abbrev n_args : Str := ⟨⟨[97, 114, 103, 115]⟩⟩
abbrev n_isliteral : Str := ⟨⟨[105, 115, 108, 105, 116, 101, 114, 97, 108]⟩⟩
abbrev n_found : Str := ⟨⟨[102, 111, 117, 110, 100]⟩⟩
abbrev n_arg : Str := ⟨⟨[97, 114, 103]⟩⟩
abbrev n_get_literals : Str := ⟨⟨[103, 101, 116, 95, 108, 105, 116, 101, 114, 97, 108, 115]⟩⟩
abbrev n_extend : Str := ⟨⟨[101, 120, 116, 101, 110, 100]⟩⟩
abbrev n_literalize : Str := ⟨⟨[108, 105, 116, 101, 114, 97, 108, 105, 122, 101]⟩⟩
abbrev n_all : Str := ⟨⟨[97, 108, 108]⟩⟩
abbrev n_enumerate : Str := ⟨⟨[101, 110, 117, 109, 101, 114, 97, 116, 101]⟩⟩
abbrev n_i : Str := ⟨⟨[105]⟩⟩
abbrev n_tuple : Str := ⟨⟨[116, 117, 112, 108, 101]⟩⟩
abbrev n_made : Str := ⟨⟨[109, 97, 100, 101]⟩⟩
abbrev n_made_dual : Str := ⟨⟨[109, 97, 100, 101, 95, 100, 117, 97, 108]⟩⟩
abbrev n_isinstance : Str := ⟨⟨[105, 115, 105, 110, 115, 116, 97, 110, 99, 101]⟩⟩
abbrev n_Symbol : Str := ⟨⟨[83, 121, 109, 98, 111, 108]⟩⟩
abbrev n_s : Str := ⟨⟨[115]⟩⟩
abbrev n_get_symbols : Str := ⟨⟨[103, 101, 116, 95, 115, 121, 109, 98, 111, 108, 115]⟩⟩
abbrev n_sort_order : Str := ⟨⟨[115, 111, 114, 116, 95, 111, 114, 100, 101, 114]⟩⟩
abbrev n_iscanonical : Str := ⟨⟨[105, 115, 99, 97, 110, 111, 110, 105, 99, 97, 108]⟩⟩
abbrev n_obj : Str := ⟨⟨[111, 98, 106]⟩⟩
abbrev n_operator : Str := ⟨⟨[111, 112, 101, 114, 97, 116, 111, 114]⟩⟩
abbrev n_identity : Str := ⟨⟨[105, 100, 101, 110, 116, 105, 116, 121]⟩⟩
abbrev n_annihilator : Str := ⟨⟨[97, 110, 110, 105, 104, 105, 108, 97, 116, 111, 114]⟩⟩
abbrev n_super : Str := ⟨⟨[115, 117, 112, 101, 114]⟩⟩
abbrev n___init__ : Str := ⟨⟨[95, 95, 105, 110, 105, 116, 95, 95]⟩⟩
abbrev n___eq__ : Str := ⟨⟨[95, 95, 101, 113, 95, 95]⟩⟩
abbrev n___class__ : Str := ⟨⟨[95, 95, 99, 108, 97, 115, 115, 95, 95]⟩⟩
abbrev n_other : Str := ⟨⟨[111, 116, 104, 101, 114]⟩⟩
abbrev n_str : Str := ⟨⟨[115, 116, 114]⟩⟩
abbrev n_NOT : Str := ⟨⟨[78, 79, 84]⟩⟩
abbrev n_AND : Str := ⟨⟨[65, 78, 68]⟩⟩
abbrev n_OR : Str := ⟨⟨[79, 82]⟩⟩
abbrev n_TRUE : Str := ⟨⟨[84, 82, 85, 69]⟩⟩
abbrev n_FALSE : Str := ⟨⟨[70, 65, 76, 83, 69]⟩⟩
abbrev n_DualBase : Str := ⟨⟨[68, 117, 97, 108, 66, 97, 115, 101]⟩⟩
abbrev n_Function : Str := ⟨⟨[70, 117, 110, 99, 116, 105, 111, 110]⟩⟩
abbrev n_Expression : Str := ⟨⟨[69, 120, 112, 114, 101, 115, 115, 105, 111, 110]⟩⟩
abbrev n_BaseElement : Str := ⟨⟨[66, 97, 115, 101, 69, 108, 101, 109, 101, 110, 116]⟩⟩
abbrev n__TRUE : Str := ⟨⟨[95, 84, 82, 85, 69]⟩⟩
abbrev n__FALSE : Str := ⟨⟨[95, 70, 65, 76, 83, 69]⟩⟩
abbrev n_NotImplemented : Str := ⟨⟨[78, 111, 116, 73, 109, 112, 108, 101, 109, 101, 110, 116, 101, 100]⟩⟩
abbrev n_arg1 : Str := ⟨⟨[97, 114, 103, 49]⟩⟩
abbrev n_arg2 : Str := ⟨⟨[97, 114, 103, 50]⟩⟩
abbrev n_cancel : Str := ⟨⟨[99, 97, 110, 99, 101, 108]⟩⟩
abbrev n_demorgan : Str := ⟨⟨[100, 101, 109, 111, 114, 103, 97, 110]⟩⟩
abbrev n_expr : Str := ⟨⟨[101, 120, 112, 114]⟩⟩
abbrev n_op : Str := ⟨⟨[111, 112]⟩⟩
abbrev n_dual : Str := ⟨⟨[100, 117, 97, 108]⟩⟩
abbrev n__law_tree : Str := ⟨⟨[95, 108, 97, 119, 95, 116, 114, 101, 101]⟩⟩
abbrev n__law_expr : Str := ⟨⟨[95, 108, 97, 119, 95, 101, 120, 112, 114]⟩⟩
abbrev n__law_seen : Str := ⟨⟨[95, 108, 97, 119, 95, 115, 101, 101, 110]⟩⟩
abbrev n__law_literals : Str := ⟨⟨[95, 108, 97, 119, 95, 108, 105, 116, 101, 114, 97, 108, 115]⟩⟩
abbrev n__law_low : Str := ⟨⟨[95, 108, 97, 119, 95, 108, 111, 119]⟩⟩
abbrev n__law_without_pairs : Str := ⟨⟨[95, 108, 97, 119, 95, 119, 105, 116, 104, 111, 117, 116, 95, 112, 97, 105, 114, 115]⟩⟩
abbrev n_law : Str := ⟨⟨[108, 97, 119]⟩⟩
abbrev n_pool : Str := ⟨⟨[112, 111, 111, 108]⟩⟩
abbrev n_depth : Str := ⟨⟨[100, 101, 112, 116, 104]⟩⟩
abbrev n_kind : Str := ⟨⟨[107, 105, 110, 100]⟩⟩
abbrev n_rows : Str := ⟨⟨[114, 111, 119, 115]⟩⟩
abbrev n_k : Str := ⟨⟨[107]⟩⟩
abbrev n_tree : Str := ⟨⟨[116, 114, 101, 101]⟩⟩
abbrev n_part : Str := ⟨⟨[112, 97, 114, 116]⟩⟩
abbrev n_one : Str := ⟨⟨[111, 110, 101]⟩⟩
abbrev n_is_turned : Str := ⟨⟨[105, 115, 95, 116, 117, 114, 110, 101, 100]⟩⟩
abbrev n_word : Str := ⟨⟨[119, 111, 114, 100]⟩⟩
abbrev n_script : Str := ⟨⟨[115, 99, 114, 105, 112, 116]⟩⟩
abbrev n_literals : Str := ⟨⟨[108, 105, 116, 101, 114, 97, 108, 115]⟩⟩
abbrev n_low : Str := ⟨⟨[108, 111, 119]⟩⟩
abbrev n_turned : Str := ⟨⟨[116, 117, 114, 110, 101, 100]⟩⟩
abbrev n_len : Str := ⟨⟨[108, 101, 110]⟩⟩
abbrev n_range : Str := ⟨⟨[114, 97, 110, 103, 101]⟩⟩
abbrev n_pop : Str := ⟨⟨[112, 111, 112]⟩⟩
abbrev n_object : Str := ⟨⟨[111, 98, 106, 101, 99, 116]⟩⟩
abbrev n_bool : Str := ⟨⟨[98, 111, 111, 108]⟩⟩
abbrev n_int : Str := ⟨⟨[105, 110, 116]⟩⟩
abbrev n_list : Str := ⟨⟨[108, 105, 115, 116]⟩⟩
abbrev n_dict : Str := ⟨⟨[100, 105, 99, 116]⟩⟩
abbrev n___bool__ : Str := ⟨⟨[95, 95, 98, 111, 111, 108, 95, 95]⟩⟩
abbrev n___str__ : Str := ⟨⟨[95, 95, 115, 116, 114, 95, 95]⟩⟩
abbrev n___getattribute__ : Str := ⟨⟨[95, 95, 103, 101, 116, 97, 116, 116, 114, 105, 98, 117, 116, 101, 95, 95]⟩⟩
abbrev n___getattr__ : Str := ⟨⟨[95, 95, 103, 101, 116, 97, 116, 116, 114, 95, 95]⟩⟩
abbrev n___setattr__ : Str := ⟨⟨[95, 95, 115, 101, 116, 97, 116, 116, 114, 95, 95]⟩⟩
abbrev n___call__ : Str := ⟨⟨[95, 95, 99, 97, 108, 108, 95, 95]⟩⟩
abbrev n___new__ : Str := ⟨⟨[95, 95, 110, 101, 119, 95, 95]⟩⟩

def bindF (kindOf : Str → Option NameKind) : List (Str × Value) → List (Str × Value) → List (Str × Value)
  | [], l => l
  | (n, v) :: r, l => bindF kindOf r (if kindOf n = some .local then (n, v) :: l else l)
theorem bindL_F (kindOf : Str → Option NameKind) : ∀ (bs l : List (Str × Value)), bindL kindOf bs (fun z => l.lookup z) = fun z => (bindF kindOf bs l).lookup z
  | [], _ => rfl
  | (n, v) :: r, l => by
    unfold bindL bindF
    by_cases q : kindOf n = some .local
    · rw [if_pos q, if_pos q]
      have := bindL_F kindOf r ((n, v) :: l)
      rw [← this, ← up_lk]
    · rw [if_neg q, if_neg q]; exact bindL_F kindOf r l
section
variable {w : World} {B : Heap} {I : Im} {h : Heap} {g : Array GenState} {d : Drawn} {t : Nat} {o : OsState} {A : Around} {E : Value → Shared → Prop} {env : Env}
/-- a def without cells; l is its first frame -/
theorem enter0 {f : Addr} {name qual : Str} {params : Arguments} {body : List Stmt} {scope : Scope} {dV kV doc pm cdv ct oc : Value} {an od : Option Addr} {osl : Array (Option Value)} {cl : List (Str × Addr)} {vs : List Value} {Q : Value → Shared → Prop} (l : List (Str × Value))
    (M : Addr → Prop) (k : Ok w B I h g) (ho : (K w).lookup f = some ⟨oc, od, .func (fnX name qual params body scope cl dV kV doc pm an cdv ct), osl⟩) (hcd : codeIn (K w) cdv qual = true) (hroom : A.depth < recursionLimit)
    (hbind : bindArgs (fnX name qual params body scope cl dV kV doc pm an cdv ct) ⟨vs, []⟩ = pure l.reverse) (hcell : (scope.names.all fun x => x.2 != .cell) = true) (hloc : (l.reverse.all fun x => decide (scope.names.lookup x.1 = some .local)) = true)
    (hco : scope.isCoroutine = false) (hgen : scope.isGenerator = false) (hk : scope.kind = .function)
    (hb : ∀ h₁ t₁ E', St w B M h I h.objs.size (fun x => l.lookup x) I h₁ g →
      wpAny (model PR w) (A.deeper (envX qual scope h.objs.size f cdv cl)) (execs body (envX qual scope h.objs.size f cdv cl)) (fun fl s' => Q (rv fl) s') E' ⟨h₁, g, d, t₁, o⟩) :
    wpAny (model PR w) A (call (.ref f) vs) Q E ⟨h, g, d, t, o⟩ :=
  enter M k ho hcd hroom hbind (fun x hx => by simpa using List.all_eq_true.mp hcell x hx) hloc hco hgen hk fun h₁ t₁ E' S => hb h₁ t₁ E' (by rw [List.reverse_reverse] at S; exact S)
/-- a def with cells; l is its first frame, cl its cells -/
theorem enter1 {f : Addr} {name qual : Str} {params : Arguments} {body : List Stmt} {scope : Scope} {dV kV doc pm cdv ct oc : Value} {an od : Option Addr} {osl : Array (Option Value)} {vs : List Value} {Q : Value → Shared → Prop} (binds l : List (Str × Value)) (cl : List (Str × Addr))
    (M : Addr → Prop) (k : Ok w B I h g) (ho : (K w).lookup f = some ⟨oc, od, .func (fnX name qual params body scope [] dV kV doc pm an cdv ct), osl⟩) (hcd : codeIn (K w) cdv qual = true) (hroom : A.depth < recursionLimit)
    (hbind : bindArgs (fnX name qual params body scope [] dV kV doc pm an cdv ct) ⟨vs, []⟩ = pure binds) (hkind : (binds.all fun y => scope.names.lookup y.1 == some .local || scope.names.lookup y.1 == some .cell) = true)
    (hcl : cellsFrom (h.objs.size + 1) scope.names [] = cl) (hl : bindF (fun x => scope.names.lookup x) binds [] = l)
    (hnd : ((cellsFrom 0 scope.names []).map (·.1)).Nodup)
    (hco : scope.isCoroutine = false) (hgen : scope.isGenerator = false) (hk : scope.kind = .function)
    (hb : ∀ h₁ t₁ I₁ E', St w B M h I h.objs.size (fun x => l.lookup x) I₁ h₁ g → Le I I₁ →
      (∀ n c, cl.lookup n = some c → ∃ q, I₁ c = some q ∧ q.data = .cell (bindC (fun x => scope.names.lookup x) binds (fun _ => none) n)) →
      wpAny (model PR w) (A.deeper (envX qual scope h.objs.size f cdv cl)) (execs body (envX qual scope h.objs.size f cdv cl)) (fun fl s' => Q (rv fl) s') E' ⟨h₁, g, d, t₁, o⟩) :
    wpAny (model PR w) A (call (.ref f) vs) Q E ⟨h, g, d, t, o⟩ := by
  refine enterC M k ho hcd hroom hbind hkind hnd hco hgen hk fun h₁ t₁ I₁ E' S hle hc => ?_
  have e := bindL_F (envOfC qual scope h.objs.size f cdv).kindOf binds []
  have e0 : (fun z : Str => ([] : List (Str × Value)).lookup z) = fun _ => none := rfl
  rw [e0] at e
  rw [e] at S
  subst hcl hl
  exact hb h₁ t₁ I₁ E' S hle hc
end
end Mine
namespace Mine
theorem ite_t {a b : Prop} (h : a) : if true = true then a else b := h
theorem ite_f {a b : Prop} (h : b) : if false = true then a else b := h
section
variable {w : World} {A : Around} {E : Value → Shared → Prop} {s : Shared}
theorem eq_str_is {x y : Str} {t u : Tok} {Q : Value → Shared → Prop} (b : Bool) (e : (x == y) = b) (h : Q (.bool b) s) : wpAny (model PR w) A (compareOp .Eq (.str x t) (.str y u)) Q E s := eq_str (by rw [e]; exact h)
end

section
variable {w : World} {B : Heap} {M : Addr → Prop} {h₀ : Heap} {I₀ I : Im} {L : Addr} {m : Str → Option Value} {h : Heap} {g : Array GenState} {d : Drawn} {t : Nat} {o : OsState} {A : Around} {E : Value → Shared → Prop} {env : Env}
theorem c_str {x : Str} {k : Nat} {pos : Pos} {Q : Value → Shared → Prop} (hq : Q (.str x t) ⟨h, g, d, t + 1, o⟩) : wpAny (model PR w) A (eval (.Constant (.str x) k pos) env) Q E ⟨h, g, d, t, o⟩ := Constant_str hq
theorem c_int {x : Int} {k : Nat} {pos : Pos} {Q : Value → Shared → Prop} (hq : Q (.int x t) ⟨h, g, d, t + 1, o⟩) : wpAny (model PR w) A (eval (.Constant (.int x) k pos) env) Q E ⟨h, g, d, t, o⟩ := wpAny_Constant_int hq
theorem sizeLine_big : 1000000 ≤ sizeLine := by rw [sizeLine_eq]; omega
theorem sub0 {value slice : Expr} {a : Addr} {x : Value} {r : List Value} {u : Tok} {Q : Value → Shared → Prop} (k : Ok w B I h g) (ht : Tup I a (x :: r))
    (hs : subscripted slice false (.ref a) (.int 0 u) = operate [.ref a, .int 0 u] (getItem (.ref a) (.int 0 u))) (hq : Q x ⟨h, g, d, t, o⟩) :
    wpAny (model PR w) A (subscriptTail value slice (.ref a) (.int 0 u)) Q E ⟨h, g, d, t, o⟩ :=
  sub_tup (j := 0) k ht (by decide) (by decide) (by simp [seqIndex?]) rfl hs hq
theorem sub1 {value slice : Expr} {a : Addr} {x y : Value} {r : List Value} {u : Tok} {Q : Value → Shared → Prop} (k : Ok w B I h g) (ht : Tup I a (x :: y :: r))
    (hs : subscripted slice false (.ref a) (.int 1 u) = operate [.ref a, .int 1 u] (getItem (.ref a) (.int 1 u))) (hq : Q y ⟨h, g, d, t, o⟩) :
    wpAny (model PR w) A (subscriptTail value slice (.ref a) (.int 1 u)) Q E ⟨h, g, d, t, o⟩ :=
  sub_tup (j := 1) k ht (by decide) (by decide) (by simp [seqIndex?]; omega) rfl hs hq
theorem Tup.nM {a : Addr} {l : List Value} (x : Tup I a l) (k : Ok w B I h g) : ¬ Mt a := by
  obtain ⟨n, e⟩ := x
  rintro (q | q)
  · exact k.ne1 (k.sub _ _ e) (by intro q; cases q) q
  · exact k.ne2 (k.sub _ _ e) (by intro q; cases q) q
theorem Lst.nM {a : Addr} {l : List Value} (x : Lst I a l) (k : Ok w B I h g) : ¬ Mt a := by
  obtain ⟨n, e⟩ := x
  rintro (q | q)
  · exact k.ne1 (k.sub _ _ e) (by intro q; cases q) q
  · exact k.ne2 (k.sub _ _ e) (by intro q; cases q) q
theorem Ok.hM (k : Ok w B I h g) : ∀ a, Mt a → ∃ q, h.get? a = some q := fun a m => m.elim (fun e => e ▸ k.there.1) fun e => e ▸ k.there.2
theorem new_tup {vs : List Value} {Q : Value → Shared → Prop} (S : St w B M h₀ I₀ L m I h g) (hsz : vs.length ≤ 1000000)
    (hq : ∀ h' I', St w B M h₀ I₀ L m I' h' g → Le I I' → Tup I' h.objs.size vs → Q (.ref h.objs.size) ⟨h', g, d, t, o⟩) : wpAny (model PR w) A (newTuple vs) Q E ⟨h, g, d, t, o⟩ :=
  wpAny_newObj_type (hq _ _ (S.new _ rfl) (Le.up S.ok.none_size) ⟨_, Im.up_self⟩) (by show vs.toArray.size ≤ sizeLine; rw [List.size_toArray]; exact Nat.le_trans hsz sizeLine_big)
theorem new_lst {vs : List Value} {Q : Value → Shared → Prop} (S : St w B M h₀ I₀ L m I h g) (hsz : vs.length ≤ 1000000)
    (hq : ∀ h' I', St w B M h₀ I₀ L m I' h' g → Le I I' → Lst I' h.objs.size vs → Q (.ref h.objs.size) ⟨h', g, d, t, o⟩) : wpAny (model PR w) A (newList vs) Q E ⟨h, g, d, t, o⟩ :=
  wpAny_newObj_type (hq _ _ (S.new _ rfl) (Le.up S.ok.none_size) ⟨_, Im.up_self⟩) (by show vs.toArray.size ≤ sizeLine; rw [List.size_toArray]; exact Nat.le_trans hsz sizeLine_big)
theorem add_lst {a b : Addr} {xs ys : List Value} {Q : Value → Shared → Prop} (S : St w B M h₀ I₀ L m I h g) (ha : Lst I a xs) (hb : Lst I b ys) (hsz : xs.length + ys.length ≤ 1000000)
    (hq : ∀ h' I' D, St w B M h₀ I₀ L m I' h' g → Le I I' → Lst I' D (xs ++ ys) → Q (.ref D) ⟨h', g, d, t, o⟩) : wpAny (model PR w) A (binaryOp .Add (.ref a) (.ref b)) Q E ⟨h, g, d, t, o⟩ := by
  obtain ⟨n, ea⟩ := ha
  obtain ⟨n', eb⟩ := hb
  have e : xs.toArray ++ ys.toArray = (xs ++ ys).toArray := by simp
  have S1 := S.new { cls := .type "list", data := .seq (xs.toArray ++ ys.toArray) } rfl
  refine P.add_list (items := xs.toArray) (items2 := ys.toArray) (S.ok.sub _ _ ea) (S.ok.sub _ _ eb) (hq _ _ _ S1 (Le.up S.ok.none_size) ?_) (by rw [List.size_toArray, List.size_toArray]; exact Nat.le_trans hsz sizeLine_big)
  rw [e]
  exact ⟨_, Im.up_self⟩
theorem tup_of_lst {a : Addr} {xs : List Value} {Q : Value → Shared → Prop} (S : St w B M h₀ I₀ L m I h g) (ha : Lst I a xs) (hsz : xs.length ≤ 1000000)
    (hq : ∀ h' I' D, St w B M h₀ I₀ L m I' h' g → Le I I' → Tup I' D xs → Q (.ref D) ⟨h', g, d, t, o⟩) : wpAny (model PR w) A (call (.type "tuple") [.ref a]) Q E ⟨h, g, d, t, o⟩ := by
  refine call_tuple_list (ha.is S.ok) (fun h' hk => ?_) (by rw [List.size_toArray]; exact Nat.le_trans hsz sizeLine_big)
  have S1 : St w B M h₀ I₀ L m I h' g := {
    ok := S.ok.keeps hk
    G := ⟨S.G.le, fun a o e => let ⟨o', e'⟩ := S.G.ex a o e; ⟨o', hk _ _ e'⟩, S.G.fresh, fun a o n e => hk _ _ (S.G.kp a o n e)⟩
    ns := S.ns.at' fun o e => hk _ o e
    nL := S.nL
    off := S.off
    low := S.low }
  exact hq _ _ _ (S1.new _ rfl) (Le.up S1.ok.none_size) ⟨_, Im.up_self⟩
theorem tup_of_tup {a : Addr} {xs : List Value} {Q : Value → Shared → Prop} (k : Ok w B I h g) (ha : Tup I a xs) (hq : Q (.ref a) ⟨h, g, d, t, o⟩) : wpAny (model PR w) A (call (.type "tuple") [.ref a]) Q E ⟨h, g, d, t, o⟩ :=
  call_tuple_tup (ha.is k) hq
theorem in_two {x y z : Str} {tx ty tz : Tok} {a : Addr} {b : Bool} {Q : Value → Shared → Prop} (k : Ok w B I h g) (ha : Lst I a [.str y ty, .str z tz]) (hb : ([y, z].any (· == x)) = b) (hq : Q (.bool b) ⟨h, g, d, t, o⟩) :
    wpAny (model PR w) A (compareOp .In (.str x tx) (.ref a)) Q E ⟨h, g, d, t, o⟩ :=
  in_list_strs (ha.is k) (.cons _ _ (.cons _ _ .nil)) (by rw [hb]; exact hq)
/-- a call by plain arguments -/
theorem cw {f : Value} {e : Expr} {rest : List Expr} {pos : Pos} {s : Shared} {Q : Value → Shared → Prop} (k : Ok w B I h g) (hk : keepIn (K w) f = true)
    (hq : wpAny (model PR w) A (spliced (backTo pos (starEach (e :: rest) env))) (fun vs s₁ => (K w).In s₁.heap ∧ wpAny (model PR w) A (call f vs) Q E s₁) E s)
    (he : starEach (e :: rest) env = (false, eval e env) :: starEach rest env) (hplain : (backTo pos (starEach rest env)).any (·.1) = false) :
    wpAny (model PR w) A (callWith pos f [] (backTo pos (starEach (e :: rest) env)) []) Q E s := callWith_K k.X hk hq he hplain
/-- a call of a built-in thing -/
theorem cwb {f : Value} {first : List Value} {e : Expr} {rest : List Expr} {pos : Pos} {s : Shared} {Q : Value → Shared → Prop} (hk : keeperOf f = pure .machine)
    (hq : wpAny (model PR w) A (spliced (backTo pos (starEach (e :: rest) env))) (fun vs s₁ => wpAny (model PR w) A (call f (first ++ vs)) Q E s₁) E s)
    (he : starEach (e :: rest) env = (false, eval e env) :: starEach rest env) (hplain : (backTo pos (starEach rest env)).any (·.1) = false) :
    wpAny (model PR w) A (callWith pos f first (backTo pos (starEach (e :: rest) env)) []) Q E s := by
  rw [he] at hq ⊢
  exact callWith_of (P := fun _ => True) (by show ((false || (backTo pos (starEach rest env)).any (·.1)) || false) = false; rw [hplain]; rfl) (fun h _ => ⟨.machine, .inr (.inl rfl), fun A Q E s k q => wpAny_of_eq hk q⟩) (evalArgs_plain (wpAny_mono hq (fun _ _ z => ⟨trivial, z⟩) fun _ _ z => z))
/-- «x[1:]» of a tuple that stands -/
theorem cut1 {value : Expr} {p1 p2 p3 : Pos} {kk : Nat} {a : Addr} {x : Value} {r : List Value} {Q : Value → Shared → Prop} (S : St w B M h₀ I₀ L m I h g) (ht : Tup I a (x :: r)) (hsz : r.length < 1000000)
    (hv : ∀ Q' : Value → Shared → Prop, Q' (.ref a) ⟨h, g, d, t, o⟩ → wpAny (model PR w) A (eval value env) Q' E ⟨h, g, d, t, o⟩)
    (hg : ∀ o r, letTemporaryGo value o r = pure ())
    (hq : ∀ h' I' D t', St w B M h₀ I₀ L m I' h' g → Le I I' → Tup I' D r → Q (.ref D) ⟨h', g, d, t', o⟩) :
    wpAny (model PR w) A (eval (.Subscript value (.Slice (some (.Constant (.int 1) kk p1)) none none p2) p3) env) Q E ⟨h, g, d, t, o⟩ := by
  refine wpAny_Subscript_Slice (T := "tuple") slot_tuple_getitem.lookup (hv _ ?_) hg
  refine wpAny_Slice ?_
  rw [evalPart_some]
  refine wpAny_Constant_int ?_
  rw [evalPart_none]
  refine wpAny_pure (wpAny_pure ?_)
  have S1 := S.push { cls := .type "slice", data := .fields #[.int 1 t, .none, .none] }
  refine ⟨(ht.is S1.ok).typeIs, ?_⟩
  refine getItem_tuple_from (a := 1) (u := t) (ht.is S1.ok) (Heap.IsSliceOf.new ..) (Nat.le_refl 1) (by simp) ?_ (by rw [List.size_toArray]; exact Nat.le_trans (show r.length + 1 ≤ 1000000 from hsz) sizeLine_big)
  exact hq _ _ _ _ (S1.new _ rfl) (Le.up S1.ok.none_size) ⟨_, by simpa using Im.up_self⟩
end

local macro_rules | `(tactic| walk_at "lk") => `(tactic| first | exact lk_hd (by kernel_rfl) | (refine lk_tl (by kernel_rfl) ?_; walk_at "lk"))
local macro_rules | `(tactic| walk_at "ok") => `(tactic| first | assumption | exact St.ok (by assumption))
local macro_rules | `(tactic| walk_at "nm") => `(tactic| first
  | refine nm_loc (by assumption) rfl (by kernel_rfl) (by first | assumption | walk_at "lk") (by kernel_rfl) ?_)
local macro_rules | `(tactic| walk_at "st") => `(tactic| first
  | refine wpAny_execs_cons ?_
  | refine wpAny_If ?_
  | refine wpAny_Return_some ?_
  | refine wpAny_isTrue_Compare1 ?_
  | refine isTrue_not ?_
  | refine isTrue_and ?_
  | refine isTrue_or ?_
  | refine wpAny_Compare1 ?_
  | refine IfExp_ ?_
  | refine Subscript_ ?_
  | refine Tuple_ ?_
  | refine List_ ?_
  | refine args_cons ?_
  | refine args_nil ?_
  | refine Constant_str ?_
  | refine wpAny_Constant_int ?_
  | refine wpAny_Constant_bool ?_
  | refine wpAny_truthy_bool ?_
  | refine isTrue_plain ?_
  | refine ite_t ?_
  | refine ite_f ?_)

end Mine
namespace Mine
local macro_rules | `(tactic| walk_at "lk") => `(tactic| first | assumption | exact lk_hd (by decide +kernel) | exact lk_tl (by decide +kernel) (lk_hd (by decide +kernel)) | exact lk_tl (by decide +kernel) (lk_tl (by decide +kernel) (lk_hd (by decide +kernel))) | exact lk_tl (by decide +kernel) (lk_tl (by decide +kernel) (lk_tl (by decide +kernel) (lk_hd (by decide +kernel)))) | exact lk_tl (by decide +kernel) (lk_tl (by decide +kernel) (lk_tl (by decide +kernel) (lk_tl (by decide +kernel) (lk_hd (by decide +kernel))))))
local macro_rules | `(tactic| walk_at "ok") => `(tactic| first | assumption | exact St.ok (by assumption))
local macro_rules | `(tactic| walk_at "nm") => `(tactic| refine nm_loc (by assumption) rfl (by kernel_rfl) (by walk_at "lk") (by kernel_rfl) ?_)
local macro_rules | `(tactic| walk_at "s0") => `(tactic| refine sub0 (by walk_at "ok") (by assumption) (by with_unfolding_all rfl) ?_)
local macro_rules | `(tactic| walk_at "s1") => `(tactic| refine sub1 (by walk_at "ok") (by assumption) (by with_unfolding_all rfl) ?_)
local macro_rules | `(tactic| walk_at "eqt") => `(tactic| refine eq_str_is true (by kernel_rfl) ?_)
local macro_rules | `(tactic| walk_at "eqf") => `(tactic| refine eq_str_is false (by kernel_rfl) ?_)
local macro_rules | `(tactic| walk_at "st") => `(tactic| first
  | ((with_reducible show wpAny _ _ (eval (Expr.Constant (Const.str _) _ _) _) _ _ _); refine c_str ?_)
  | ((with_reducible show wpAny _ _ (eval (Expr.Constant (Const.int _) _ _) _) _ _ _); refine c_int ?_)
  | ((with_reducible show wpAny _ _ (eval (Expr.Constant (Const.bool _) _ _) _) _ _ _); refine wpAny_Constant_bool ?_)
  | ((with_reducible show wpAny _ _ (eval (Expr.Subscript _ (Expr.Constant _ _ _) _) _) _ _ _); refine Subscript_ ?_)
  | ((with_reducible show wpAny _ _ (eval (Expr.Compare _ _ _ _) _) _ _ _); refine wpAny_Compare1 ?_)
  | ((with_reducible show wpAny _ _ (eval (Expr.IfExp _ _ _ _) _) _ _ _); refine IfExp_ ?_)
  | ((with_reducible show wpAny _ _ (eval (Expr.Tuple _ _ _) _) _ _ _); refine Tuple_ ?_)
  | ((with_reducible show wpAny _ _ (eval (Expr.List _ _) _) _ _ _); refine List_ ?_)
  | ((with_reducible show wpAny _ _ (eval (Expr.BinOp _ _ _ _) _) _ _ _); refine wpAny_BinOp ?_)
  | ((with_reducible show wpAny _ _ (eval (Expr.UnaryOp _ _ _) _) _ _ _); refine UnaryOp_ ?_)
  | ((with_reducible show wpAny _ _ (isTrue (Expr.Compare _ _ _ _) _ _) _ _ _); refine wpAny_isTrue_Compare1 ?_)
  | ((with_reducible show wpAny _ _ (isTrue (Expr.UnaryOp UnaryOp.Not _ _) _ _) _ _ _); refine isTrue_not ?_)
  | ((with_reducible show wpAny _ _ (isTrue (Expr.BoolOp BoolOp.And (_ :: _) _) _ _) _ _ _); refine isTrue_and ?_)
  | ((with_reducible show wpAny _ _ (isTrue (Expr.BoolOp BoolOp.Or (_ :: _) _) _ _) _ _ _); refine isTrue_or ?_)
  | ((with_reducible show wpAny _ _ (isTrue (Expr.Name _ _) _ _) _ _ _); refine isTrue_plain ?_)
  | ((with_reducible show wpAny _ _ (isTrue (Expr.Constant _ _ _) _ _) _ _ _); refine isTrue_plain ?_)
  | ((with_reducible show wpAny _ _ (isTrue (Expr.Call _ _ _ _) _ _) _ _ _); refine isTrue_plain ?_)
  | ((with_reducible show wpAny _ _ (isTrue (Expr.Attribute _ _ _) _ _) _ _ _); refine isTrue_plain ?_)
  | ((with_reducible show wpAny _ _ (unaryOp UnaryOp.Not _) _ _ _); refine not_of ?_)
  | ((with_reducible show wpAny _ _ (truthy (Value.bool _)) _ _ _); refine wpAny_truthy_bool ?_)
  | ((with_reducible show ite _ _ _); first | refine ite_t ?_ | refine ite_f ?_)
  | ((with_reducible show wpAny _ _ (execs (_ :: _) _) _ _ _); refine wpAny_execs_cons ?_)
  | ((with_reducible show wpAny _ _ (execs [] _) _ _ _); refine wpAny_execs_nil ?_)
  | ((with_reducible show wpAny _ _ (exec (Stmt.If _ _ _ _) _) _ _ _); refine wpAny_If ?_)
  | ((with_reducible show wpAny _ _ (exec (Stmt.Return (some _) _) _) _ _ _); refine wpAny_Return_some ?_)
  | ((with_reducible show wpAny _ _ (exec (Stmt.Assign [Expr.Attribute _ _ _] _ _) _) _ _ _); refine plainObj_wpAny_Assign_Attribute ?_)
  | ((with_reducible show wpAny _ _ (eval (Expr.Constant Const.none _ _) _) _ _ _); refine Constant_none ?_)
  | ((with_reducible show wpAny _ _ (spliced (backTo _ (starEach (_ :: _) _))) _ _ _); refine args_cons ?_)
  | ((with_reducible show wpAny _ _ (spliced (backTo _ (starEach [] _))) _ _ _); refine args_nil ?_))
local macro_rules | `(tactic| walk_at "sts") => `(tactic| repeat walk_at "st")
local macro_rules | `(tactic| walk_at "cw") => `(tactic| refine cw (by walk_at "ok") (by kernel_rfl) ?_ rfl rfl)
local macro_rules | `(tactic| walk_at "cwb") => `(tactic| refine cwb rfl ?_ rfl rfl)
local macro_rules | `(tactic| walk_at "mem") => `(tactic| simp [attrNames])

section
variable {w : World} {B : Heap} {I : Im} {h : Heap} {g : Array GenState} {d : Drawn} {t : Nat} {o : OsState} {A : Around}
theorem low_call (n : Nat) : ∀ (x : T) (b : Bool), x.h ≤ n → ∀ {A : Around} {I : Im} {h : Heap} {g : Array GenState} {tk : Nat} {v : Value} {Q : Value → Shared → Prop} {E : Value → Shared → Prop},
    Ok w B I h g → Room A (n + 1) → TIn I x v →
    (∀ r I' h' g' t', Ok w B I' h' g' → Grow Mt h I h' I' → TIn I' (x.low b) r → Q r ⟨h', g', d, t', o⟩) →
    wpAny (model PR w) A (call (.ref 632) [v, .bool b]) Q E ⟨h, g, d, tk, o⟩ := by
  induction n with
  | zero => intro x b hx; cases x <;> simp [T.h] at hx
  | succ n ih =>
    intro x b hx A I h g tk v Q E k R hT hQ
    refine enter1 [(n_tree, v), (n_is_turned, .bool b)] [(n_tree, v)] [(n_is_turned, h.objs.size + 1)] Mt k rfl (by kernel_rfl) R.d (by kernel_rfl) (by kernel_rfl) rfl (by kernel_rfl) (by decide +kernel) rfl rfl rfl fun h₁ t₁ I₁ E' S hle hc => ?_
    have hT1 := hT.le hle
    obtain ⟨qc, hc1, hc2⟩ := hc n_is_turned (h.objs.size + 1) (by kernel_rfl)
    replace hc2 : qc.data = .cell (some (.bool b)) := hc2.trans (by kernel_rfl)
    clear hc
    rcases x.four with ⟨x, rfl⟩ | ⟨c, rfl⟩ | ⟨x, rfl⟩ | ⟨kk, ts, hop⟩
    · obtain ⟨a, tk1, tk2, rfl, hu⟩ := hT1
      walk_at "sts"; walk_at "nm"; walk_at "sts"; walk_at "s0"; walk_at "sts"; walk_at "eqt"; walk_at "sts"
      refine nm_cell S.ok rfl (by kernel_rfl) (by kernel_rfl) hc1 hc2 (by kernel_rfl) ?_
      walk_at "sts"
      cases b with
      | true =>
        walk_at "sts"; walk_at "nm"; walk_at "sts"
        refine new_tup S (by simp) fun h' I' S' hl ht => ?_
        exact hQ _ _ _ _ _ S'.ok S'.G ⟨_, _, _, rfl, ht, _, _, _, rfl, hu.le hl⟩
      | false =>
        walk_at "sts"; walk_at "nm"
        exact hQ _ _ _ _ _ S.ok S.G ⟨_, _, _, rfl, hu⟩
    · obtain ⟨a, tk1, rfl, hu⟩ := hT1
      walk_at "sts"; walk_at "nm"; walk_at "sts"; walk_at "s0"; walk_at "sts"
      refine eq_str_is false (by cases c <;> kernel_rfl) ?_
      walk_at "sts"; walk_at "nm"; walk_at "sts"; walk_at "s0"; walk_at "sts"
      refine new_lst S (by simp) fun h' I' S' hl ht => ?_
      walk_at "sts"
      refine in_two S'.ok ht (b := true) (by cases c <;> kernel_rfl) ?_
      walk_at "sts"
      refine nm_cell S'.ok rfl (by kernel_rfl) (by kernel_rfl) (hl _ _ hc1) hc2 (by kernel_rfl) ?_
      walk_at "sts"
      have hu' := hu.le hl
      cases b with
      | true =>
        walk_at "sts"; walk_at "nm"; walk_at "sts"; walk_at "s0"; walk_at "sts"
        refine eq_str_is c (by cases c <;> kernel_rfl) ?_
        walk_at "sts"
        cases c with
        | true =>
          walk_at "sts"
          refine new_tup S' (by simp) fun h'' I'' S'' hl' ht' => ?_
          exact hQ _ _ _ _ _ S''.ok S''.G ⟨_, _, rfl, ht'⟩
        | false =>
          walk_at "sts"
          refine new_tup S' (by simp) fun h'' I'' S'' hl' ht' => ?_
          exact hQ _ _ _ _ _ S''.ok S''.G ⟨_, _, rfl, ht'⟩
      | false =>
        walk_at "sts"; walk_at "nm"
        exact hQ _ _ _ _ _ S'.ok S'.G (by cases c <;> exact ⟨_, _, rfl, hu'⟩)
    · obtain ⟨a, tk1, u, rfl, hu, hx1⟩ := hT1
      walk_at "sts"; walk_at "nm"; walk_at "sts"; walk_at "s0"; walk_at "sts"; walk_at "eqf"
      walk_at "sts"; walk_at "nm"; walk_at "sts"; walk_at "s0"; walk_at "sts"
      refine new_lst S (by simp) fun h' I' S' hl ht => ?_
      walk_at "sts"
      refine in_two S'.ok ht (b := false) (by kernel_rfl) ?_
      have hu' := hu.le hl
      walk_at "sts"; walk_at "nm"; walk_at "sts"; walk_at "s0"; walk_at "sts"; walk_at "eqt"; walk_at "sts"
      refine Call_ ?_
      refine nm_glob (v := .ref 632) S'.ok rfl (by kernel_rfl) rfl (by kernel_rfl) (by kernel_rfl) ?_
      walk_at "cw"; walk_at "sts"; walk_at "nm"; walk_at "sts"; walk_at "s1"; walk_at "sts"
      refine nm_cell S'.ok rfl (by kernel_rfl) (by kernel_rfl) (hl _ _ hc1) hc2 (by kernel_rfl) ?_
      walk_at "sts"
      refine ⟨S'.ok.X, ih x (!b) (by simp only [T.h] at hx; omega) S'.ok (R.deeper _) (hx1.le hl) fun r I2 h2 g2 t2 k2 G2 z => ?_⟩
      exact hQ _ _ _ _ _ k2 (S'.G.trans G2) z
    · obtain ⟨a, tk1, us, rfl, hu, he⟩ := hT1.op hop
      walk_at "sts"; walk_at "nm"; walk_at "sts"; walk_at "s0"; walk_at "sts"
      refine eq_str_is false (by cases kk <;> kernel_rfl) ?_
      walk_at "sts"; walk_at "nm"; walk_at "sts"; walk_at "s0"; walk_at "sts"
      refine new_lst S (by simp) fun h' I' S' hl ht => ?_
      walk_at "sts"
      refine in_two S'.ok ht (b := false) (by cases kk <;> kernel_rfl) ?_
      have hu' := hu.le hl
      walk_at "sts"; walk_at "nm"; walk_at "sts"; walk_at "s0"; walk_at "sts"
      refine eq_str_is false (by cases kk <;> kernel_rfl) ?_
      walk_at "sts"
      refine wpAny_Assign_Name (wpAny_mono (Q := fun v s => ∃ tkw t', v = .str (opw (kk != b)) tkw ∧ s = ⟨h', g, d, t', o⟩) ?_ (fun v s hz => ?_) fun _ _ e => e)
      · walk_at "sts"
        refine nm_cell S'.ok rfl (by kernel_rfl) (by kernel_rfl) (hl _ _ hc1) hc2 (by kernel_rfl) ?_
        walk_at "sts"
        cases b with
        | false => walk_at "sts"; walk_at "nm"; walk_at "sts"; walk_at "s0"; exact ⟨_, _, by cases kk <;> rfl, rfl⟩
        | true =>
          walk_at "sts"; walk_at "nm"; walk_at "sts"; walk_at "s0"; walk_at "sts"
          refine eq_str_is (!kk) (by cases kk <;> kernel_rfl) ?_
          walk_at "sts"
          cases kk with
          | true => walk_at "sts"; exact ⟨_, _, rfl, rfl⟩
          | false => walk_at "sts"; exact ⟨_, _, rfl, rfl⟩
      · obtain ⟨tkw, t2, rfl, rfl⟩ := hz
        refine put S' (by kernel_rfl) rfl fun h2 S2 _ => ?_
        walk_at "sts"
        refine Call_ ?_
        refine nm_boot (v := .type "tuple") S2.ok rfl (by kernel_rfl) rfl rfl (by kernel_rfl) (by kernel_rfl) (by decide +kernel) (by kernel_rfl) ?_
        walk_at "cwb"; walk_at "sts"; walk_at "nm"; walk_at "sts"
        refine new_lst S2 (by simp) fun h3 I3 S3 hl3 ht3 => ?_
        have hlen : us.length ≤ 3 := by rw [he.1]; rcases T.op_len hop with q | q <;> omega
        refine comp_ev (B := B) (d := d) (o := o) R.hh (cl := [(n_is_turned, h.objs.size + 1)]) rfl (by decide) rfl (by decide) (by kernel_rfl) (fun _ => rfl) ?_
        refine cut1 S3 (hu'.le hl3) (by omega) (fun Q' hq => nm_loc S3 rfl (by kernel_rfl) (by exact lk_tl (by decide +kernel) (lk_hd (by decide +kernel))) (by kernel_rfl) hq) (fun _ _ => rfl) fun h4 I4 D4 t4 S4 hl4 ht4 => ?_
        refine ⟨D4, us, I4, h4, g, t4, Mt, fun j I y => ∀ t', ts[j]? = some t' → TIn I (t'.low b) y, fun _ => True, rfl, rfl, S4.ok, .inl ht4, ht4.nM S4.ok, Nat.le_trans hlen (Nat.le_trans (by decide) sizeLine_big),
          { hM := S4.ok.hM, hR := fun i I I' y hl hr t' e => (hr t' e).le hl, hV := fun _ _ _ _ => trivial, hV0 := trivial, helt := ?_ }, fun D5 h5 I5 g5 t5 ys k5 G5 hl5 hlen5 hr5 _ => ?_⟩
        · intro i v C m I' h' g' t' Q' E' hi hP S' hm _ hK
          refine Call_ ?_
          refine nm_glob (v := .ref 632) S'.ok rfl (by kernel_rfl) rfl (by kernel_rfl) (by kernel_rfl) ?_
          walk_at "cw"; walk_at "sts"; walk_at "nm"; walk_at "sts"
          refine nm_cell S'.ok rfl (by kernel_rfl) (by kernel_rfl) (S'.G.le _ _ (hl4 _ _ (hl3 _ _ (hl _ _ hc1)))) hc2 (by kernel_rfl) ?_
          walk_at "sts"
          have hj : i < ts.length := by rw [← he.1]; exact hi
          have hh := T.op_h hop (List.getElem?_eq_getElem hj)
          refine ⟨S'.ok.X, ih ts[i] b (by omega) S'.ok (R.deeper _) ((he.2 i v ts[i] hP (List.getElem?_eq_getElem hj)).le (fun a q e => S'.G.le _ _ (hl4 _ _ (hl3 _ _ (hl _ _ e))))) fun r I2 h2 g2 t2 k2 G2 z => ?_⟩
          exact hK _ _ _ _ _ k2 G2 trivial fun t' e => by rw [List.getElem?_eq_getElem hj] at e; cases e; exact z
        · have S5 := S4.after k5 G5 fun _ q => q
          walk_at "sts"
          refine add_lst S5 ((ht3.le hl4).le G5.le) hl5 (by simp [hlen5]; omega) fun h6 I6 D6 S6 hl6 ht6 => ?_
          walk_at "sts"
          refine tup_of_lst S6 ht6 (by simp [hlen5]; omega) fun h7 I7 D7 S7 hl7 ht7 => ?_
          refine hQ _ _ _ _ _ S7.ok S7.G (.mk (T.low_op hop b) ht7 ⟨by simp [hlen5, he.1], fun j u' t' e e' => ?_⟩)
          rw [List.getElem?_map] at e'
          cases q : ts[j]? with
          | none => rw [q] at e'; cases e'
          | some t0 => rw [q] at e'; cases e'; exact ((hr5 j u' e t0 q).le hl6).le hl7
end
end Mine
namespace Mine
/-! objects of the text's classes -/
def nameOf : Value → Option Str | .str x _ => some x | _ => none
def DIs (o : Obj) (l : List (Str × Value)) : Prop := ∃ (es : List DictEntry) (n : Nat), o = { cls := .type "dict", data := .dict es.toArray n } ∧ es.map (fun e => (nameOf e.key, e.val)) = l.map fun p => (some p.1, p.2)
def upd : List (Str × Value) → Str → Value → List (Str × Value)
  | [], n, v => [(n, v)]
  | (k, u) :: r, n, v => if (k == n) = true then (k, v) :: r else (k, u) :: upd r n v
theorem upd_len : ∀ (l : List (Str × Value)) (n : Str) (v : Value), (upd l n v).length ≤ l.length + 1
  | [], _, _ => by simp [upd]
  | (k, u) :: r, n, v => by
    unfold upd
    split
    · simp
    · have := upd_len r n v; simp only [List.length_cons]; omega
theorem isStr_of {k : Value} {x : Str} (e : nameOf k = some x) (n : Str) : k.isStr n = (x == n) := by
  cases k <;> simp only [nameOf, Option.some.injEq, reduceCtorEq] at e
  subst e; rfl
theorem find_of (n : Str) : ∀ (es : List DictEntry) (l : List (Str × Value)), es.map (fun e => (nameOf e.key, e.val)) = l.map (fun p => (some p.1, p.2)) → (es.find? fun e => e.key.isStr n).map (·.val) = l.lookup n
  | [], [], _ => rfl
  | [], _ :: _, h => by simp at h
  | _ :: _, [], h => by simp at h
  | e :: es, (k, u) :: l, h => by
    simp only [List.map_cons, List.cons.injEq, Prod.mk.injEq] at h
    obtain ⟨⟨h1, h2⟩, h3⟩ := h
    rw [List.find?_cons]
    simp only [isStr_of h1 n, List.lookup]
    by_cases q : k = n
    · subst q; simp [h2]
    · have q1 : (k == n) = false := by simpa using q
      have q2 : (n == k) = false := by simpa using Ne.symm q
      rw [q1, q2]
      exact find_of n es l h3
theorem noRef_of : ∀ (es : List DictEntry) (l : List (Str × Value)), es.map (fun e => (nameOf e.key, e.val)) = l.map (fun p => (some p.1, p.2)) → (es.any (·.refKey)) = false
  | [], _, _ => rfl
  | _ :: _, [], h => by simp at h
  | e :: es, (k, u) :: l, h => by
    simp only [List.map_cons, List.cons.injEq, Prod.mk.injEq] at h
    obtain ⟨⟨h1, h2⟩, h3⟩ := h
    rw [List.any_cons, noRef_of es l h3, Bool.or_false]
    obtain ⟨hash, key, val⟩ := e
    cases key <;> simp only [nameOf, reduceCtorEq] at h1
    rfl
theorem DIs.look {o : Obj} {l : List (Str × Value)} (D : DIs o l) (n : Str) : lookIn n o = some (l.lookup n) := by
  obtain ⟨es, m, rfl, h⟩ := D
  have hf := find_of n es l h
  unfold lookIn
  dsimp only
  cases q : es.find? (fun e => e.key.isStr n) with
  | some e => rw [q] at hf; simp only [Option.map_some] at hf; rw [← hf]
  | none =>
    rw [q] at hf
    simp only [Option.map_none] at hf
    rw [noRef_of es l h, ← hf]; simp
theorem putIn_of (n : Str) (hash : Int) (tk : Tok) (v : Value) : ∀ (es : List DictEntry) (l : List (Str × Value)), es.map (fun e => (nameOf e.key, e.val)) = l.map (fun p => (some p.1, p.2)) →
    (nsPutIn n.cps.size n.cps.toList (fun | some e => { e with val := v } | none => ⟨hash, .str n tk, v⟩) es).1.map (fun e => (nameOf e.key, e.val)) = (upd l n v).map fun p => (some p.1, p.2)
  | [], [], _ => rfl
  | [], _ :: _, h => by simp at h
  | _ :: _, [], h => by simp at h
  | e :: es, (k, u) :: l, h => by
    simp only [List.map_cons, List.cons.injEq, Prod.mk.injEq] at h
    obtain ⟨⟨h1, h2⟩, h3⟩ := h
    rw [nsPutIn, Value.isStrByCps_eq, isStr_of h1 n]
    unfold upd
    by_cases q : (k == n) = true
    · rw [if_pos q, if_pos q]; simp [h1, h3]
    · rw [if_neg q, if_neg q]
      have ih := putIn_of n hash tk v es l h3
      simp only [List.map_cons, ih, h1, h2]
theorem DIs.put {o : Obj} {l : List (Str × Value)} (D : DIs o l) (n : Str) (hash : Int) (tk : Tok) (v : Value) : DIs (Obj.putName n hash (.str n tk) v o) (upd l n v) := by
  obtain ⟨es, m, rfl, h⟩ := D
  have z := putIn_of n hash tk v es l h
  simp only [Obj.putName]
  cases q : nsPutIn n.cps.size n.cps.toList (fun | some e => { e with val := v } | none => ⟨hash, .str n tk, v⟩) es with
  | mk es' added =>
    rw [q] at z
    cases added <;> exact ⟨es', _, rfl, z⟩
theorem DIs.size {o : Obj} {l : List (Str × Value)} (D : DIs o l) : ∃ es : List DictEntry, ∃ n, o.data = .dict es.toArray n ∧ es.length = l.length := by
  obtain ⟨es, m, rfl, h⟩ := D
  have := congrArg List.length h
  simp at this
  exact ⟨es, m, rfl, this⟩
theorem DIs.empty : DIs emptyDict [] := ⟨[], 0, rfl, rfl⟩
theorem DIs.alive {o : Obj} {l : List (Str × Value)} (D : DIs o l) : o.isFreed = false := by obtain ⟨es, m, rfl, h⟩ := D; rfl

structure IsI (I : Im) (a C : Addr) (l : List (Str × Value)) : Prop where
  ex : ∃ dx od, I a = some (instObj C dx) ∧ I dx = some od ∧ DIs od l
theorem IsI.le {I J : Im} {a C : Addr} {l : List (Str × Value)} (x : IsI I a C l) (h : Le I J) : IsI J a C l := let ⟨dx, od, e, e', D⟩ := x.ex; ⟨dx, od, h _ _ e, h _ _ e', D⟩

section
variable {w : World} {B : Heap} {M : Addr → Prop} {h₀ : Heap} {I₀ I : Im} {L : Addr} {m : Str → Option Value} {h : Heap} {g : Array GenState} {d : Drawn} {t : Nat} {o : OsState} {A : Around} {E : Value → Shared → Prop} {env : Env}
theorem IsI.inst {a C : Addr} {l : List (Str × Value)} (x : IsI I a C l) (k : Ok w B I h g) : ∃ ox od, W.InstAt h a ox C (some od) ∧ DIs od l := by
  obtain ⟨dx, od, e, e', D⟩ := x.ex
  exact ⟨_, od, ⟨k.sub _ _ e, rfl, rfl, k.sub _ _ e'⟩, D⟩
/-- an attribute that the object's own dict holds -/
theorem at_val {g' : Array GenState} {a C : Addr} {l : List (Str × Value)} {n : Str} {v : Value} {ex : Bool} {Q : Value → Shared → Prop} (k : Ok w B I h g) (x : IsI I a C l) (hl : l.lookup n = some v)
    (hg : plainGet (K w) C n = true) (hh : hasDictIn (K w) C = true) (hn : findIn (K w) (.ref C) n = some none) (hv : handedIn v = true) (hq : Q v ⟨h, g', d, t + 1, o⟩) : wpAny (model PR w) A (getAttr (.ref a) n ex) Q E ⟨h, g', d, t, o⟩ := by
  obtain ⟨ox, od, i, D⟩ := x.inst k
  refine get_value k.X i (plainGet_of hg).1 ?_ hv hq
  obtain ⟨cd, hc, hd⟩ := any_some hh
  unfold findObj
  rw [hc, Option.bind_some, hn]
  simp only [Option.bind_some, W.ownOf]
  rw [show cd.hasDict = true from hd, if_pos rfl, D.look, hl]
  rfl
theorem meth {a C f : Addr} {l : List (Str × Value)} {n : Str} {pl : Sem Bool} {Q : Value × List Value → Shared → Prop} (k : Ok w B I h g) (x : IsI I a C l) (hl : l.lookup n = none)
    (hg : plainGet (K w) C n = true) (hf : findIn (K w) (.ref C) n = some (some (.ref f))) (ht : typeIn (K w) (.ref f) = some (.type "function")) (hq : Q (.ref f, [.ref a]) ⟨h, g, d, t, o⟩) :
    wpAny (model PR w) A (getMethod (.ref a) n pl) Q E ⟨h, g, d, t, o⟩ := by
  obtain ⟨ox, od, i, D⟩ := x.inst k
  refine method_fn k.X i (plainGet_of hg).1 (plainGet_of hg).2 hf ht ?_ hq
  unfold shadowIn
  dsimp only
  rw [D.look, hl]; rfl
/-- «x.n = v» -/
theorem set_at {x dx C : Addr} {od : Obj} {l : List (Str × Value)} {n : Str} {v : Value} {Q : Unit → Shared → Prop} (k : Ok w B I h g) (hx : h.get? x = some (instObj C dx)) (hdx : h.get? dx = some od) (D : DIs od l) (hz : l.length ≤ 500)
    (hs : findIn (K w) (.ref C) "__setattr__" = some (some (.builtin "object.__setattr__"))) (hp : plainOver (K w) C = true) (ht : takerIn (K w) C n = some none) (hh : (clsIn (K w) C).any (·.hasDict) = true)
    (hq : ∀ h' od' t', h'.get? dx = some od' → DIs od' (upd l n v) → (∀ b q, b ≠ dx → h.get? b = some q → h'.get? b = some q) → Q () ⟨h', g, d, t', o⟩) :
    wpAny (model PR w) A (setAttr (.ref x) n v) Q E ⟨h, g, d, t, o⟩ := by
  have i : W.InstAt h x (instObj C dx) C (some od) := ⟨hx, rfl, rfl, hdx⟩
  refine set_plain (s := ⟨h, g, d, t, o⟩) k.X i hs (osa_open (s := ⟨h, g, d, t + 1, o⟩) k.X i hp ht fun b => ?_)
  obtain ⟨cd, hc, hd'⟩ := any_some hh
  refine wpAny_bind (wpAny_pure (wpAny_bind (wpAny_bind (wpAny_loadPart hx (wpAny_bind ((looks_clsIn k.X hc).here ?_))))))
  rw [hd']
  refine wpAny_pure (a := some dx) (wpAny_bind (wpAny_pure (wpAny_bind ?_)))
  unfold nsSet
  refine wpAny_bind (wpAny_bind (wpAny_askSetting (wpAny_pure (wpAny_bind (wpAny_mkText (wpAny_bind (wpAny_loadPart hdx ?_)))))))
  obtain ⟨es, nn, e, hlen⟩ := D.size
  have hl := D.look n
  rw [e]
  dsimp only
  have c : (!es.toArray.any (·.key.isStr n) && es.toArray.any (·.refKey)) = false := by
    obtain ⟨es', n', rfl, hm⟩ := D
    have : es' = es := by cases e; rfl
    subst this
    rw [← Array.any_toList, ← Array.any_toList]
    rw [show es'.toArray.toList = es' from rfl, noRef_of es' l hm, Bool.and_false]
  rw [aRefKeyMayBeTheName_at, c]
  refine wpAny_updatePart hdx ?_
  have D' := D.put n (PyData.keyHash w.params n) (t + 1) v
  have g' : (h.update dx (Obj.putName n (PyData.keyHash w.params n) (.str n (t + 1)) v)).get? dx = some (Obj.putName n (PyData.keyHash w.params n) (.str n (t + 1)) v od) := Heap.get?_update_self _ hdx D'.alive
  obtain ⟨es2, n2, e2, hlen2⟩ := D'.size
  refine wpAny_bind (wpAny_lookBehind g' (by rw [e2]; refine pastItsLine_dict ?_; have := upd_len l n v; rw [List.size_toArray, sizeLine_eq]; omega) ?_)
  exact wpAny_pure (hq _ _ _ g' D' fun b q hb eb => (Heap.get?_update_ne _ _ _ _ hb).trans eb)
end
end Mine
namespace Mine
/-! entries that keep the code they stand in; super() -/
section
variable {w : World} {B : Heap} {M : Addr → Prop} {h₀ : Heap} {I₀ I : Im} {L : Addr} {m : Str → Option Value} {h : Heap} {g : Array GenState} {d : Drawn} {t : Nat} {o : OsState} {A : Around} {E : Value → Shared → Prop} {env : Env}
abbrev Ext (h : Heap) (I : Im) (h' : Heap) (I' : Im) : Prop := Grow (fun _ => False) h I h' I'
theorem Ext.grown {h' : Heap} {q : Obj} (kk : ∀ b o, h.get? b = some o → h'.get? b = some o) (hI : I h.objs.size = none) : Ext h I h' (I.up h.objs.size q) :=
  ⟨Le.up hI, fun a o e => ⟨o, kk _ _ e⟩, fun a o o' _ e e' => by rw [Im.up_ne (Nat.ne_of_lt (Heap.lt_size e))] at e'; exact e', fun a o _ e => kk _ _ e⟩
theorem St.grown {h' : Heap} (S : St w B M h₀ I₀ L m I h g) (hk : ∀ b q, h.get? b = some q → h'.get? b = some q) : St w B M h₀ I₀ L m I h' g where
  ok := S.ok.keeps hk
  G := ⟨S.G.le, fun a o e => let ⟨o', e'⟩ := S.G.ex a o e; ⟨o', hk _ _ e'⟩, S.G.fresh, fun a o n e => hk _ _ (S.G.kp a o n e)⟩
  ns := S.ns.at' fun o e => hk _ o e
  nL := S.nL
  off := S.off
  low := S.low
theorem locs' {scope : Scope} {l : List (Str × Value)} (h : (l.all fun x => decide (scope.names.lookup x.1 = some .local)) = true) : ∀ y ∈ l, scope.names.lookup y.1 = some .local :=
  fun y hy => by simpa using List.all_eq_true.mp h y hy
theorem enterAt {f : Addr} {name qual : Str} {params : Arguments} {body : List Stmt} {scope : Scope} {dV kV doc pm cdv ct oc : Value} {an od : Option Addr} {osl : Array (Option Value)} {cl : List (Str × Addr)} {vs : List Value} {R : Result → Shared → Prop} (l : List (Str × Value))
    (M : Addr → Prop) (k : Ok w B I h g) (ho : (K w).lookup f = some ⟨oc, od, .func (fnX name qual params body scope cl dV kV doc pm an cdv ct), osl⟩) (hcd : codeIn (K w) cdv qual = true) (hroom : A.depth < recursionLimit)
    (hbind : bindArgs (fnX name qual params body scope cl dV kV doc pm an cdv ct) ⟨vs, []⟩ = pure l.reverse) (hcell : (scope.names.all fun x => x.2 != .cell) = true) (hloc : (l.reverse.all fun x => decide (scope.names.lookup x.1 = some .local)) = true)
    (hco : scope.isCoroutine = false) (hgen : scope.isGenerator = false) (hk : scope.kind = .function)
    (hb : ∀ h₁ t₁ E', St w B M h I h.objs.size (fun x => l.lookup x) I h₁ g →
      _root_.PySem.wpAt (model PR w) (A.deeper (envX qual scope h.objs.size f cdv cl)) (.func body (envX qual scope h.objs.size f cdv cl)) (execs body (envX qual scope h.objs.size f cdv cl)) (fun fl s' => R (.ok (.ret (rv fl))) s') E' ⟨h₁, g, d, t₁, o⟩) :
    codeAny (model PR w) A (.call (.ref f) ⟨vs, []⟩) R ⟨h, g, d, t, o⟩ := by
  refine ks_codeAny_call_defAt (s := ⟨h, g, d, t, o⟩) (fd := fnX name qual params body scope cl dV kV doc pm an cdv ct) (body := body) (binds := l.reverse) hroom (k.X _ _ ho) rfl k.lim (codeRec_of k.X hcd) rfl (.of_eq hbind)
    (fun x hx => by simpa using List.all_eq_true.mp hcell x hx) (locs' hloc) (fun h₁ hns hk₁ => ?_) hco hgen hk
  rw [List.reverse_reverse] at hns
  refine ks_wpAt_mono (hb h₁ _ _ (frame_St k k (.refl M h I) hns hk₁)) (fun fl s' q => ?_) fun _ _ q => q
  cases fl <;> exact q
/-- the last parameter takes the rest: «*args» -/
theorem enterV {f : Addr} {name qual : Str} {params : Arguments} {body : List Stmt} {scope : Scope} {dV kV doc pm cdv ct oc : Value} {an od : Option Addr} {osl : Array (Option Value)} {cl : List (Str × Addr)} {vs rest : List Value} {R : Result → Shared → Prop} (l : List (Str × Value)) (va : Str)
    (M : Addr → Prop) (k : Ok w B I h g) (ho : (K w).lookup f = some ⟨oc, od, .func (fnX name qual params body scope cl dV kV doc pm an cdv ct), osl⟩) (hcd : codeIn (K w) cdv qual = true) (hroom : A.depth < recursionLimit)
    (hbind : bindArgs (fnX name qual params body scope cl dV kV doc pm an cdv ct) ⟨vs, []⟩ = (newTuple rest >>= fun tv => pure (l.reverse ++ [(va, tv)]))) (hsz : rest.length ≤ 1000000)
    (hcell : (scope.names.all fun x => x.2 != .cell) = true) (hloc : (l.reverse.all fun x => decide (scope.names.lookup x.1 = some .local)) = true) (hva : scope.names.lookup va = some .local)
    (hco : scope.isCoroutine = false) (hgen : scope.isGenerator = false) (hk : scope.kind = .function)
    (hb : ∀ h₁ t₁ E' I₁, St w B M h I (h.objs.size + 1) (fun x => List.lookup x ((va, .ref h.objs.size) :: l)) I₁ h₁ g → Le I I₁ → Tup I₁ h.objs.size rest →
      _root_.PySem.wpAt (model PR w) (A.deeper (envX qual scope (h.objs.size + 1) f cdv cl)) (.func body (envX qual scope (h.objs.size + 1) f cdv cl)) (execs body (envX qual scope (h.objs.size + 1) f cdv cl)) (fun fl s' => R (.ok (.ret (rv fl))) s') E' ⟨h₁, g, d, t₁, o⟩) :
    codeAny (model PR w) A (.call (.ref f) ⟨vs, []⟩) R ⟨h, g, d, t, o⟩ := by
  refine codeAny_call_function (s := ⟨h, g, d, t, o⟩) (fd := fnX name qual params body scope cl dV kV doc pm an cdv ct) (body := body) hroom (k.X _ _ ho) rfl hco hgen rfl (codeRec_of k.X hcd) ?_
  rw [hbind]
  refine wpAny_bind (wpAny_newObj_type (wpAny_pure ?_) (by show rest.toArray.size ≤ sizeLine; rw [List.size_toArray]; exact Nat.le_trans hsz sizeLine_big))
  have hk1 : ∀ b q, h.get? b = some q → (h.push { cls := .type "tuple", dict := none, data := .seq rest.toArray }).get? b = some q := fun b q e => Heap.get?_push_of_some _ e
  have e1 : (h.push { cls := .type "tuple", dict := none, data := .seq rest.toArray }).get? h.objs.size = some { cls := .type "tuple", dict := none, data := .seq rest.toArray } := Heap.get?_push_size _ rfl
  have hs1 : (h.push { cls := .type "tuple", dict := none, data := .seq rest.toArray }).objs.size = h.objs.size + 1 := Heap.size_push _ _
  have k1 := (k.push { cls := .type "tuple", dict := none, data := .seq rest.toArray }).freeze e1 k.none_size (fun q => Nat.lt_irrefl _ (q ▸ k.below.1)) (fun q => Nat.lt_irrefl _ (q ▸ k.below.2))
  refine wpAny_newFunctionEnv (fun x hx => by simpa using List.all_eq_true.mp hcell x hx) (fun x hx => ?_) (fun h₂ hns₂ hsb₂ => ⟨k1.lim.fresh _ hsb₂, ks_codeAny_funcAt ?_⟩) hk
  · rcases List.mem_append.mp hx with hx | hx
    · exact locs' hloc x hx
    · simp only [List.mem_cons, List.not_mem_nil, or_false] at hx; subst hx; exact hva
  · have hk2 : ∀ b q, (h.push { cls := .type "tuple", dict := none, data := .seq rest.toArray }).get? b = some q → h₂.get? b = some q := fun b q e => hsb₂.extBut b q (Nat.ne_of_lt (Heap.lt_size e)) (Heap.get?_push_of_some _ e)
    have G1 : Grow M h I (h.push { cls := .type "tuple", dict := none, data := .seq rest.toArray }) (I.up h.objs.size { cls := .type "tuple", dict := none, data := .seq rest.toArray }) :=
      ⟨Le.up k.none_size, fun a q e => ⟨q, hk1 _ _ e⟩, fun a q q' _ e e' => by rw [Im.up_ne (Nat.ne_of_lt (Heap.lt_size e))] at e'; exact e', fun a q _ e => hk1 _ _ e⟩
    have S := frame_St k k1 G1 hns₂ hk2
    dsimp only at S ⊢
    rw [hs1] at S ⊢
    rw [show (fun x => List.lookup x (l.reverse ++ [(va, Value.ref h.objs.size)]).reverse) = fun x => List.lookup x ((va, .ref h.objs.size) :: l) by simp] at S
    refine ks_wpAt_mono (hb h₂ _ _ _ S (Le.up k.none_size) ⟨_, Im.up_self⟩) (fun fl s' q => ?_) fun _ _ q => q
    cases fl <;> exact q

theorem getAttr_super {so D x C f : Addr} {of : Obj} {l₀ l : List Value} {KK' : Frag} {name : Str} {Q : Value → Shared → Prop}
    (hso : h.get? so = some { cls := .type "super", dict := none, data := .fields #[.ref D, .ref x, .ref C], slots := #[] }) (hno : Looks (model PR w) h (opaqueClassAbove (.ref C)) none)
    (hC : Looks (model PR w) h (mroOf (.ref C)) l₀) (hl : (l₀.dropWhile (· != .ref D)).drop 1 = l) (X : KK'.In h)
    (hf : alongIn KK' name l = some (some (.ref f))) (hfo : h.get? f = some of) (hfc : of.cls = .type "function") (hxC : x ≠ C) (hn : (name == (Str.ofString "__class__")) = false)
    (hq : Q (.ref h.objs.size) ⟨h.push { cls := .type "method", data := .fields #[.ref f, .ref x] }, g, d, t + 1, o⟩) :
    wpAny (model PR w) A (getAttr (.ref so) name true) Q E ⟨h, g, d, t, o⟩ := by
  have hlk := F.ks_slot_super_ga.lookup
  have hT : ∀ t', (⟨h, g, d, t', o⟩ : Shared).TypeIs (.ref so) "super" := fun _ => ⟨_, hso, rfl⟩
  unfold getAttr getAttrBy
  refine wpAny_bind (wpAny_mkText (wpAny_holding (wpAny_bind (wpAny_typeOf (hT _) (wpAny_bind (wpAny_of_eq hlk ?_))))))
  show wpAny _ _ (getAttrByItsOwn (.ref so) (.str name t) (.type "super") (.builtin "super.__getattribute__") true true) _ _ _
  unfold getAttrByItsOwn hookBefore callGetattribute boundAndCalled
  refine wpAny_bind (wpAny_of_eq (show (if onTheHeap (.type "super") then typeLookup (.type "super") "__getattr__" else pure none) = pure none from rfl) ?_)
  refine wpAny_bind (wpAny_attempt (wpAny_holding ?_))
  show wpAny _ _ (bindSpecial (.builtin "super.__getattribute__") (.ref so) >>= _) _ _ _
  refine wpAny_bind (wpAny_of_eq (F.ks_slot_super_ga.bind _) ?_)
  refine wpAny_mono (Q := fun v s' => v = .ref h.objs.size ∧ s' = ⟨h.push { cls := .type "method", data := .fields #[.ref f, .ref x] }, g, d, t + 1, o⟩) (E := fun _ _ => False)
    (wpAny_call_entry F.ks_slot_super_ga (hT _) F.ks_entry_super_ga (ks_wpAny_super_ga hso hno hC hl X hf hfo hfc hxC hn ⟨_, rfl, rfl, rfl⟩) (F.ks_gaArgs_super _ _)) (fun v s' hv => ?_) fun _ _ z => z.elim
  obtain ⟨rfl, rfl⟩ := hv
  exact wpAny_pure hq
theorem wpAt_starCall {Md : Model} {c : Code} {s : Shared} {o' : Expr} {name : Str} {apos pos : Pos} {args : List Expr} {Q : Value → Shared → Prop}
    (hq : _root_.PySem.wpAt Md A c (attributeBase o' name env (eval o' env)) (fun ov s₁ => wpAny Md A (getAttr ov name true) (fun f s₂ => wpAny Md A (callWith pos f [] (backTo pos (starEach args env)) []) Q E s₂) E s₁) E s)
    (he : eval (.Call (.Attribute o' name apos) args [] pos) env = (do
      let ov ← attributeBase o' name env (eval o' env)
      standAt apos.atName
      let (fm, first) ← holding [ov] (do pure (← getAttr ov name true, ([] : List Value)))
      callWith pos fm first (backTo pos (starEach args env)) [])) :
    _root_.PySem.wpAt Md A c (eval (.Call (.Attribute o' name apos) args [] pos) env) Q E s := by
  rw [he]
  refine _root_.PySem.wpAt_bind (_root_.PySem.wpAt_mono hq (fun ov s₁ h₁ => _root_.PySem.wpAt_of_wpAny (wpAny_bind (wpAny_standAt (wpAny_bind (wpAny_holding (wpAny_bind (wpAny_mono h₁ (fun f s₂ h₂ => wpAny_pure ?_) fun _ _ x => x))))))) fun _ _ x => x)
  exact h₂

/-- «super()» -/
theorem sup_base {sn : Str} {x C D f cc cda dx : Addr} {p0 p1 : Pos} {attr : Str} {body : List Stmt} {whole : Sem Value} {q : Str} {scope : Scope} {fd : FuncData} {ar : Arg} {vs : Array Value} {file : Str} {tf : Tok} {oc ccl cl : Value} {od cdd cld : Option Addr} {osl ccs csl : Array (Option Value)} {cdD cdC : ClassData} {Q : Value → Shared → Prop}
    (hsn : sn = Str.ofString "super") (S : St w B M h₀ I₀ L m I h g) (hx : I x = some (instObj C dx))
    (hf : (K w).lookup f = some ⟨oc, od, .func fd, osl⟩) (hp : (fd.params.posonlyargs ++ fd.params.args).head? = some ar) (hv : m ar.arg = some (.ref x))
    (hcode : (K w).lookup cda = some ⟨ccl, cdd, .fields vs, ccs⟩) (hvs : vs[2]? = some (.str file tf)) (hfile : ((PR.main.file : Str) == file) = true)
    (hcell : (K w).lookup cc = some ⟨cl, cld, .cell (some (.ref D)), csl⟩) (hD : clsIn (K w) D = some cdD) (hC : clsIn (K w) C = some cdC) (hsub : mroIn (K w) C (.ref D) = some true) (hsuper : nsIn (K w) mainGlobals (Str.ofString "super") = some none)
    (hat : (attr == (Str.ofString "__class__")) = false) (hks : scope.names.lookup (Str.ofString "super") = some .globalImplicit) (hkc : scope.names.lookup (Str.ofString "__class__") = some .free) (hka : scope.names.lookup ar.arg = some .local) (hk : scope.kind = .function)
    (htop : (PR.main.scope.names.lookup (Str.ofString "super")).isSome = false) (hboot : bootBuiltins (Str.ofString "super") = some (.type "super"))
    (hq : ∀ so h' I', St w B M h₀ I₀ L m I' h' g → Ext h I h' I' → h'.get? so = some (ks_superObj D x C) → x ≠ C → Q (.ref so) ⟨h', g, d, t, o⟩) :
    _root_.PySem.wpAt (model PR w) A (.func body (ksEnv q scope L f (.ref cda) cc)) (attributeBase (.Call (.Name sn p0) [] [] p1) attr (ksEnv q scope L f (.ref cda) cc) whole) Q E ⟨h, g, d, t, o⟩ := by
  subst hsn
  have k := S.ok
  have X := k.X
  have hX : h.get? x = some (instObj C dx) := k.sub _ _ hx
  obtain ⟨oD, hD1, hD2⟩ : ∃ oD, h.get? D = some oD ∧ oD.data = .cls cdD := by
    unfold clsIn at hD
    split at hD
    · rename_i c d cd' sl ho
      cases hD
      exact ⟨_, X _ _ ho, rfl⟩
    · cases hD
  obtain ⟨_, _, mg, mb, T⟩ := k.T
  refine ks_wpAt_super_base (env := ksEnv q scope L f (.ref cda) cc) hks hkc hat rfl (X _ _ hf) rfl hp rfl (X _ _ hcode) rfl hvs hfile htop ?_
  refine ks_loadName_global hk hks (loadGlobal_builtin (env := ksEnv q scope L f (.ref cda) cc) (T.g) (mg_none_of X T.g hsuper) (T.b) ((T.builtins _ (by decide +kernel)).trans hboot) ⟨rfl, ?_⟩)
  refine wpAny_loadName_free hk hkc rfl ⟨_, X _ _ hcell, rfl⟩ ?_
  refine wpAny_loadName_local hk hka S.ns hv ?_
  refine ks_wpAny_isType_cls hD1 hD2 ⟨rfl, ?_⟩
  refine ks_wpAny_call_super hD1 hD2 hX rfl (fun c e => by cases e) (looks_mroIn X hsub) (fun h' e kk => ?_)
  have hne : x ≠ C := by
    rintro rfl
    unfold clsIn at hC
    split at hC
    · rename_i c d' cd' sl ho
      have e1 := X _ _ ho
      rw [hX] at e1; cases e1
    · cases hC
  exact hq _ _ _ ((S.grown kk).freeze e S.at_size (Nat.ne_of_gt S.ns.lt)) (Ext.grown kk S.ok.none_size) e hne

/-- «super().name(..)» as a def's own statement: the method that is found -/
theorem sup_stmt {sn : Str} {x C D f f2 cc cda dx : Addr} {p0 p1 p2 p3 p4 : Pos} {attr : Str} {args : List Expr} {rest : List Stmt} {body : List Stmt} {q : Str} {scope : Scope} {fd : FuncData} {ar : Arg} {vs : Array Value} {file : Str} {tf : Tok} {oc ccl cl : Value} {od cdd cld : Option Addr} {osl ccs csl : Array (Option Value)} {cdD cdC : ClassData} {Q : Flow → Shared → Prop}
    (hsn : sn = Str.ofString "super") (S : St w B M h₀ I₀ L m I h g) (hx : I x = some (instObj C dx))
    (hf : (K w).lookup f = some ⟨oc, od, .func fd, osl⟩) (hp : (fd.params.posonlyargs ++ fd.params.args).head? = some ar) (hv : m ar.arg = some (.ref x))
    (hcode : (K w).lookup cda = some ⟨ccl, cdd, .fields vs, ccs⟩) (hvs : vs[2]? = some (.str file tf)) (hfile : ((PR.main.file : Str) == file) = true)
    (hcell : (K w).lookup cc = some ⟨cl, cld, .cell (some (.ref D)), csl⟩) (hD : clsIn (K w) D = some cdD) (hC : clsIn (K w) C = some cdC) (hsub : mroIn (K w) C (.ref D) = some true) (hsuper : nsIn (K w) mainGlobals (Str.ofString "super") = some none)
    (hat : (attr == (Str.ofString "__class__")) = false) (hks : scope.names.lookup (Str.ofString "super") = some .globalImplicit) (hkc : scope.names.lookup (Str.ofString "__class__") = some .free) (hka : scope.names.lookup ar.arg = some .local) (hk : scope.kind = .function)
    (htop : (PR.main.scope.names.lookup (Str.ofString "super")).isSome = false) (hboot : bootBuiltins (Str.ofString "super") = some (.type "super"))
    (hno : nsIn (K w) cStatics (Str.ofString "thirdparty.any") = some none) (hm : ks_superIn (K w) C D attr = some (some (.ref f2))) (ht : typeIn (K w) (.ref f2) = some (.type "function"))
    (hi : interactive (ksEnv q scope L f (.ref cda) cc) = false) (hsw : swapsWith (.Call (.Attribute (.Call (.Name sn p0) [] [] p1) attr p2) args [] p3) none p4.line (ksEnv q scope L f (.ref cda) cc) = pure false) (pl : Sem Bool)
    (hcall : (eval (.Call (.Attribute (.Call (.Name sn p0) [] [] p1) attr p2) args [] p3) (ksEnv q scope L f (.ref cda) cc) = (do
      let ov ← attributeBase (.Call (.Name sn p0) [] [] p1) attr (ksEnv q scope L f (.ref cda) cc) (eval (.Call (.Name sn p0) [] [] p1) (ksEnv q scope L f (.ref cda) cc))
      standAt p2.atName
      let (fm, first) ← holding [ov] (getMethod ov attr pl)
      callWith p3 fm first (backTo p3 (starEach args (ksEnv q scope L f (.ref cda) cc))) [])) ∨ eval (.Call (.Attribute (.Call (.Name sn p0) [] [] p1) attr p2) args [] p3) (ksEnv q scope L f (.ref cda) cc) = (do
      let ov ← attributeBase (.Call (.Name sn p0) [] [] p1) attr (ksEnv q scope L f (.ref cda) cc) (eval (.Call (.Name sn p0) [] [] p1) (ksEnv q scope L f (.ref cda) cc))
      standAt p2.atName
      let (fm, first) ← holding [ov] (do pure (← getAttr ov attr true, ([] : List Value)))
      callWith p3 fm first (backTo p3 (starEach args (ksEnv q scope L f (.ref cda) cc))) []))
    (hq : ∀ qa h' I' t', St w B M h₀ I₀ L m I' h' g → Ext h I h' I' → h'.get? qa = some (methodObj (.ref f2) (.ref x)) → I' qa = some (methodObj (.ref f2) (.ref x)) →
      wpAny (model PR w) A (callWith p3 (.ref qa) [] (backTo p3 (starEach args (ksEnv q scope L f (.ref cda) cc))) []) (fun _ s' => wpAny (model PR w) A (execs rest (ksEnv q scope L f (.ref cda) cc)) Q E s') E ⟨h', g, d, t', o⟩) :
    _root_.PySem.wpAt (model PR w) A (.func body (ksEnv q scope L f (.ref cda) cc)) (execs (.Expr (.Call (.Attribute (.Call (.Name sn p0) [] [] p1) attr p2) args [] p3) p4 :: rest) (ksEnv q scope L f (.ref cda) cc)) Q E ⟨h, g, d, t, o⟩ := by
  refine ks_wpAt_execs_cons (ks_wpAt_Expr_any ?_ hi hsw)
  have found : ∀ {I' h'}, St w B M h₀ I₀ L m I' h' g → ∃ of l, h'.get? f2 = some of ∧ of.cls = .type "function" ∧ (cdC.mro.dropWhile (· != .ref D)).drop 1 = l ∧ alongIn (K w) attr l = some (some (.ref f2)) ∧ Looks (model PR w) h' (mroOf (.ref C)) cdC.mro := by
    intro I' h' S1
    have X1 := S1.ok.X
    obtain ⟨of, hof, hofc⟩ : ∃ of, h'.get? f2 = some of ∧ of.cls = .type "function" := by
      have ht' : ((K w).lookup f2).map (·.cls) = some (.type "function") := ht
      cases z : (K w).lookup f2 with
      | none => rw [z] at ht'; cases ht'
      | some of => rw [z] at ht'; exact ⟨of, X1 _ _ z, Option.some.inj ht'⟩
    unfold ks_superIn at hm
    rw [hC] at hm
    exact ⟨of, _, hof, hofc, rfl, hm, fun A Q E s k q => wpAny_bind ((looks_clsIn X1 hC) A _ E s k (wpAny_pure q))⟩
  rcases hcall with hcall | hcall
  · refine ks_wpAt_MethodCall (pl := pl) ?_ hcall
    refine sup_base hsn S hx hf hp hv hcode hvs hfile hcell hD hC hsub hsuper hat hks hkc hka hk htop hboot fun so h' I' S1 G1 e hne => ?_
    obtain ⟨of, l, hof, hofc, hl, hal, hmro⟩ := found S1
    refine ks_wpAny_getMethod_super e (looks_opaque S1.ok.X hno) hmro hl S1.ok.X hal hof hofc hne hat ?_
    exact wpAny_mono (hq _ _ _ _ (S1.new _ rfl) (G1.trans (Ext.grown (fun _ _ e => Heap.get?_push_of_some _ e) S1.ok.none_size)) (Heap.get?_push_size _ rfl) Im.up_self) (fun _ s' z => wpAt_of_wpAny z) fun _ _ z => z
  · refine wpAt_starCall ?_ hcall
    refine sup_base hsn S hx hf hp hv hcode hvs hfile hcell hD hC hsub hsuper hat hks hkc hka hk htop hboot fun so h' I' S1 G1 e hne => ?_
    obtain ⟨of, l, hof, hofc, hl, hal, hmro⟩ := found S1
    refine getAttr_super e (looks_opaque S1.ok.X hno) hmro hl S1.ok.X hal hof hofc hne hat ?_
    exact wpAny_mono (hq _ _ _ _ (S1.new _ rfl) (G1.trans (Ext.grown (fun _ _ e => Heap.get?_push_of_some _ e) S1.ok.none_size)) (Heap.get?_push_size _ rfl) Im.up_self) (fun _ s' z => wpAt_of_wpAny z) fun _ _ z => z
end
end Mine
namespace Mine
/-! «all(elt for x in ..)» -/
def tline (P : Addr) : Nat × Nat := if P = P1 then (172, 19) else (27, 15)
section
variable {w : World} {B : Heap} {M : Addr → Prop} {h₀ : Heap} {I₀ I : Im} {L : Addr} {m : Str → Option Value} {h : Heap} {g : Array GenState} {d : Drawn} {t : Nat} {o : OsState} {A : Around} {E : Value → Shared → Prop} {env : Env}
theorem Ok.tabOf (k : Ok w B I h g) {P : Addr} (hP : Mt P) : TabAt P (tline P).1 (tline P).2 h := by
  rcases hP with rfl | rfl
  · exact k.t1
  · exact k.t2
theorem Ok.retab {h' : Heap} (k : Ok w B I h g) {P : Addr} (hP : Mt P) (hx : ∀ b q, b ≠ P → h.get? b = some q → h'.get? b = some q) (ht : TabAt P (tline P).1 (tline P).2 h') : Ok w B I h' g where
  top := k.top
  base := k.base
  sub := fun a q e => hx a q (fun z => by subst z; rcases hP with rfl | rfl <;> first | (rw [k.n1] at e; cases e) | (rw [k.n2] at e; cases e)) (k.sub a q e)
  n1 := k.n1
  n2 := k.n2
  t1 := by
    rcases hP with rfl | rfl
    · exact ht
    · exact k.t1.at fun q e => hx _ q (by decide) e
  t2 := by
    rcases hP with rfl | rfl
    · exact k.t2.at fun q e => hx _ q (by decide) e
    · exact ht
  bare := k.bare
theorem Ok.gens {g' : Array GenState} (k : Ok w B I h g) (hb : AllBare g') : Ok w B I h g' := { k with bare := hb }
/-- the code of the block: made once, found from then on -/
theorem gen_code {c P : Addr} {pos : Pos} {qn : Str} {scope : Scope} {Q : Value → Shared → Prop} (k : Ok w B I h g) (hP : Mt P) (hh : CodeHd h c P) (hcode : env.code = .ref c) (hl : (pos.line, pos.col) = tline P)
    (hq : ∀ c' h' t', Ok w B I h' g → Grow Mt h I h' I → h.objs.size ≤ h'.objs.size → Q c' ⟨h', g, d, t', o⟩) :
    wpAny (model PR w) A (genexprCode env pos qn scope) Q E ⟨h, g, d, t, o⟩ := by
  have ht := k.tabOf hP
  have e1 : pos.line = (tline P).1 := congrArg Prod.fst hl
  have e2 : pos.col = (tline P).2 := congrArg Prod.snd hl
  rcases ht with e | ⟨v, e⟩
  · refine wpAny_genexprCodeX (s := ⟨h, g, d, t, o⟩) hcode (hh.code e trivial) (hh.tab e) rfl fun c' h' tk hx h1 h2 _ _ ht' _ => ?_
    have hx' : ∀ b q, b ≠ P → h.get? b = some q → h'.get? b = some q := fun b q hb eb => hx b q hb eb
    have hT : h'.get? P = some (tabObj #[rawInt pos.line, rawInt pos.col, .ref c']) := by simpa using ht'.2
    refine hq _ _ _ (k.retab hP hx' (.inr ⟨.ref c', by rw [← e1, ← e2]; exact hT⟩)) ⟨.refl I, fun a q ea => ?_, fun _ _ _ _ _ e => e, fun a q na ea => hx' a q (fun z => na (z ▸ hP)) ea⟩ (Nat.le_trans h1 (Nat.le_of_lt h2))
    by_cases z : a = P
    · subst z; exact ⟨_, hT⟩
    · exact ⟨q, hx' a q z ea⟩
  · refine wpAny_genexprCode_hit (s := ⟨h, g, d, t, o⟩) hcode (hh.code e trivial) (c' := v) ?_ (hq _ _ _ k (.refl _ _ _) (Nat.le_refl _))
    show codeAmong pos [rawInt _, rawInt _, v] = some v
    simp only [codeAmong, rawInt]
    rw [← e1, ← e2]
    simp
theorem passing_all (n : Nat) : passing (fun _ => true) n 0 = List.range n := by
  unfold passing
  rw [List.drop_zero]
  exact List.filter_eq_self.mpr fun _ _ => rfl

structure Bmod (w : World) (bm : Addr) : Prop where
  nm : nsIn (K w) mainGlobals (Str.ofString "__builtins__") = some (some (.ref bm))
  ne : bm ≠ builtinsNs
  ob : ∃ o, (K w).lookup bm = some o ∧ o.cls = .type "module" ∧ o.dict = some builtinsNs ∧ o.data = .plain
theorem bmods (w : World) : ∃ bm, Bmod w bm := ⟨_, rfl, by decide, _, rfl, rfl, rfl, rfl⟩

theorem gen_all {c P : Addr} {a : Addr} {vs : List Value} {elt iter : Expr} {x : Str} {px pos : Pos} {scope : Scope} {cl : List (Str × Addr)} {Q : Value → Shared → Prop} (tr : Nat → Bool)
    (k : Ok w B I h g) (hP : Mt P) (hh : ∀ h', (K w).In h' → CodeHd h' c P) (hcode : env.code = .ref c) (hl : (pos.line, pos.col) = tline P) (hg : env.globals = mainGlobals)
    (hA : A.handled = none) (hroom : A.depth < recursionLimit) (ht : Tup I a vs)
    (hco : scope.isCoroutine = false) (hclos : closureFor scope env = pure cl) (hcell : ∀ y ∈ scope.names, y.2 ≠ .cell) (h0 : scope.names.lookup (Str.ofString ".0") = some NameKind.local) (hx : scope.names.lookup x = some .local) (hkind : scope.kind = .function)
    (hs : ∀ x, genFold iter env x = pure x)
    (hv : ∀ Q' : Value → Shared → Prop, Q' (.ref a) ⟨h, g, d, t, o⟩ → wpAny (model PR w) A (eval iter env) Q' E ⟨h, g, d, t, o⟩)
    (helt : ∀ (A' : Around) E' i v (s₂ : Shared) C code m₂, A'.handled = none → vs[i]? = some v → Ok w B I s₂.heap #[] → s₂.heap.Ns C m₂ → m₂ x = some v →
      wpAny (model PR w) A' (eval elt (genEnv scope cl C code builtinsNs env)) (fun y s₃ => y = .bool (tr i) ∧ Keeps s₂ s₃) E' s₂)
    (hq : ∀ ga s₅, (∀ Q E, (∀ h' g' t', Ok w B I h' g' → Grow Mt h I h' I → Q (.bool ((List.range vs.length).all tr)) ⟨h', g', d, t', o⟩) → wpAny (model PR w) A (call (.builtin "all") [.ref ga]) Q E s₅) → Q (.ref ga) s₅) :
    wpAny (model PR w) A (eval (.GeneratorExp elt [⟨.Name x px, iter, [], 0⟩] scope pos) env) Q E ⟨h, g, d, t, o⟩ := by
  have tt := ht.is k
  have hal : a < h.objs.size := let ⟨_, e⟩ := ht; Heap.lt_size (k.sub _ _ e)
  have nIt : I h.objs.size = none := k.none_size
  refine wpAny_GeneratorExp_walksQ hA hco hclos hcell h0 hx hkind hroom (hv _ (wpAny_pyIter_tuple tt ⟨(k.push _).lim, ?_⟩)) hs
  have k2 := k.push { cls := .type "tuple_iterator", data := .fields #[.ref a, .int 0 0] }
  have G2 := Grow.push Mt h I { cls := .type "tuple_iterator", data := .fields #[.ref a, .int 0 0] }
  refine gen_code k2 hP (hh _ k2.X) hcode hl fun c' h3 t3 k3 G3 hs3 => ?_
  obtain ⟨bm, Bm⟩ := bmods w
  obtain ⟨ob, hob, oc, od, odt⟩ := Bm.ob
  obtain ⟨_, _, mg, mb, T⟩ := k3.T
  refine wpAny_builtinsFor (m := mg) (by rw [hg]; exact T.g) (mg_of k3.X T.g Bm.nm) Bm.ne (k3.X _ _ hob) oc od odt ?_
  have hsz : (h.push { cls := .type "tuple_iterator", data := .fields #[.ref a, .int 0 0] }).objs.size = h.objs.size + 1 := Heap.size_push _ _
  have nPI : ¬ Mt h.objs.size := fun q => by
    obtain ⟨b1, b2⟩ := k.below
    rcases q with q | q
    · rw [q] at b1; exact Nat.lt_irrefl _ b1
    · rw [q] at b2; exact Nat.lt_irrefl _ b2
  have eIt : h3.get? h.objs.size = some { cls := .type "tuple_iterator", data := .fields #[.ref a, .int 0 0] } := G3.kp _ _ nPI (Heap.get?_push_size _ rfl)
  have tt3 := ht.is k3
  have W := fun (A' : Around) (hA' : A'.handled = none) => Walks.tuple (prog := PR) (w := w) (A := A') hA' h.objs.size a (Nat.ne_of_lt hal) vs.toArray
  refine ⟨h.objs.size, _, _, _, _, _, fun _ => true, fun i y => y = .bool (tr i), rfl, W, ⟨⟨_, eIt, rfl, rfl⟩, tt3⟩, ?_, k3.lim, ?_, ?_, ?_⟩
  · intro b hb
    rw [hsz] at hs3
    simp only [List.mem_cons, List.not_mem_nil, or_false] at hb
    rcases hb with rfl | rfl
    · exact hs3
    · exact Nat.lt_of_lt_of_le (Nat.lt_succ_of_lt hal) hs3
  · intro hb
    simp only [List.mem_cons, List.not_mem_nil, or_false] at hb
    obtain ⟨_, hn, _⟩ := k.lim
    exact Nat.lt_irrefl _ (hb ▸ hn.lt)
  · intro href hkeep
    have back : ∀ (s₂ : Shared), (∀ b ∈ List.range h3.objs.size, b ∉ [h.objs.size] → ∀ o, href.get? b = some o → s₂.heap.get? b = some o) → Ok w B I s₂.heap #[] := by
      intro s₂ hb
      have kk : ∀ b q, b ≠ h.objs.size → h3.get? b = some q → s₂.heap.get? b = some q := fun b q hne e => hb b (List.mem_range.mpr (Heap.lt_size e)) (by simpa using hne) q (hkeep b q e)
      exact (k3.moved _ kk nIt (fun q => nPI (.inl q)) (fun q => nPI (.inr q))).gens .empty
    refine ⟨fun A' E' i v s₂ m₂ _ _ _ _ _ => ?_, fun A' E' i v s₂ m₂ hA' hp _ hns hm hb => ?_⟩
    · rw [List.forIn_nil]
      exact wpAny_pure ⟨rfl, ⟨s₂.heap, s₂.toks, rfl, fun _ _ e => e⟩⟩
    · exact helt A' E' i v s₂ _ _ m₂ hA' (by simpa using hp) (back s₂ hb) hns hm
  · intro ga h5 tk gs hgb hag hsz5 hk5 W5 hat
    refine hq ga _ fun Q E hfin => ?_
    have W6 := W5.in4_1
    refine call_all_walkS (W6.self 0 _ _ _ hat ⟨ga, _, _, _, _, _, _, tr, rfl, W6, hat, ?_, fun s' hm => ?_⟩)
    · rintro i v s Q E ⟨i', hi', rfl⟩ hq'
      rw [passing_all] at hi'
      have : i' = i := by
        obtain ⟨hl', e⟩ := List.getElem?_eq_some_iff.mp hi'
        simpa using e.symm
      subst this
      exact wpAny_truthy_bool hq'
    · rw [passing_all, List.length_range, List.size_toArray]
      obtain ⟨h6, g6, d6, t6, o6⟩ := s'
      have e1 : d6 = d := hm.drawn
      have e2 : o6 = o := hm.os
      subst e1 e2
      have k5 : Ok w B I h5 g := k3.keeps hk5
      have cIt : h.objs.size < h3.objs.size := by rw [hsz] at hs3; exact hs3
      have nC : h3.get? h3.objs.size = none := by
        cases q : h3.get? h3.objs.size with
        | none => rfl
        | some q' => exact absurd (Heap.lt_size q) (Nat.lt_irrefl _)
      have kk : ∀ b q, b ≠ h.objs.size → h3.get? b = some q → h6.get? b = some q := fun b q hne e => by
        refine hm.heap b q (fun z => ?_) (hk5 b q e)
        rcases List.mem_cons.mp z with z | z
        · exact absurd (Heap.lt_size e) (z ▸ Nat.lt_irrefl _)
        · exact hne (by simpa using z)
      have k6 : Ok w B I h6 g := k3.moved _ kk nIt (fun q => nPI (.inl q)) (fun q => nPI (.inr q))
      refine hfin _ _ _ (k6.gens ?_) ?_
      · have b1 : AllBare (g.push gs) := k.bare.push hgb
        exact b1.moved hm.gens
      · have G := G2.trans G3
        have ne : ∀ b q, h.get? b = some q → b ≠ h.objs.size := fun b q e => Nat.ne_of_lt (Heap.lt_size e)
        exact ⟨.refl I, fun b q e => let ⟨q', e'⟩ := G.ex b q e; ⟨q', kk b q' (ne b q e) e'⟩, fun _ _ _ _ _ e => e, fun b q hn e => kk b q (ne b q e) (G.kp b q hn e)⟩
end
end Mine
namespace Mine
/-! enumerate over a tuple -/
section
variable {prog : Program} {w : World} {A : Around} {E : Value → Shared → Prop} {s : Shared}
theorem nextOf_tuple_item {it t : Addr} {i : Nat} {items : Array Value} {x : Value} {Q : Value → Shared → Prop} (hit : s.heap.IsTupleIter it t i) (ht : s.heap.IsTuple t items) (hx : items[i]? = some x)
    (hQ : ∀ h', h'.IsTupleIter it t (i + 1) → Heap.SameBut it s.heap h' → Q x { s with heap := h' }) : wpAny (model prog w) A (Builtin.SmallTypes.nextOf (.ref it)) Q E s := by
  obtain ⟨o, ho, hc, hd⟩ := id hit
  obtain ⟨ol, hol, _, nl, hdl⟩ := ht
  unfold Builtin.SmallTypes.nextOf
  refine wpAny_bind (wpAny_callSpecial?_slot (name := Str.ofString "__next__") hit.typeIs F.slot_tuple_iterator_next
    (wpAny_call_entry F.slot_tuple_iterator_next hit.typeIs F.entry_tuple_iterator_next ?_ (F.args_tuple_iterator_next_1 _)))
  show wpAny _ _ (field (.ref it) 0 >>= _) _ _ s
  refine wpAny_bind (wpAny_field ho hd (x := .ref t) rfl ?_)
  show wpAny _ _ (if (Value.ref t == Value.none) = true then _ else _) _ _ s
  rw [if_neg (show ¬ ((Value.ref t == Value.none) = true) from Bool.false_ne_true)]
  show wpAny _ _ (field (.ref it) 1 >>= _) _ _ s
  refine wpAny_bind (wpAny_field ho hd (x := .int i 0) rfl ?_)
  show wpAny _ _ (seqItems? (.ref t) >>= _) _ _ s
  refine wpAny_bind (wpAny_seqItems hol hdl ?_)
  simp only [Int.toNat_natCast, hx]
  refine wpAny_bind (wpAny_setField ho hd (by simp) (wpAny_pure ⟨x, rfl, wpAny_pure (hQ _ ?_ (Heap.SameBut.update ..))⟩))
  exact ⟨_, Heap.get?_update_self _ ho (Obj.isFreed_of_fields (Obj.data_mapFields hd _)), (Obj.cls_mapFields ..).trans hc, by
    rw [Obj.data_mapFields hd]; simp [rawInt]⟩
theorem nextOf_tuple_end {it t : Addr} {i : Nat} {items : Array Value} {Q : Value → Shared → Prop} (hh : A.handled = none) (hit : s.heap.IsTupleIter it t i) (ht : s.heap.IsTuple t items) (hx : items[i]? = none)
    (hE : ∀ h' e, Heap.ExtBut it s.heap h' → (∃ o, h'.get? e = some o ∧ o.cls = .type "StopIteration") → E (.ref e) { s with heap := h' }) : wpAny (model prog w) A (Builtin.SmallTypes.nextOf (.ref it)) Q E s := by
  obtain ⟨o, ho, hc, hd⟩ := id hit
  obtain ⟨ol, hol, _, nl, hdl⟩ := ht
  unfold Builtin.SmallTypes.nextOf
  refine wpAny_bind (wpAny_callSpecial?_slot (name := Str.ofString "__next__") hit.typeIs F.slot_tuple_iterator_next
    (wpAny_call_entry F.slot_tuple_iterator_next hit.typeIs F.entry_tuple_iterator_next ?_ (F.args_tuple_iterator_next_1 _)))
  show wpAny _ _ (field (.ref it) 0 >>= _) _ _ s
  refine wpAny_bind (wpAny_field ho hd (x := .ref t) rfl ?_)
  show wpAny _ _ (if (Value.ref t == Value.none) = true then _ else _) _ _ s
  rw [if_neg (show ¬ ((Value.ref t == Value.none) = true) from Bool.false_ne_true)]
  show wpAny _ _ (field (.ref it) 1 >>= _) _ _ s
  refine wpAny_bind (wpAny_field ho hd (x := .int i 0) rfl ?_)
  show wpAny _ _ (seqItems? (.ref t) >>= _) _ _ s
  refine wpAny_bind (wpAny_seqItems hol hdl ?_)
  simp only [Int.toNat_natCast, hx]
  refine wpAny_bind (wpAny_rule (wpAny_bind (wpAny_setField ho hd (by simp) ?_)))
  show wpAny _ _ (newExc (.type "StopIteration") [] >>= _) _ _ _
  refine wpAny_bind ?_
  simp only [newExc, newTuple]
  refine wpAny_bind (wpAny_newObj_type ?_ (by size_fits))
  refine wpAny_bind (m := firstArgMember _ _) (wpAny_of_eq (a := Value.none) (by first | rfl | (simp only [firstArgMember]; rfl)) ?_)
  refine wpAny_newObj_type ?_ (by size_fits)
  simp only [raiseNew]
  refine wpAny_bind (wpAny_handled ?_)
  first | rw [show A.in1.handled = none from hh] | rw [hh]
  refine wpAny_bind (wpAny_pure (wpAny_throw ?_))
  exact hE _ _ (((Heap.SameBut.update ..).extBut.push _).push _) ⟨_, Heap.get?_push_size _ rfl, rfl⟩
theorem drawsTuple (hh : A.handled = none) (it l : Addr) (hne : l ≠ it) (items : Array Value) :
    Draws prog w A it [it, l] items.size (fun i v => items[i]? = some v) (fun i h => h.IsTupleIter it l i ∧ h.IsTuple l items) where
  live := fun _ _ st => let ⟨o, ho, _⟩ := st.1; ⟨o, ho⟩
  frame := fun _ _ _ st hk => ⟨let ⟨o, e, r⟩ := st.1; ⟨o, hk it (by simp) o e, r⟩, let ⟨o, e, r⟩ := st.2; ⟨o, hk l (by simp) o e, r⟩⟩
  item := fun i s Q E hi st hQ => by
    refine nextOf_tuple_item st.1 st.2 (x := items[i]) (by simp [hi]) fun h' hit' hs' => ?_
    exact hQ _ h' s.toks (by simp [hi]) ⟨hit', st.2.extBut hs'.extBut hne⟩ hs'
  done := fun s Q E st hE => nextOf_tuple_end hh st.1 st.2 (by simp) hE
theorem meets_enumerate_newT (l : Addr) (items : Array Value) (n : Nat) (dct : Option Addr) (sl : Array (Option Value)) :
    Meets (Builtin.«enumerate.__new__» ⟨[.type "enumerate", .ref l], []⟩) (fun _ R s => s.heap.get? l = some { cls := .type "tuple", dict := dct, data := .seq items n, slots := sl } ∧
      R (.ok (.ret (.ref (s.heap.push { cls := .type "tuple_iterator", data := .fields #[.ref l, .int 0 0] }).objs.size)))
        { s with heap := (s.heap.push { cls := .type "tuple_iterator", data := .fields #[.ref l, .int 0 0] }).push { cls := .type "enumerate", data := .fields #[.none, .bool false, .ref s.heap.objs.size, rawInt 0, .none, .none] } }) :=
  .of_wp fun prog w A R s h => by
    obtain ⟨hp, g, d, tk, os⟩ := s; obtain ⟨hl, h⟩ := h
    have hsub := sub_enumerate
    have hL : Heap.IsTuple (Shared.heap ⟨hp, g, d, tk, os⟩) l items := ⟨_, hl, rfl, n, rfl⟩
    wp_walk using AutoSeq1.wpAny_loadPart' hl
    refine wpAny_stack_any fun st => wpAny_pure ?_
    split
    · rename_i c _ _ _ _ _
      cases (c == Value.type "enumerate")
      · wp_walk using AutoSeq1.wpAny_loadPart' hl, wpAny_pyIter_tuple hL
        exact ⟨_, rfl, h⟩
      · wp_walk using AutoSeq1.wpAny_loadPart' hl, wpAny_pyIter_tuple hL
        exact ⟨_, rfl, h⟩
    · wp_walk using AutoSeq1.wpAny_loadPart' hl, wpAny_pyIter_tuple hL
      exact ⟨_, rfl, h⟩
theorem call_enumerate_tuple {l : Addr} {items : Array Value} {Q : Value → Shared → Prop} (hL : s.heap.IsTuple l items)
    (h : Q (.ref (s.heap.objs.size + 1)) { s with heap := (s.heap.push { cls := .type "tuple_iterator", data := .fields #[.ref l, .int 0 0] }).push { cls := .type "enumerate", data := .fields #[.none, .bool false, .ref s.heap.objs.size, rawInt 0, .none, .none] } }) :
    wpAny (model prog w) A (call (.type "enumerate") [.ref l]) Q E s := by
  obtain ⟨⟨c, dct, dt, sl⟩, hl, hc, n, hd⟩ := hL
  replace hc : c = .type "tuple" := hc
  replace hd : dt = .seq items n := hd
  subst hc hd
  refine callType_new F.called_enumerate (by decide) (F.typeCall_enumerate_1 _) (F.newCall_enumerate_1 _) (fun obj => F.args_object_init_2 obj _) F.entry_enumerate_new
    (meets_enumerate_newT l items n dct sl) ⟨hl, ?_⟩
  have hz : (s.heap.push { cls := .type "tuple_iterator", data := .fields #[.ref l, .int 0 0] }).objs.size = s.heap.objs.size + 1 := Heap.size_push ..
  show _ ∧ _
  rw [hz]
  have he := Heap.get?_push_size (s.heap.push { cls := .type "tuple_iterator", data := .fields #[.ref l, .int 0 0] })
      (o := { cls := .type "enumerate", data := .fields #[.none, .bool false, .ref s.heap.objs.size, rawInt 0, .none, .none] }) rfl
  rw [hz] at he
  exact ⟨⟨_, he, rfl⟩, h⟩
end
end Mine
namespace Mine
section
variable {w : World} {B : Heap} {M : Addr → Prop} {h₀ : Heap} {I₀ I : Im} {L : Addr} {m : Str → Option Value} {h : Heap} {g : Array GenState} {d : Drawn} {t : Nat} {o : OsState} {A : Around} {E : Value → Shared → Prop} {env : Env}
theorem gen_all2 {c P : Addr} {a : Addr} {vs : List Value} {elt iter : Expr} {xa xb : Str} {pa pb pt pos : Pos} {kt : Nat} {scope : Scope} {cl : List (Str × Addr)} {Q : Value → Shared → Prop} (tr : Nat → Bool)
    (k : Ok w B I h g) (hP : Mt P) (hh : ∀ h', (K w).In h' → CodeHd h' c P) (hcode : env.code = .ref c) (hl : (pos.line, pos.col) = tline P) (hg : env.globals = mainGlobals)
    (hA : A.handled = none) (hroom : A.depth < recursionLimit) (ht : Tup I a vs)
    (hco : scope.isCoroutine = false) (hclos : closureFor scope env = pure cl) (hcell : ∀ y ∈ scope.names, y.2 ≠ .cell) (h0 : scope.names.lookup (Str.ofString ".0") = some NameKind.local) (hxa : scope.names.lookup xa = some .local) (hxb : scope.names.lookup xb = some .local) (hab : xa ≠ xb) (hkind : scope.kind = .function)
    (hs : ∀ x, genFold iter env x = pure x)
    (hv : ∀ Q' : Value → Shared → Prop, wpAny (model PR w) A (call (.type "enumerate") [.ref a]) Q' E ⟨h, g, d, t, o⟩ → wpAny (model PR w) A (eval iter env) Q' E ⟨h, g, d, t, o⟩)
    (helt : ∀ (A' : Around) E' (i : Nat) v u (s₂ : Shared) C code m₂, A'.handled = none → vs[i]? = some v → Ok w B I s₂.heap #[] → s₂.heap.Ns C m₂ → m₂ xa = some (.int (i : Int) u) → m₂ xb = some v →
      wpAny (model PR w) A' (eval elt (genEnv scope cl C code builtinsNs env)) (fun y s₃ => y = .bool (tr i) ∧ Keeps s₂ s₃) E' s₂)
    (hq : ∀ ga s₅, (∀ Q E, (∀ h' g' t', Ok w B I h' g' → Grow Mt h I h' I → Q (.bool ((List.range vs.length).all tr)) ⟨h', g', d, t', o⟩) → wpAny (model PR w) A (call (.builtin "all") [.ref ga]) Q E s₅) → Q (.ref ga) s₅) :
    wpAny (model PR w) A (eval (.GeneratorExp elt [⟨.Tuple [.Name xa pa, .Name xb pb] kt pt, iter, [], 0⟩] scope pos) env) Q E ⟨h, g, d, t, o⟩ := by
  have tt := ht.is k
  have hal : a < h.objs.size := let ⟨_, e⟩ := ht; Heap.lt_size (k.sub _ _ e)
  have nIt : I h.objs.size = none := k.none_size
  have hzi : (h.push { cls := .type "tuple_iterator", data := .fields #[.ref a, .int 0 0] }).objs.size = h.objs.size + 1 := Heap.size_push _ _
  have k1 := k.push { cls := .type "tuple_iterator", data := .fields #[.ref a, .int 0 0] }
  have k2 := k1.push { cls := .type "enumerate", data := .fields #[.none, .bool false, .ref h.objs.size, rawInt 0, .none, .none] }
  have G2 := (Grow.push Mt h I { cls := .type "tuple_iterator", data := .fields #[.ref a, .int 0 0] }).trans (Grow.push Mt _ I { cls := .type "enumerate", data := .fields #[.none, .bool false, .ref h.objs.size, rawInt 0, .none, .none] })
  have nE : I (h.objs.size + 1) = none := by have := k1.none_size; rw [hzi] at this; exact this
  have W := fun (A' : Around) (hA' : A'.handled = none) => (WalksT.enumerateD (drawsTuple (prog := PR) (w := w) (A := A'.in1) hA' h.objs.size a (Nat.ne_of_lt hal) vs.toArray) (h.objs.size + 1) (Nat.succ_ne_self _)
    (by simp only [List.mem_cons, List.not_mem_nil, or_false, not_or]; exact ⟨Nat.succ_ne_self _, fun q => Nat.lt_irrefl _ (Nat.lt_of_succ_lt (q ▸ hal : h.objs.size + 1 < h.objs.size))⟩) (by simp)).toU
  have eIt2 : ((h.push { cls := .type "tuple_iterator", data := .fields #[.ref a, .int 0 0] }).push { cls := .type "enumerate", data := .fields #[.none, .bool false, .ref h.objs.size, rawInt 0, .none, .none] }).get? h.objs.size = some { cls := .type "tuple_iterator", data := .fields #[.ref a, .int 0 0] } :=
    Heap.get?_push_of_some _ (Heap.get?_push_size _ rfl)
  have eEn2 : ((h.push { cls := .type "tuple_iterator", data := .fields #[.ref a, .int 0 0] }).push { cls := .type "enumerate", data := .fields #[.none, .bool false, .ref h.objs.size, rawInt 0, .none, .none] }).get? (h.objs.size + 1) = some { cls := .type "enumerate", data := .fields #[.none, .bool false, .ref h.objs.size, rawInt 0, .none, .none] } := by
    have := Heap.get?_push_size (h.push { cls := .type "tuple_iterator", data := .fields #[.ref a, .int 0 0] }) (o := { cls := .type "enumerate", data := .fields #[.none, .bool false, .ref h.objs.size, rawInt 0, .none, .none] }) rfl
    rw [hzi] at this; exact this
  refine wpAny_GeneratorExp_walksQT hA hco hclos hcell h0 hxa hxb hab hkind hroom (hv _ (call_enumerate_tuple tt ?_)) hs
  dsimp only
  refine (W A hA).self 0 _ _ _ ⟨⟨_, eEn2⟩, ⟨_, eIt2, rfl, rfl⟩, ht.is k2⟩ ⟨k2.lim, ?_⟩
  refine gen_code k2 hP (hh _ k2.X) hcode hl fun c' h3 t3 k3 G3 hs3 => ?_
  obtain ⟨bm, Bm⟩ := bmods w
  obtain ⟨ob, hob, oc, od, odt⟩ := Bm.ob
  obtain ⟨_, _, mg, mb, T⟩ := k3.T
  refine wpAny_builtinsFor (m := mg) (by rw [hg]; exact T.g) (mg_of k3.X T.g Bm.nm) Bm.ne (k3.X _ _ hob) oc od odt ?_
  have hsz : ((h.push { cls := .type "tuple_iterator", data := .fields #[.ref a, .int 0 0] }).push { cls := .type "enumerate", data := .fields #[.none, .bool false, .ref h.objs.size, rawInt 0, .none, .none] }).objs.size = h.objs.size + 2 := by rw [Heap.size_push, hzi]
  rw [hsz] at hs3
  obtain ⟨b1, b2⟩ := k.below
  have nPI : ¬ Mt h.objs.size := fun q => by
    rcases q with q | q
    · rw [q] at b1; exact Nat.lt_irrefl _ b1
    · rw [q] at b2; exact Nat.lt_irrefl _ b2
  have nPE : ¬ Mt (h.objs.size + 1) := fun q => by
    rcases q with q | q
    · rw [← q] at b1; exact Nat.lt_irrefl _ (Nat.lt_of_succ_lt b1)
    · rw [← q] at b2; exact Nat.lt_irrefl _ (Nat.lt_of_succ_lt b2)
  have eIt : h3.get? h.objs.size = some { cls := .type "tuple_iterator", data := .fields #[.ref a, .int 0 0] } := G3.kp _ _ nPI eIt2
  have eEn : h3.get? (h.objs.size + 1) = some { cls := .type "enumerate", data := .fields #[.none, .bool false, .ref h.objs.size, rawInt 0, .none, .none] } := G3.kp _ _ nPE eEn2
  have tt3 := ht.is k3
  refine ⟨h.objs.size + 1, _, _, _, _, _, _, fun _ => true, fun i y => y = .bool (tr i), rfl, W, (fun i vals hv => by obtain ⟨t, x, _, e'⟩ := hv; exact ⟨_, _, e'⟩), ⟨⟨_, eEn⟩, ⟨_, eIt, rfl, rfl⟩, tt3⟩, ?_, k3.lim, ?_, ?_, ?_⟩
  · intro b hb
    simp only [List.mem_cons, List.not_mem_nil, or_false] at hb
    have h1 : h.objs.size + 1 < h3.objs.size := hs3
    have h2 : h.objs.size < h3.objs.size := Nat.lt_of_succ_lt h1
    rcases hb with rfl | rfl | rfl
    · exact h1
    · exact h2
    · exact Nat.lt_trans hal h2
  · intro hb
    simp only [List.mem_cons, List.not_mem_nil, or_false] at hb
    obtain ⟨_, hn, _⟩ := k.lim
    have hlt := hn.lt
    rcases hb with q | q
    · rw [q] at hlt; exact Nat.lt_irrefl _ (Nat.lt_of_succ_lt hlt)
    · rw [q] at hlt; exact Nat.lt_irrefl _ hlt
  · intro href hkeep
    have back : ∀ (s₂ : Shared), (∀ b ∈ List.range h3.objs.size, b ∉ [h.objs.size + 1, h.objs.size] → ∀ o, href.get? b = some o → s₂.heap.get? b = some o) → Ok w B I s₂.heap #[] := by
      intro s₂ hb
      have kk : ∀ b q, b ≠ h.objs.size + 1 → b ≠ h.objs.size → h3.get? b = some q → s₂.heap.get? b = some q := fun b q hne hne' e => hb b (List.mem_range.mpr (Heap.lt_size e)) (by simp [hne, hne']) q (hkeep b q e)
      exact { k3 with
        sub := fun b q e => kk b q (fun z => by subst z; rw [nE] at e; cases e) (fun z => by subst z; rw [nIt] at e; cases e) (k3.sub b q e)
        t1 := k3.t1.at fun q e => kk _ q (fun z => nPE (.inl z.symm)) (fun z => nPI (.inl z.symm)) e
        t2 := k3.t2.at fun q e => kk _ q (fun z => nPE (.inr z.symm)) (fun z => nPI (.inr z.symm)) e
        bare := .empty }
    refine ⟨fun A' E' i va vb s₂ m₂ _ _ _ _ _ _ => ?_, fun A' E' i va vb s₂ m₂ hA' hp _ hns hm hm' hb => ?_⟩
    · rw [List.forIn_nil]
      exact wpAny_pure ⟨rfl, ⟨s₂.heap, s₂.toks, rfl, fun _ _ e => e⟩⟩
    · obtain ⟨u, x, hx, e'⟩ := hp
      obtain ⟨e1, e2⟩ : va = .int i u ∧ vb = x := by simpa using congrArg Array.toList e'
      subst e1 e2
      exact helt A' E' i vb u s₂ _ _ m₂ hA' (by simpa using hx) (back s₂ hb) hns hm hm'
  · intro ga h5 tk gs hgb hag hsz5 hk5 W5 hat
    refine hq ga _ fun Q E hfin => ?_
    have W6 := W5.in4_1
    refine call_all_walkS (W6.self 0 _ _ _ hat ⟨ga, _, _, _, _, _, _, tr, rfl, W6, hat, ?_, fun s' hm => ?_⟩)
    · rintro i v s Q E ⟨i', hi', rfl⟩ hq'
      rw [passing_all] at hi'
      have : i' = i := by
        obtain ⟨hl', e⟩ := List.getElem?_eq_some_iff.mp hi'
        simpa using e.symm
      subst this
      exact wpAny_truthy_bool hq'
    · rw [passing_all, List.length_range, List.size_toArray]
      obtain ⟨h6, g6, d6, t6, o6⟩ := s'
      have e1 : d6 = d := hm.drawn
      have e2 : o6 = o := hm.os
      subst e1 e2
      have kk : ∀ b q, b ≠ h.objs.size + 1 → b ≠ h.objs.size → h3.get? b = some q → h6.get? b = some q := fun b q hne hne' e => by
        refine hm.heap b q (fun z => ?_) (hk5 b q e)
        rcases List.mem_cons.mp z with z | z
        · exact absurd (Heap.lt_size e) (z ▸ Nat.lt_irrefl _)
        · simp only [List.mem_cons, List.not_mem_nil, or_false] at z
          rcases z with z | z
          · exact hne z
          · exact hne' z
      have k6 : Ok w B I h6 g := { k3 with
        sub := fun b q e => kk b q (fun z => by subst z; rw [nE] at e; cases e) (fun z => by subst z; rw [nIt] at e; cases e) (k3.sub b q e)
        t1 := k3.t1.at fun q e => kk _ q (fun z => nPE (.inl z.symm)) (fun z => nPI (.inl z.symm)) e
        t2 := k3.t2.at fun q e => kk _ q (fun z => nPE (.inr z.symm)) (fun z => nPI (.inr z.symm)) e }
      refine hfin _ _ _ (k6.gens ?_) ?_
      · have b1 : AllBare (g.push gs) := k.bare.push hgb
        exact b1.moved hm.gens
      · have G := G2.trans G3
        have ne : ∀ b q, h.get? b = some q → b ≠ h.objs.size + 1 ∧ b ≠ h.objs.size := fun b q e => ⟨Nat.ne_of_lt (Nat.lt_succ_of_lt (Heap.lt_size e)), Nat.ne_of_lt (Heap.lt_size e)⟩
        exact ⟨.refl I, fun b q e => let ⟨q', e'⟩ := G.ex b q e; ⟨q', kk b q' (ne b q e).1 (ne b q e).2 e'⟩, fun _ _ _ _ _ e => e, fun b q hn e => kk b q (ne b q e).1 (ne b q e).2 (G.kp b q hn e)⟩
end
end Mine
namespace Mine
/-! making objects -/
theorem typeCall_tuple_0 : checkTypeCall "tuple" ⟨[], []⟩ = pure () := by kernel_rfl
theorem newCall_tuple_0 : checkBuiltinCall "tuple.__new__" ⟨[.type "tuple"], []⟩ = pure () := by kernel_rfl
theorem meets_tuple_new_0 : Meets (Builtin.«tuple.__new__» ⟨[.type "tuple"], []⟩)
      (fun _ R s => R (.ok (.ret (.ref s.heap.objs.size))) { s with heap := s.heap.push { cls := .type "tuple", data := .seq #[] } }) :=
  .of_wp fun prog w A R s h => by
    obtain ⟨hp, g, d, tk, os⟩ := s
    have hsub := sub_tuple_self
    have hinit := init_tuple_lookup
    have hmh := madeHere_tuple
    wp_walk
    exact ⟨_, rfl, h⟩
abbrev attrNames : List Str := [n_sort_order, n_args, n_isliteral, n_iscanonical, n_obj, n_operator, n_identity, n_annihilator]
structure Cls (w : World) (C : Addr) : Prop where
  st : findIn (K w) (.ref C) (Str.ofString "__setattr__") = some (some (.builtin "object.__setattr__"))
  po : plainOver (K w) C = true
  hd : (clsIn (K w) C).any (·.hasDict) = true
  tk : ∀ n ∈ attrNames, takerIn (K w) C n = some none
theorem cls_sym (w : World) : Cls w 335 := ⟨by kernel_rfl, by kernel_rfl, by kernel_rfl, by simp only [List.mem_cons, List.not_mem_nil, or_false]; rintro n (rfl | rfl | rfl | rfl | rfl | rfl | rfl | rfl) <;> kernel_rfl⟩
theorem cls_not (w : World) : Cls w 431 := ⟨by kernel_rfl, by kernel_rfl, by kernel_rfl, by simp only [List.mem_cons, List.not_mem_nil, or_false]; rintro n (rfl | rfl | rfl | rfl | rfl | rfl | rfl | rfl) <;> kernel_rfl⟩
theorem cls_and (w : World) : Cls w 554 := ⟨by kernel_rfl, by kernel_rfl, by kernel_rfl, by simp only [List.mem_cons, List.not_mem_nil, or_false]; rintro n (rfl | rfl | rfl | rfl | rfl | rfl | rfl | rfl) <;> kernel_rfl⟩
theorem cls_or (w : World) : Cls w 603 := ⟨by kernel_rfl, by kernel_rfl, by kernel_rfl, by simp only [List.mem_cons, List.not_mem_nil, or_false]; rintro n (rfl | rfl | rfl | rfl | rfl | rfl | rfl | rfl) <;> kernel_rfl⟩
section
variable {w : World} {B : Heap} {M : Addr → Prop} {h₀ : Heap} {I₀ I : Im} {L : Addr} {m : Str → Option Value} {h : Heap} {g : Array GenState} {d : Drawn} {t : Nat} {o : OsState} {A : Around} {E : Value → Shared → Prop} {env : Env}
theorem call_tuple_0 {Q : Value → Shared → Prop} (S : St w B M h₀ I₀ L m I h g)
    (hq : ∀ h' I' D, St w B M h₀ I₀ L m I' h' g → Ext h I h' I' → Tup I' D [] → Q (.ref D) ⟨h', g, d, t, o⟩) : wpAny (model PR w) A (call (.type "tuple") []) Q E ⟨h, g, d, t, o⟩ := by
  refine callType_new F.called_tuple (by decide) typeCall_tuple_0 newCall_tuple_0 (fun obj => F.args_object_init_1 obj) F.entry_tuple_new meets_tuple_new_0 ?_
  exact ⟨⟨_, Heap.get?_push_size _ rfl, rfl⟩, hq _ _ _ (S.new _ rfl) (Ext.grown (fun _ _ e => Heap.get?_push_of_some _ e) S.ok.none_size) ⟨_, Im.up_self⟩⟩
theorem is_inst {v : Value} {a Cv C' : Addr} {lv : List (Str × Value)} {g' : Array GenState} {Q : Value → Shared → Prop} (k : Ok w B I h g) (hv : v = .ref a) (x : IsI I a Cv lv) (e : isIn (K w) (.ref Cv) C' = true) (hq : Q (.bool true) ⟨h, g', d, t, o⟩) :
    wpAny (model PR w) A (call (.builtin "isinstance") [v, .ref C']) Q E ⟨h, g', d, t, o⟩ := by
  subst hv
  obtain ⟨ox, od, i, D⟩ := x.inst k
  exact isi_call (s := ⟨h, g', d, t, o⟩) k.X (fun M => i.type) e (by intro q; cases q) hq
/-- an object that is being made: x, with its dict at dx -/
structure Und (I : Im) (h : Heap) (x dx C : Addr) (l : List (Str × Value)) : Prop where
  hx : I x = some (instObj C dx)
  nI : I dx = none
  od : ∃ od, h.get? dx = some od ∧ DIs od l
theorem Und.ext {h' : Heap} {I' : Im} {x dx C : Addr} {l : List (Str × Value)} (U : Und I h x dx C l) (G : Ext h I h' I') : Und I' h' x dx C l := by
  obtain ⟨od, e, D⟩ := U.od
  exact ⟨G.le _ _ U.hx, by
    cases q : I' dx with
    | none => rfl
    | some o' => (have := G.fresh dx od o' id e q; rw [U.nI] at this; cases this), od, G.kp _ _ id e, D⟩
theorem Und.keep {h' : Heap} {I' : Im} {x dx C : Addr} {l : List (Str × Value)} (U : Und I h x dx C l) (G : Grow M h I h' I') (nM : ¬ M dx) : Und I' h' x dx C l := by
  obtain ⟨od, e, D⟩ := U.od
  exact ⟨G.le _ _ U.hx, by
    cases q : I' dx with
    | none => rfl
    | some o' => (have := G.fresh dx od o' nM e q; rw [U.nI] at this; cases this), od, G.kp _ _ nM e, D⟩
theorem Und.nMt {x dx C : Addr} {l : List (Str × Value)} (U : Und I h x dx C l) (k : Ok w B I h g) : ¬ Mt dx := by
  obtain ⟨od, e, D⟩ := U.od
  obtain ⟨es, n, rfl, _⟩ := D
  rintro (q | q)
  · exact k.ne1 e (by intro q; cases q) q
  · exact k.ne2 e (by intro q; cases q) q
theorem St.mono {M' : Addr → Prop} (S : St w B M h₀ I₀ L m I h g) (hM : ∀ a, M a → M' a) : St w B M' h₀ I₀ L m I h g := ⟨S.ok, S.G.mono hM, S.ns, S.nL, S.off, S.low⟩
abbrev Md (dx : Addr) (a : Addr) : Prop := Mt a ∨ a = dx
theorem St.afterD {dx : Addr} {h' : Heap} {I' : Im} {g' : Array GenState} (S : St w B (Md dx) h₀ I₀ L m I h g) (h0 : ∃ q, h₀.get? dx = some q) (k : Ok w B I' h' g') (G : Grow (Md dx) h I h' I') : St w B (Md dx) h₀ I₀ L m I' h' g' :=
  S.called k G (fun _ z => .inl z) fun z => by
    rcases z with (z | z) | z
    · exact S.ne.1 z
    · exact S.ne.2 z
    · obtain ⟨q, e⟩ := h0; rw [← z, S.off] at e; cases e
/-- a bound method is called -/
theorem meth_call {qa f : Addr} {self : Value} {vs : List Value} {s : Shared} {Q : Value → Shared → Prop} (hb : s.heap.get? qa = some (methodObj (.ref f) self))
    (hq : codeAny (model PR w) A (.call (.ref f) ⟨self :: vs, []⟩) (fun r s' => match r with | .ok (.ret v) => Q v s' | .ok _ => False | .error e => E e s') s) : wpAny (model PR w) A (call (.ref qa) vs) Q E s :=
  wpAny_call (ks_codeAny_call_bound (a := ⟨vs, []⟩) hb hq)
theorem cwM {qa f : Addr} {self : Value} {e : Expr} {rest : List Expr} {pos : Pos} {s : Shared} {Q : Value → Shared → Prop} (hf : fnIn (K w) f = true)
    (hq : wpAny (model PR w) A (spliced (backTo pos (starEach (e :: rest) env))) (fun vs s₁ => MethP (K w) qa f self s₁.heap ∧ wpAny (model PR w) A (call (.ref qa) vs) Q E s₁) E s)
    (he : starEach (e :: rest) env = (false, eval e env) :: starEach rest env) (hplain : (backTo pos (starEach rest env)).any (·.1) = false) :
    wpAny (model PR w) A (callWith pos (.ref qa) [] (backTo pos (starEach (e :: rest) env)) []) Q E s := by
  rw [he] at hq ⊢
  exact callWith_of (by show ((false || (backTo pos (starEach rest env)).any (·.1)) || false) = false; rw [hplain]; rfl) (keeps_M hf) (evalArgs_plain hq)
theorem cwMs {qa f : Addr} {self : Value} {e : Expr} {rest : List Expr} {pos : Pos} {s : Shared} {Q : Value → Shared → Prop} (hf : fnIn (K w) f = true)
    (hq : wpAny (model PR w) A (spliced (backTo pos (starEach (e :: rest) env))) (fun vs s₁ => MethP (K w) qa f self s₁.heap ∧ wpAny (model PR w) A (call (.ref qa) vs) Q E s₁) E s)
    (he : starEach (e :: rest) env = (false, eval e env) :: starEach rest env) (hst : (backTo pos (starEach rest env)).any (·.1) = true) :
    wpAny (model PR w) A (callWith pos (.ref qa) [] (backTo pos (starEach (e :: rest) env)) []) Q E s := by
  rw [he] at hq ⊢
  exact ks_call (by show (false || (backTo pos (starEach rest env)).any (·.1)) = true; rw [hst]; rfl) (keeps_M hf) (evalArgs_plain hq)
/-- «*x», x a tuple or a list that stands -/
theorem star_tup {a : Addr} {vs : List Value} {Q : List Value → Shared → Prop} (S : St w B M h₀ I₀ L m I h g) (ht : Tup I a vs) (hz : vs.length ≤ 1000000)
    (hq : ∀ h', St w B M h₀ I₀ L m I h' g → (∀ b q, h.get? b = some q → h'.get? b = some q) → Q vs ⟨h', g, d, t, o⟩) : StarOf (model PR w) A E (.ref a) Q ⟨h, g, d, t, o⟩ := by
  obtain ⟨n, e⟩ := ht
  have e' := S.ok.sub _ _ e
  have hT : Shared.TypeIs ⟨h, g, d, t, o⟩ (.ref a) "tuple" := ⟨_, e', rfl⟩
  unfold StarOf notIterableAtAll
  refine wpAny_bind (wpAny_specialOf hT PySem.F.slot_tuple_iter.lookup (wpAny_pure ⟨rfl, ?_⟩))
  exact wpAny_collect_seq a (.inr rfl) e' rfl rfl (fun h' hk => hq h' (S.grown hk) hk) (by rw [List.size_toArray]; exact Nat.le_trans hz sizeLine_big)
theorem star_lst {a : Addr} {vs : List Value} {Q : List Value → Shared → Prop} (S : St w B M h₀ I₀ L m I h g) (ht : Lst I a vs) (hz : vs.length ≤ 1000000)
    (hq : ∀ h', St w B M h₀ I₀ L m I h' g → (∀ b q, h.get? b = some q → h'.get? b = some q) → Q vs ⟨h', g, d, t, o⟩) : StarOf (model PR w) A E (.ref a) Q ⟨h, g, d, t, o⟩ := by
  obtain ⟨n, e⟩ := ht
  have e' := S.ok.sub _ _ e
  have hT : Shared.TypeIs ⟨h, g, d, t, o⟩ (.ref a) "list" := ⟨_, e', rfl⟩
  unfold StarOf notIterableAtAll
  refine wpAny_bind (wpAny_specialOf hT PySem.F.slot_list_iter.lookup (wpAny_pure ⟨rfl, ?_⟩))
  exact wpAny_collect_seq a (.inl rfl) e' rfl rfl (fun h' hk => hq h' (S.grown hk) hk) (by rw [List.size_toArray]; exact Nat.le_trans hz sizeLine_big)
theorem setf {N : Nat} {x dx C : Addr} {l : List (Str × Value)} {n : Str} {v : Value} {Q : Unit → Shared → Prop} (S : St w B M h₀ I₀ L m I h g) (hM : M dx) (h0 : ∃ q, h₀.get? dx = some q) (U : Und I h x dx C l) (hz : l.length ≤ N) (hN : N ≤ 500) (c : Cls w C) (hn : n ∈ attrNames)
    (hq : ∀ h' t', St w B M h₀ I₀ L m I h' g → Und I h' x dx C (upd l n v) → (upd l n v).length ≤ N + 1 → Q () ⟨h', g, d, t', o⟩) : wpAny (model PR w) A (setAttr (.ref x) n v) Q E ⟨h, g, d, t, o⟩ := by
  obtain ⟨od, e, D⟩ := U.od
  have nL : dx ≠ L := by rintro rfl; obtain ⟨q, z⟩ := h0; rw [S.off] at z; cases z
  have nm := U.nMt S.ok
  refine set_at S.ok (S.ok.sub _ _ U.hx) e D (Nat.le_trans hz hN) c.st c.po (c.tk n hn) c.hd fun h' od' t' e' D' kk => ?_
  exact hq h' t' (S.movedM dx kk U.nI (fun q => nm (.inl q)) (fun q => nm (.inr q)) nL hM ⟨_, e'⟩) ⟨U.hx, U.nI, od', e', D'⟩ (Nat.le_trans (upd_len _ _ _) (Nat.succ_le_succ hz))
end
end Mine
namespace Mine
local macro_rules | `(tactic| walk_at "lk") => `(tactic| first | assumption | exact lk_hd (by decide +kernel) | exact lk_tl (by decide +kernel) (lk_hd (by decide +kernel)) | exact lk_tl (by decide +kernel) (lk_tl (by decide +kernel) (lk_hd (by decide +kernel))) | exact lk_tl (by decide +kernel) (lk_tl (by decide +kernel) (lk_tl (by decide +kernel) (lk_hd (by decide +kernel)))) | exact lk_tl (by decide +kernel) (lk_tl (by decide +kernel) (lk_tl (by decide +kernel) (lk_tl (by decide +kernel) (lk_hd (by decide +kernel))))))
local macro_rules | `(tactic| walk_at "ok") => `(tactic| first | assumption | exact St.ok (by assumption))
local macro_rules | `(tactic| walk_at "nm") => `(tactic| refine nm_loc (by assumption) rfl (by kernel_rfl) (by walk_at "lk") (by kernel_rfl) ?_)
local macro_rules | `(tactic| walk_at "s0") => `(tactic| refine sub0 (by walk_at "ok") (by assumption) (by with_unfolding_all rfl) ?_)
local macro_rules | `(tactic| walk_at "s1") => `(tactic| refine sub1 (by walk_at "ok") (by assumption) (by with_unfolding_all rfl) ?_)
local macro_rules | `(tactic| walk_at "eqt") => `(tactic| refine eq_str_is true (by kernel_rfl) ?_)
local macro_rules | `(tactic| walk_at "eqf") => `(tactic| refine eq_str_is false (by kernel_rfl) ?_)
local macro_rules | `(tactic| walk_at "st") => `(tactic| first
  | ((with_reducible show wpAny _ _ (eval (Expr.Constant (Const.str _) _ _) _) _ _ _); refine c_str ?_)
  | ((with_reducible show wpAny _ _ (eval (Expr.Constant (Const.int _) _ _) _) _ _ _); refine c_int ?_)
  | ((with_reducible show wpAny _ _ (eval (Expr.Constant (Const.bool _) _ _) _) _ _ _); refine wpAny_Constant_bool ?_)
  | ((with_reducible show wpAny _ _ (eval (Expr.Subscript _ (Expr.Constant _ _ _) _) _) _ _ _); refine Subscript_ ?_)
  | ((with_reducible show wpAny _ _ (eval (Expr.Compare _ _ _ _) _) _ _ _); refine wpAny_Compare1 ?_)
  | ((with_reducible show wpAny _ _ (eval (Expr.IfExp _ _ _ _) _) _ _ _); refine IfExp_ ?_)
  | ((with_reducible show wpAny _ _ (eval (Expr.Tuple _ _ _) _) _ _ _); refine Tuple_ ?_)
  | ((with_reducible show wpAny _ _ (eval (Expr.List _ _) _) _ _ _); refine List_ ?_)
  | ((with_reducible show wpAny _ _ (eval (Expr.BinOp _ _ _ _) _) _ _ _); refine wpAny_BinOp ?_)
  | ((with_reducible show wpAny _ _ (eval (Expr.UnaryOp _ _ _) _) _ _ _); refine UnaryOp_ ?_)
  | ((with_reducible show wpAny _ _ (isTrue (Expr.Compare _ _ _ _) _ _) _ _ _); refine wpAny_isTrue_Compare1 ?_)
  | ((with_reducible show wpAny _ _ (isTrue (Expr.UnaryOp UnaryOp.Not _ _) _ _) _ _ _); refine isTrue_not ?_)
  | ((with_reducible show wpAny _ _ (isTrue (Expr.BoolOp BoolOp.And (_ :: _) _) _ _) _ _ _); refine isTrue_and ?_)
  | ((with_reducible show wpAny _ _ (isTrue (Expr.BoolOp BoolOp.Or (_ :: _) _) _ _) _ _ _); refine isTrue_or ?_)
  | ((with_reducible show wpAny _ _ (isTrue (Expr.Name _ _) _ _) _ _ _); refine isTrue_plain ?_)
  | ((with_reducible show wpAny _ _ (isTrue (Expr.Constant _ _ _) _ _) _ _ _); refine isTrue_plain ?_)
  | ((with_reducible show wpAny _ _ (isTrue (Expr.Call _ _ _ _) _ _) _ _ _); refine isTrue_plain ?_)
  | ((with_reducible show wpAny _ _ (isTrue (Expr.Attribute _ _ _) _ _) _ _ _); refine isTrue_plain ?_)
  | ((with_reducible show wpAny _ _ (unaryOp UnaryOp.Not _) _ _ _); refine not_of ?_)
  | ((with_reducible show wpAny _ _ (truthy (Value.bool _)) _ _ _); refine wpAny_truthy_bool ?_)
  | ((with_reducible show ite _ _ _); first | refine ite_t ?_ | refine ite_f ?_)
  | ((with_reducible show wpAny _ _ (execs (_ :: _) _) _ _ _); refine wpAny_execs_cons ?_)
  | ((with_reducible show wpAny _ _ (execs [] _) _ _ _); refine wpAny_execs_nil ?_)
  | ((with_reducible show wpAny _ _ (exec (Stmt.If _ _ _ _) _) _ _ _); refine wpAny_If ?_)
  | ((with_reducible show wpAny _ _ (exec (Stmt.Return (some _) _) _) _ _ _); refine wpAny_Return_some ?_)
  | ((with_reducible show wpAny _ _ (exec (Stmt.Assign [Expr.Attribute _ _ _] _ _) _) _ _ _); refine plainObj_wpAny_Assign_Attribute ?_)
  | ((with_reducible show wpAny _ _ (eval (Expr.Constant Const.none _ _) _) _ _ _); refine Constant_none ?_)
  | ((with_reducible show wpAny _ _ (spliced (backTo _ (starEach (_ :: _) _))) _ _ _); refine args_cons ?_)
  | ((with_reducible show wpAny _ _ (spliced (backTo _ (starEach [] _))) _ _ _); refine args_nil ?_))
local macro_rules | `(tactic| walk_at "sts") => `(tactic| repeat walk_at "st")
local macro_rules | `(tactic| walk_at "cw") => `(tactic| refine cw (by walk_at "ok") (by kernel_rfl) ?_ rfl rfl)
local macro_rules | `(tactic| walk_at "cwb") => `(tactic| refine cwb rfl ?_ rfl rfl)
local macro_rules | `(tactic| walk_at "mem") => `(tactic| simp [attrNames])

section
variable {w : World} {B : Heap} {M : Addr → Prop} {h₀ : Heap} {I₀ I : Im} {L : Addr} {m : Str → Option Value} {h : Heap} {g : Array GenState} {d : Drawn} {t : Nat} {o : OsState} {A : Around} {E : Value → Shared → Prop} {env : Env}
abbrev eAttrs (l : List (Str × Value)) (e : Addr) : List (Str × Value) := upd (upd (upd (upd l n_sort_order .none) n_args (.ref e)) n_isliteral (.bool false)) n_iscanonical (.bool false)
theorem einit_call {x dx C : Addr} {l : List (Str × Value)} {R : Result → Shared → Prop} (k : Ok w B I h g) (Rm : A.depth < recursionLimit) (U : Und I h x dx C l) (hz : l.length ≤ 100) (c : Cls w C)
    (hq : ∀ h' I' g' t' e, Ok w B I' h' g' → Grow (Md dx) h I h' I' → Und I' h' x dx C (eAttrs l e) → (eAttrs l e).length ≤ 104 → Tup I' e [] → R (.ok (.ret .none)) ⟨h', g', d, t', o⟩) :
    codeAny (model PR w) A (.call (.ref 35) ⟨[.ref x], []⟩) R ⟨h, g, d, t, o⟩ := by
  refine enterAt [(n_self, .ref x)] (fun _ => False) k rfl (by kernel_rfl) Rm (by kernel_rfl) (by kernel_rfl) (by kernel_rfl) rfl rfl rfl fun h₁ t₁ E' S0 => ?_
  refine wpAt_of_wpAny ?_
  have h0 : ∃ q, h.get? dx = some q := let ⟨od, e, _⟩ := U.od; ⟨od, e⟩
  have U1 := U.ext S0.G
  have S := S0.mono (M' := Md dx) fun _ z => z.elim
  have hM : Md dx dx := .inr rfl
  walk_at "sts"; walk_at "nm"; walk_at "sts"
  refine setf S hM h0 U1 hz (by decide) c (by walk_at "mem") fun h2 t2 S2 U2 z2 => ?_
  walk_at "sts"
  refine Call_ ?_
  refine nm_boot (v := .type "tuple") S2.ok rfl (by kernel_rfl) rfl rfl (by kernel_rfl) (by kernel_rfl) (by decide +kernel) (by kernel_rfl) ?_
  refine callWith_of (P := fun _ => True) rfl (fun h _ => ⟨.machine, .inr (.inl rfl), fun A Q E s k q => wpAny_of_eq rfl q⟩) (evalArgs_nil3 ⟨trivial, ?_⟩)
  refine call_tuple_0 S2 fun h3 I3 e S3 G3 he => ?_
  have U3 := U2.ext G3
  walk_at "sts"; walk_at "nm"; walk_at "sts"
  refine setf S3 hM h0 U3 z2 (by decide) c (by walk_at "mem") fun h4 t4 S4 U4 z4 => ?_
  walk_at "sts"; walk_at "nm"; walk_at "sts"
  refine setf S4 hM h0 U4 z4 (by decide) c (by walk_at "mem") fun h5 t5 S5 U5 z5 => ?_
  walk_at "sts"; walk_at "nm"; walk_at "sts"
  refine setf S5 hM h0 U5 z5 (by decide) c (by walk_at "mem") fun h6 t6 S6 U6 z6 => ?_
  walk_at "sts"
  exact hq _ _ _ _ _ S6.ok S6.G U6 z6 he
abbrev fAttrs (l : List (Str × Value)) (e a : Addr) : List (Str × Value) := upd (upd (eAttrs l e) n_operator .none) n_args (.ref a)
abbrev ExprV (w : World) (I : Im) (v : Value) : Prop := ∃ a Cv lv, v = .ref a ∧ IsI I a Cv lv ∧ isIn (K w) (.ref Cv) 133 = true ∧ plainGet (K w) Cv (Str.ofString "__class__") = true
theorem finit_call {x dx C : Addr} {l : List (Str × Value)} {args : List Value} {R : Result → Shared → Prop} {cdC : ClassData} (k : Ok w B I h g) (Rm : Room A 3) (U : Und I h x dx C l) (hz : l.length ≤ 100) (c : Cls w C)
    (hC : clsIn (K w) C = some cdC) (hsub : mroIn (K w) C (.ref 363) = some true) (hm : ks_superIn (K w) C 363 n___init__ = some (some (.ref 35)))
    (hargs : ∀ v ∈ args, ExprV w I v) (hlen : args.length = 1 ∨ args.length = 2 ∨ args.length = 3)
    (hq : ∀ h' I' g' t' e a, Ok w B I' h' g' → Grow (Md dx) h I h' I' → Und I' h' x dx C (fAttrs l e a) → (fAttrs l e a).length ≤ 106 → Tup I' a args → R (.ok (.ret .none)) ⟨h', g', d, t', o⟩) :
    codeAny (model PR w) A (.call (.ref 353) ⟨.ref x :: args, []⟩) R ⟨h, g, d, t, o⟩ := by
  refine enterV [(n_self, .ref x)] n_args (fun _ => False) k rfl (by kernel_rfl) Rm.d (rest := args) (by
    rcases args with _ | ⟨a, _ | ⟨b, _ | ⟨c, _ | _⟩⟩⟩ <;> first | (exfalso; simp at hlen; done) | kernel_rfl) (by omega) (by kernel_rfl) (by kernel_rfl) (by kernel_rfl) rfl rfl rfl fun h₁ t₁ E' I₁ S0 hle ht => ?_
  have h0 : ∃ q, h.get? dx = some q := let ⟨od, e, _⟩ := U.od; ⟨od, e⟩
  have U1 := U.ext S0.G
  have S := S0.mono (M' := Md dx) fun _ z => z.elim
  have hM : Md dx dx := .inr rfl
  refine sup_stmt (x := x) (C := C) (D := 363) (dx := dx) (by kernel_rfl) S U1.hx rfl rfl (by walk_at "lk") rfl rfl (by kernel_rfl) rfl rfl hC hsub (by kernel_rfl) (by kernel_rfl) (by kernel_rfl) (by kernel_rfl) (by kernel_rfl) rfl (by kernel_rfl) (by kernel_rfl) (by kernel_rfl) hm (by kernel_rfl) rfl rfl _ (.inl rfl)
    fun qa h2 I2 t2 S2 G2 hqa hqI => ?_
  have U2 := U1.ext G2
  refine callWith_M0 (K := K w) (g := 35) (self := .ref x) ⟨hqa, S2.ok.X⟩ (by kernel_rfl) ?_
  refine meth_call hqa (einit_call S2.ok (Rm.deeper _).d U2 hz c fun h3 I3 g3 t3 e3 k3 G3 U3 z3 he3 => ?_)
  have S3 := S2.afterD h0 k3 G3
  show wpAny _ _ _ _ _ _
  walk_at "sts"; walk_at "nm"; walk_at "sts"
  refine setf S3 hM h0 U3 z3 (by decide) c (by walk_at "mem") fun h4 t4 S4 U4 z4 => ?_
  refine wpAny_execs_cons (wpAny_Assert_msg_new Rm.hh (isTrue_plain (Call_ ?_)))
  refine nm_boot (v := .builtin "all") S4.ok rfl (by kernel_rfl) rfl rfl (by kernel_rfl) (by kernel_rfl) (by decide +kernel) (by kernel_rfl) ?_
  walk_at "cwb"; walk_at "sts"
  have ht4 : Tup I3 h.objs.size args := (ht.le G2.le).le G3.le
  have hle4 : Le I I3 := (S0.G.le.trans G2.le).trans G3.le
  refine gen_all (c := 352) (P := P1) (cl := []) (fun _ => true) S4.ok (.inl rfl) (fun h' X => ⟨_, _, _, _, _, _, _, _, _, X _ _ rfl, rfl, rfl, rfl, rfl, rfl, rfl, rfl, rfl, by decide⟩) rfl rfl rfl Rm.hh (Rm.deeper _).d ht4 rfl rfl (by decide) (by kernel_rfl) (by kernel_rfl) rfl (fun _ => rfl)
    (fun Q' hq' => by walk_at "nm"; exact hq') (fun A' E' i v s₂ C2 code m₂ hA' hv' k' hns hm' => ?_) fun ga s₅ hfin => ?_
  · obtain ⟨h2', g2', d2', t2', o2'⟩ := s₂
    refine Call_ ?_
    refine nm_boot (v := .builtin "isinstance") k' rfl (by kernel_rfl) rfl rfl (by kernel_rfl) (by kernel_rfl) (by decide +kernel) (by kernel_rfl) ?_
    walk_at "cwb"; walk_at "sts"
    refine wpAny_Name (wpAny_loadName_local rfl (by kernel_rfl) hns hm' ?_)
    walk_at "sts"
    refine nm_glob (v := .ref 133) k' rfl (by kernel_rfl) rfl (by kernel_rfl) (by kernel_rfl) ?_
    walk_at "sts"
    obtain ⟨av, Cv, lv, e1, e2, e3, _⟩ := hargs v (List.mem_of_getElem? hv')
    exact is_inst k' e1 (e2.le hle4) e3 ⟨rfl, h2', _, rfl, fun _ _ e => e⟩
  · walk_at "sts"
    refine hfin _ _ fun h5 g5 t5 k5 G5 => ?_
    rw [show (List.range args.length).all (fun _ => true) = true by simp]
    walk_at "sts"
    have S5 := S4.afterD h0 k5 (G5.mono fun _ z => .inl z)
    have U5 := U4.keep G5 (U4.nMt S4.ok)
    refine Call_ ?_
    refine nm_boot (v := .type "tuple") S5.ok rfl (by kernel_rfl) rfl rfl (by kernel_rfl) (by kernel_rfl) (by decide +kernel) (by kernel_rfl) ?_
    walk_at "cwb"; walk_at "sts"; walk_at "nm"; walk_at "sts"
    refine tup_of_tup S5.ok ht4 ?_
    walk_at "nm"; walk_at "sts"
    refine setf S5 hM h0 U5 z4 (by decide) c (by walk_at "mem") fun h6 t6 S6 U6 z6 => ?_
    walk_at "sts"
    exact hq _ _ _ _ _ _ S6.ok S6.G U6 z6 ht4
end
end Mine
namespace Mine
/-! expressions in the heap -/
abbrev lSym (u : Tok) (e : Addr) (x : Str) (tk : Tok) : List (Str × Value) := [(n_sort_order, .int 5 u), (n_args, .ref e), (n_isliteral, .bool true), (n_iscanonical, .bool true), (n_obj, .str x tk)]
abbrev lNot (e : Addr) (b : Bool) (tk : Tok) : List (Str × Value) := [(n_sort_order, .none), (n_args, .ref e), (n_isliteral, .bool b), (n_iscanonical, .bool false), (n_operator, .str (Str.ofString "~") tk)]
abbrev opc (k : Bool) : Addr := if k then 603 else 554
abbrev opn (k : Bool) : Int := if k then 25 else 10
abbrev opo (k : Bool) : Str := if k then Str.ofString "|" else Str.ofString "&"
abbrev cona (k : Bool) : Addr := if k then 275 else 279
abbrev conc (k : Bool) : Addr := if k then 223 else 271
abbrev lOp (k : Bool) (u : Tok) (e : Addr) (tk : Tok) : List (Str × Value) :=
  [(n_sort_order, .int (opn k) u), (n_args, .ref e), (n_isliteral, .bool false), (n_iscanonical, .bool false), (n_operator, .str (opo k) tk), (n_identity, .ref (cona (!k))), (n_annihilator, .ref (cona k))]
def T.isSym : T → Bool | .sym _ => true | _ => false
def T.isNot : T → Bool | .not _ => true | _ => false
def T.cls : T → Addr | .sym _ => 335 | .con b => conc b | .not _ => 431 | .op2 k _ _ => opc k | .op3 k _ _ _ => opc k
def EIn (I : Im) : T → Value → Prop
  | .sym x, v => ∃ a u e tk, v = .ref a ∧ IsI I a 335 (lSym u e x tk) ∧ Tup I e []
  | .con b, v => v = .ref (cona b)
  | .not t, v => ∃ a e tk u, v = .ref a ∧ IsI I a 431 (lNot e t.isSym tk) ∧ Tup I e [u] ∧ EIn I t u
  | .op2 k x y, v => ∃ a e u tk u1 u2, v = .ref a ∧ IsI I a (opc k) (lOp k u e tk) ∧ Tup I e [u1, u2] ∧ EIn I x u1 ∧ EIn I y u2
  | .op3 k x y z, v => ∃ a e u tk u1 u2 u3, v = .ref a ∧ IsI I a (opc k) (lOp k u e tk) ∧ Tup I e [u1, u2, u3] ∧ EIn I x u1 ∧ EIn I y u2 ∧ EIn I z u3
theorem EIn.le {I J : Im} (hl : Le I J) : ∀ {t : T} {v : Value}, EIn I t v → EIn J t v := by
  intro t
  induction t with
  | sym x => rintro v ⟨a, u, e, tk, rfl, h, h'⟩; exact ⟨a, u, e, tk, rfl, h.le hl, h'.le hl⟩
  | con b => exact fun h => h
  | not t ih => rintro v ⟨a, e, tk, u, rfl, h, h', x⟩; exact ⟨a, e, tk, u, rfl, h.le hl, h'.le hl, ih x⟩
  | op2 k x y ix iy => rintro v ⟨a, e, u, tk, u1, u2, rfl, h, h', x1, x2⟩; exact ⟨a, e, u, tk, u1, u2, rfl, h.le hl, h'.le hl, ix x1, iy x2⟩
  | op3 k x y z ix iy iz => rintro v ⟨a, e, u, tk, u1, u2, u3, rfl, h, h', x1, x2, x3⟩; exact ⟨a, e, u, tk, u1, u2, u3, rfl, h.le hl, h'.le hl, ix x1, iy x2, iz x3⟩
theorem EIn.op {I : Im} {t : T} {k : Bool} {ts : List T} {v : Value} (ho : t.op = some (k, ts)) (x : EIn I t v) : ∃ a e u tk us, v = .ref a ∧ IsI I a (opc k) (lOp k u e tk) ∧ Tup I e us ∧ Each (EIn I) ts us := by
  cases t with
  | op2 k' a b =>
    simp only [T.op, Option.some.injEq, Prod.mk.injEq] at ho
    obtain ⟨rfl, rfl⟩ := ho
    obtain ⟨a, e, u, tk, u1, u2, rfl, h, h', x1, x2⟩ := x
    exact ⟨a, e, u, tk, _, rfl, h, h', .cons x1 (.cons x2 .nil)⟩
  | op3 k' a b c =>
    simp only [T.op, Option.some.injEq, Prod.mk.injEq] at ho
    obtain ⟨rfl, rfl⟩ := ho
    obtain ⟨a, e, u, tk, u1, u2, u3, rfl, h, h', x1, x2, x3⟩ := x
    exact ⟨a, e, u, tk, _, rfl, h, h', .cons x1 (.cons x2 (.cons x3 .nil))⟩
  | _ => cases ho
theorem EIn.mk {I : Im} {t : T} {k : Bool} {ts : List T} {a e : Addr} {u tk : Tok} {us : List Value} (ho : t.op = some (k, ts)) (h : IsI I a (opc k) (lOp k u e tk)) (h' : Tup I e us) (x : Each (EIn I) ts us) : EIn I t (.ref a) := by
  cases t with
  | op2 k' a b =>
    simp only [T.op, Option.some.injEq, Prod.mk.injEq] at ho
    obtain ⟨rfl, rfl⟩ := ho
    obtain ⟨u1, r1, rfl, x1, e⟩ := x.hd
    obtain ⟨u2, r2, rfl, x2, e⟩ := e.hd
    cases e.done
    exact ⟨_, _, u, tk, u1, u2, rfl, h, h', x1, x2⟩
  | op3 k' a b c =>
    simp only [T.op, Option.some.injEq, Prod.mk.injEq] at ho
    obtain ⟨rfl, rfl⟩ := ho
    obtain ⟨u1, r1, rfl, x1, e⟩ := x.hd
    obtain ⟨u2, r2, rfl, x2, e⟩ := e.hd
    obtain ⟨u3, r3, rfl, x3, e⟩ := e.hd
    cases e.done
    exact ⟨_, _, u, tk, u1, u2, u3, rfl, h, h', x1, x2, x3⟩
  | _ => cases ho
theorem T.op_cls {t : T} {k : Bool} {ts : List T} (ho : t.op = some (k, ts)) : t.cls = opc k := by
  cases t <;> simp only [T.op, Option.some.injEq, Prod.mk.injEq, reduceCtorEq] at ho
  · obtain ⟨rfl, rfl⟩ := ho; rfl
  · obtain ⟨rfl, rfl⟩ := ho; rfl

theorem DIs.inj {o : Obj} {l l' : List (Str × Value)} (D : DIs o l) (D' : DIs o l') : l = l' := by
  obtain ⟨es, n, rfl, h⟩ := D
  obtain ⟨es', n', e, h'⟩ := D'
  have : es' = es := by cases e; rfl
  subst this
  rw [h] at h'
  have inj : Function.Injective (fun p : Str × Value => (some p.1, p.2)) := fun p q e => by cases p; cases q; cases e; rfl
  exact List.map_inj_right (fun _ _ e => inj e) |>.mp h'
theorem IsI.inj {I : Im} {a C C' : Addr} {l l' : List (Str × Value)} (x : IsI I a C l) (y : IsI I a C' l') : C = C' ∧ l = l' := by
  obtain ⟨dx, od, e1, e2, D⟩ := x.ex
  obtain ⟨dx', od', e1', e2', D'⟩ := y.ex
  rw [e1] at e1'; cases e1'
  rw [e2] at e2'; cases e2'
  exact ⟨rfl, D.inj D'⟩
theorem Tup.inj {I : Im} {a : Addr} {l l' : List Value} (x : Tup I a l) (y : Tup I a l') : l = l' := by
  obtain ⟨n, e⟩ := x
  obtain ⟨n', e'⟩ := y
  rw [e] at e'
  have := Option.some.inj e'
  injection this with _ _ h
  injection h with h1 _
  simpa using congrArg Array.toList h1
theorem opc_inj {k k' : Bool} (e : opc k = opc k') : k = k' := by cases k <;> cases k' <;> first | rfl | (exfalso; revert e; decide)

section
variable {w : World} {B : Heap} {I : Im} {h : Heap} {g : Array GenState}
abbrev lCon (b : Bool) (u : Tok) : List (Str × Value) := [(n_args, .ref (if b then 277 else 281)), (n_isliteral, .bool false), (n_sort_order, .int 0 u), (n_iscanonical, .bool true)]
theorem conI (k : Ok w B I h g) (b : Bool) : ∃ u, IsI I (cona b) (conc b) (lCon b u) ∧ Tup I (if b then 277 else 281) [] := by
  have X := k.top.X
  cases b with
  | true => exact ⟨_, ⟨⟨_, _, k.base _ _ (X _ _ rfl), k.base _ _ (X _ _ rfl), _, _, rfl, rfl⟩⟩, _, k.base _ _ (X _ _ rfl)⟩
  | false => exact ⟨_, ⟨⟨_, _, k.base _ _ (X _ _ rfl), k.base _ _ (X _ _ rfl), _, _, rfl, rfl⟩⟩, _, k.base _ _ (X _ _ rfl)⟩
theorem EIn.isI (k : Ok w B I h g) {t : T} {v : Value} (x : EIn I t v) : ∃ a l, v = .ref a ∧ IsI I a t.cls l := by
  cases t with
  | sym x' => obtain ⟨a, u, e, tk, rfl, h, h'⟩ := x; exact ⟨_, _, rfl, h⟩
  | con b => obtain ⟨u, h, _⟩ := conI k b; cases (show v = .ref (cona b) from x); exact ⟨_, _, rfl, h⟩
  | not t => obtain ⟨a, e, tk, u, rfl, h, h', x⟩ := x; exact ⟨_, _, rfl, h⟩
  | op2 k x y => obtain ⟨a, e, u, tk, u1, u2, rfl, h, h', x1, x2⟩ := x; exact ⟨_, _, rfl, h⟩
  | op3 k x y z => obtain ⟨a, e, u, tk, u1, u2, u3, rfl, h, h', x1, x2, x3⟩ := x; exact ⟨_, _, rfl, h⟩
theorem EIn.det (k : Ok w B I h g) : ∀ {t t' : T} {v : Value}, EIn I t v → EIn I t' v → t = t' := by
  intro t
  induction t with
  | sym x =>
    rintro t' v ⟨a, u, e, tk, rfl, h, h'⟩ y
    obtain ⟨a', l', ea, y'⟩ := y.isI k
    cases ea
    have hc := (h.inj y').1
    cases t' with
    | sym x' =>
      obtain ⟨a2, u2, e2, tk2, e3, h2, h2'⟩ := y
      cases e3
      have := (h.inj h2).2
      simp only [lSym, List.cons.injEq, Prod.mk.injEq, Value.str.injEq, true_and, and_true] at this
      rw [this.2.2.1]
    | con b => cases b <;> exact absurd hc (by simp [T.cls, conc, opc])
    | not t => exact absurd hc (by simp [T.cls, conc, opc])
    | op2 b _ _ => cases b <;> exact absurd hc (by simp [T.cls, conc, opc])
    | op3 b _ _ _ => cases b <;> exact absurd hc (by simp [T.cls, conc, opc])
  | con b =>
    intro t' v x y
    obtain ⟨a', l', ea, y'⟩ := y.isI k
    cases (show v = .ref (cona b) from x)
    cases ea
    obtain ⟨u, h, _⟩ := conI k b
    have hc := (h.inj y').1
    cases t' with
    | con b' => 
      have e := (show Value.ref (cona b) = .ref (cona b') from y)
      cases b <;> cases b' <;> first | rfl | (exfalso; injection e with e; revert e; decide)
    | sym _ => cases b <;> exact absurd hc (by simp [T.cls, conc, opc])
    | not t => cases b <;> exact absurd hc (by simp [T.cls, conc, opc])
    | op2 b' _ _ => cases b <;> cases b' <;> exact absurd hc (by simp [T.cls, conc, opc])
    | op3 b' _ _ _ => cases b <;> cases b' <;> exact absurd hc (by simp [T.cls, conc, opc])
  | not t ih =>
    rintro t' v ⟨a, e, tk, u, rfl, h, h', x⟩ y
    obtain ⟨a', l', ea, y'⟩ := y.isI k
    cases ea
    have hc := (h.inj y').1
    cases t' with
    | not t2 =>
      obtain ⟨a2, e2, tk2, u2, e3, h2, h2', x2⟩ := y
      cases e3
      have := (h.inj h2).2
      simp only [lNot, List.cons.injEq, Prod.mk.injEq, Value.ref.injEq, true_and, and_true] at this
      obtain ⟨rfl, _⟩ := this
      cases h'.inj h2'
      rw [ih x x2]
    | sym _ => exact absurd hc (by simp [T.cls, conc, opc])
    | con b => cases b <;> exact absurd hc (by simp [T.cls, conc, opc])
    | op2 b' _ _ => cases b' <;> exact absurd hc (by simp [T.cls, conc, opc])
    | op3 b' _ _ _ => cases b' <;> exact absurd hc (by simp [T.cls, conc, opc])
  | op2 kk x1 y1 ix iy =>
    rintro t' v ⟨a, e, u, tk, u1, u2, rfl, h, h', ex, ey⟩ y
    obtain ⟨a', l', ea, y'⟩ := y.isI k
    cases ea
    have hc := (h.inj y').1
    cases t' with
    | op2 kk' x2 y2 =>
      obtain ⟨a2, e2, u', tk', u1', u2', e3, h2, h2', ex2, ey2⟩ := y
      cases e3
      cases opc_inj hc
      have := (h.inj h2).2
      simp only [lOp, List.cons.injEq, Prod.mk.injEq, Value.ref.injEq, true_and, and_true] at this
      obtain ⟨_, rfl, _⟩ := this
      cases h'.inj h2'
      rw [ix ex ex2, iy ey ey2]
    | op3 kk' x2 y2 z2 =>
      obtain ⟨a2, e2, u', tk', u1', u2', u3', e3, h2, h2', ex2, ey2, ez2⟩ := y
      cases e3
      cases opc_inj hc
      have := (h.inj h2).2
      simp only [lOp, List.cons.injEq, Prod.mk.injEq, Value.ref.injEq, true_and, and_true] at this
      obtain ⟨_, rfl, _⟩ := this
      have z := h'.inj h2'
      simp at z
    | sym _ => cases kk <;> exact absurd hc (by simp [T.cls, conc, opc])
    | con b => cases kk <;> cases b <;> exact absurd hc (by simp [T.cls, conc, opc])
    | not _ => cases kk <;> exact absurd hc (by simp [T.cls, conc, opc])
  | op3 kk x1 y1 z1 ix iy iz =>
    rintro t' v ⟨a, e, u, tk, u1, u2, u3, rfl, h, h', ex, ey, ez⟩ y
    obtain ⟨a', l', ea, y'⟩ := y.isI k
    cases ea
    have hc := (h.inj y').1
    cases t' with
    | op3 kk' x2 y2 z2 =>
      obtain ⟨a2, e2, u', tk', u1', u2', u3', e3, h2, h2', ex2, ey2, ez2⟩ := y
      cases e3
      cases opc_inj hc
      have := (h.inj h2).2
      simp only [lOp, List.cons.injEq, Prod.mk.injEq, Value.ref.injEq, true_and, and_true] at this
      obtain ⟨_, rfl, _⟩ := this
      cases h'.inj h2'
      rw [ix ex ex2, iy ey ey2, iz ez ez2]
    | op2 kk' x2 y2 =>
      obtain ⟨a2, e2, u', tk', u1', u2', e3, h2, h2', ex2, ey2⟩ := y
      cases e3
      cases opc_inj hc
      have := (h.inj h2).2
      simp only [lOp, List.cons.injEq, Prod.mk.injEq, Value.ref.injEq, true_and, and_true] at this
      obtain ⟨_, rfl, _⟩ := this
      have z := h'.inj h2'
      simp at z
    | sym _ => cases kk <;> exact absurd hc (by simp [T.cls, conc, opc])
    | con b => cases kk <;> cases b <;> exact absurd hc (by simp [T.cls, conc, opc])
    | not _ => cases kk <;> exact absurd hc (by simp [T.cls, conc, opc])
end
end Mine
namespace Mine
local macro_rules | `(tactic| walk_at "lk") => `(tactic| first | assumption | exact lk_hd (by decide +kernel) | exact lk_tl (by decide +kernel) (lk_hd (by decide +kernel)) | exact lk_tl (by decide +kernel) (lk_tl (by decide +kernel) (lk_hd (by decide +kernel))) | exact lk_tl (by decide +kernel) (lk_tl (by decide +kernel) (lk_tl (by decide +kernel) (lk_hd (by decide +kernel)))) | exact lk_tl (by decide +kernel) (lk_tl (by decide +kernel) (lk_tl (by decide +kernel) (lk_tl (by decide +kernel) (lk_hd (by decide +kernel))))))
local macro_rules | `(tactic| walk_at "ok") => `(tactic| first | assumption | exact St.ok (by assumption))
local macro_rules | `(tactic| walk_at "nm") => `(tactic| refine nm_loc (by assumption) rfl (by kernel_rfl) (by walk_at "lk") (by kernel_rfl) ?_)
local macro_rules | `(tactic| walk_at "s0") => `(tactic| refine sub0 (by walk_at "ok") (by assumption) (by with_unfolding_all rfl) ?_)
local macro_rules | `(tactic| walk_at "s1") => `(tactic| refine sub1 (by walk_at "ok") (by assumption) (by with_unfolding_all rfl) ?_)
local macro_rules | `(tactic| walk_at "eqt") => `(tactic| refine eq_str_is true (by kernel_rfl) ?_)
local macro_rules | `(tactic| walk_at "eqf") => `(tactic| refine eq_str_is false (by kernel_rfl) ?_)
local macro_rules | `(tactic| walk_at "st") => `(tactic| first
  | ((with_reducible show wpAny _ _ (eval (Expr.Constant (Const.str _) _ _) _) _ _ _); refine c_str ?_)
  | ((with_reducible show wpAny _ _ (eval (Expr.Constant (Const.int _) _ _) _) _ _ _); refine c_int ?_)
  | ((with_reducible show wpAny _ _ (eval (Expr.Constant (Const.bool _) _ _) _) _ _ _); refine wpAny_Constant_bool ?_)
  | ((with_reducible show wpAny _ _ (eval (Expr.Subscript _ (Expr.Constant _ _ _) _) _) _ _ _); refine Subscript_ ?_)
  | ((with_reducible show wpAny _ _ (eval (Expr.Compare _ _ _ _) _) _ _ _); refine wpAny_Compare1 ?_)
  | ((with_reducible show wpAny _ _ (eval (Expr.IfExp _ _ _ _) _) _ _ _); refine IfExp_ ?_)
  | ((with_reducible show wpAny _ _ (eval (Expr.Tuple _ _ _) _) _ _ _); refine Tuple_ ?_)
  | ((with_reducible show wpAny _ _ (eval (Expr.List _ _) _) _ _ _); refine List_ ?_)
  | ((with_reducible show wpAny _ _ (eval (Expr.BinOp _ _ _ _) _) _ _ _); refine wpAny_BinOp ?_)
  | ((with_reducible show wpAny _ _ (eval (Expr.UnaryOp _ _ _) _) _ _ _); refine UnaryOp_ ?_)
  | ((with_reducible show wpAny _ _ (isTrue (Expr.Compare _ _ _ _) _ _) _ _ _); refine wpAny_isTrue_Compare1 ?_)
  | ((with_reducible show wpAny _ _ (isTrue (Expr.UnaryOp UnaryOp.Not _ _) _ _) _ _ _); refine isTrue_not ?_)
  | ((with_reducible show wpAny _ _ (isTrue (Expr.BoolOp BoolOp.And (_ :: _) _) _ _) _ _ _); refine isTrue_and ?_)
  | ((with_reducible show wpAny _ _ (isTrue (Expr.BoolOp BoolOp.Or (_ :: _) _) _ _) _ _ _); refine isTrue_or ?_)
  | ((with_reducible show wpAny _ _ (isTrue (Expr.Name _ _) _ _) _ _ _); refine isTrue_plain ?_)
  | ((with_reducible show wpAny _ _ (isTrue (Expr.Constant _ _ _) _ _) _ _ _); refine isTrue_plain ?_)
  | ((with_reducible show wpAny _ _ (isTrue (Expr.Call _ _ _ _) _ _) _ _ _); refine isTrue_plain ?_)
  | ((with_reducible show wpAny _ _ (isTrue (Expr.Attribute _ _ _) _ _) _ _ _); refine isTrue_plain ?_)
  | ((with_reducible show wpAny _ _ (unaryOp UnaryOp.Not _) _ _ _); refine not_of ?_)
  | ((with_reducible show wpAny _ _ (truthy (Value.bool _)) _ _ _); refine wpAny_truthy_bool ?_)
  | ((with_reducible show ite _ _ _); first | refine ite_t ?_ | refine ite_f ?_)
  | ((with_reducible show wpAny _ _ (execs (_ :: _) _) _ _ _); refine wpAny_execs_cons ?_)
  | ((with_reducible show wpAny _ _ (execs [] _) _ _ _); refine wpAny_execs_nil ?_)
  | ((with_reducible show wpAny _ _ (exec (Stmt.If _ _ _ _) _) _ _ _); refine wpAny_If ?_)
  | ((with_reducible show wpAny _ _ (exec (Stmt.Return (some _) _) _) _ _ _); refine wpAny_Return_some ?_)
  | ((with_reducible show wpAny _ _ (exec (Stmt.Assign [Expr.Attribute _ _ _] _ _) _) _ _ _); refine plainObj_wpAny_Assign_Attribute ?_)
  | ((with_reducible show wpAny _ _ (eval (Expr.Constant Const.none _ _) _) _ _ _); refine Constant_none ?_)
  | ((with_reducible show wpAny _ _ (spliced (backTo _ (starEach (_ :: _) _))) _ _ _); refine args_cons ?_)
  | ((with_reducible show wpAny _ _ (spliced (backTo _ (starEach [] _))) _ _ _); refine args_nil ?_))
local macro_rules | `(tactic| walk_at "sts") => `(tactic| repeat walk_at "st")
local macro_rules | `(tactic| walk_at "cw") => `(tactic| refine cw (by walk_at "ok") (by kernel_rfl) ?_ rfl rfl)
local macro_rules | `(tactic| walk_at "cwb") => `(tactic| refine cwb rfl ?_ rfl rfl)
local macro_rules | `(tactic| walk_at "mem") => `(tactic| simp [attrNames])

section
variable {w : World} {B : Heap} {M : Addr → Prop} {h₀ : Heap} {I₀ I : Im} {L : Addr} {m : Str → Option Value} {h : Heap} {g : Array GenState} {d : Drawn} {t : Nat} {o : OsState} {A : Around} {E : Value → Shared → Prop} {env : Env}
theorem newWeight (C : Addr) (rest : List Value) : (Code.builtin "type.__call__" ⟨.ref C :: rest, []⟩).weight = 1 := by kernel_rfl
theorem newUnits (C : Addr) (rest : List Value) : (Code.builtin "type.__call__" ⟨.ref C :: rest, []⟩).cUnits = 1 := by kernel_rfl
theorem Room.new {n : Nat} (r : Room A (n + 1)) (C : Addr) (rest : List Value) : Room (A.under (.builtin "type.__call__" ⟨.ref C :: rest, []⟩)) n := by
  obtain ⟨hh, ⟨l, hl⟩, hd, hu⟩ := r
  refine ⟨hh, ⟨_, by unfold Around.under; rw [hl]; rfl⟩, ?_, ?_⟩
  · show A.depth + (Code.builtin "type.__call__" ⟨.ref C :: rest, []⟩).weight + 3 * n < _
    rw [newWeight]; omega
  · show A.units + (Code.builtin "type.__call__" ⟨.ref C :: rest, []⟩).cUnits + 12 * n < _
    rw [newUnits]; omega
/-- a class is called -/
theorem make_call {C init : Addr} {args : List Value} {Q : Value → Shared → Prop} {n : Nat} (P : Im → List (Str × Value) → Prop) (hP : ∀ I J l, Le I J → P I l → P J l) (k : Ok w B I h g) (Rm : Room A (n + 1)) (hmk : makesIn (K w) C = true) (hi : findIn (K w) (.ref C) (Str.ofString "__init__") = some (some (.ref init))) (hf : typeIn (K w) (.ref init) = some (.type "function"))
    (hinit : ∀ A' I' h2 x dx R, Room A' n → Ok w B I' h2 g → Le I I' → Und I' h2 x dx C [] → (∀ h' I'' g' t' l, Ok w B I'' h' g' → Grow (Md dx) h2 I' h' I'' → Und I'' h' x dx C l → P I'' l → R (.ok (.ret .none)) ⟨h', g', d, t', o⟩) →
      codeAny (model PR w) A' (.call (.ref init) ⟨.ref x :: args, []⟩) R ⟨h2, g, d, t, o⟩)
    (hq : ∀ x h' I' g' t' l, Ok w B I' h' g' → Grow Mt h I h' I' → IsI I' x C l → P I' l → Q (.ref x) ⟨h', g', d, t', o⟩) :
    wpAny (model PR w) A (call (.ref C) args) Q E ⟨h, g, d, t, o⟩ := by
  refine wpAny_call (make_core (makes_of k.X hmk) (looks_findIn k.X hi) (fun self => bind_fn k.X self hf) (.inl rfl) ?_)
  have hz : (h.push emptyDict).objs.size = h.objs.size + 1 := Heap.size_push _ _
  have k1 := k.push emptyDict
  have k2 := k1.push (instObj C h.objs.size)
  have ed : ((h.push emptyDict).push (instObj C h.objs.size)).get? h.objs.size = some emptyDict := Heap.get?_push_of_some _ (Heap.get?_push_size _ rfl)
  have ex : ((h.push emptyDict).push (instObj C h.objs.size)).get? (h.objs.size + 1) = some (instObj C h.objs.size) := by
    have := Heap.get?_push_size (h.push emptyDict) (o := instObj C h.objs.size) rfl
    rw [hz] at this; exact this
  have nx : I (h.objs.size + 1) = none := by have := k1.none_size; rw [hz] at this; exact this
  obtain ⟨b1, b2⟩ := k.below
  have k3 := k2.freeze ex nx (fun q => by rw [← q] at b1; exact Nat.lt_irrefl _ (Nat.lt_of_succ_lt b1)) (fun q => by rw [← q] at b2; exact Nat.lt_irrefl _ (Nat.lt_of_succ_lt b2))
  have U : Und (I.up (h.objs.size + 1) (instObj C h.objs.size)) ((h.push emptyDict).push (instObj C h.objs.size)) (h.objs.size + 1) h.objs.size C [] :=
    ⟨Im.up_self, by rw [Im.up_ne (Nat.ne_of_lt (Nat.lt_succ_self _))]; exact k.none_size, _, ed, .empty⟩
  refine hinit _ _ _ _ _ _ (Rm.new C args) k3 (Le.up nx) U fun h' I'' g' t' l k4 G U' hp => ⟨rfl, ?_⟩
  obtain ⟨od, e, D⟩ := U'.od
  have nm := U'.nMt k4
  have k5 := k4.freeze e U'.nI (fun q => nm (.inl q)) (fun q => nm (.inr q))
  refine hq _ _ _ _ _ l k5 ⟨?_, ?_, ?_, ?_⟩ ⟨_, od, ?_, Im.up_self, D⟩ (hP _ _ _ (Le.up U'.nI) hp)
  · exact ((Le.up nx).trans G.le).trans (Le.up U'.nI)
  · exact fun a q ea => G.ex a q (Heap.get?_push_of_some _ (Heap.get?_push_of_some _ ea))
  · intro a q q' na ea e'
    have l1 := Heap.lt_size ea
    rw [Im.up_ne (Nat.ne_of_lt l1)] at e'
    have := G.fresh a q q' (fun z => z.elim na (Nat.ne_of_lt l1)) (Heap.get?_push_of_some _ (Heap.get?_push_of_some _ ea)) e'
    rw [Im.up_ne (Nat.ne_of_lt (Nat.lt_succ_of_lt l1))] at this
    exact this
  · exact fun a q na ea => G.kp a q (fun z => z.elim na (Nat.ne_of_lt (Heap.lt_size ea))) (Heap.get?_push_of_some _ (Heap.get?_push_of_some _ ea))
  · rw [Im.up_ne (fun q => by have := U'.hx; rw [q, U'.nI] at this; cases this)]; exact U'.hx
theorem at_und {x dx C : Addr} {l : List (Str × Value)} {n : Str} {v : Value} {ex : Bool} {Q : Value → Shared → Prop} (k : Ok w B I h g) (U : Und I h x dx C l) (hl : l.lookup n = some v)
    (hg : plainGet (K w) C n = true) (hh : hasDictIn (K w) C = true) (hn : findIn (K w) (.ref C) n = some none) (hv : handedIn v = true) (hq : Q v ⟨h, g, d, t + 1, o⟩) : wpAny (model PR w) A (getAttr (.ref x) n ex) Q E ⟨h, g, d, t, o⟩ := by
  obtain ⟨od, e, D⟩ := U.od
  refine get_value k.X (ox := instObj C dx) (od := some od) ⟨k.sub _ _ U.hx, rfl, rfl, e⟩ (plainGet_of hg).1 ?_ hv hq
  obtain ⟨cd, hc, hd⟩ := any_some hh
  unfold findObj
  rw [hc, Option.bind_some, hn]
  simp only [Option.bind_some, W.ownOf]
  rw [show cd.hasDict = true from hd, if_pos rfl, D.look, hl]
  rfl
/-- isinstance, told by the class -/
structure KitC (w : World) (D : Addr) : Prop where
  hg : plainGet (K w) D (Str.ofString "__class__") = true
  hd : hasDictIn (K w) D = true
  ha : findIn (K w) (.ref D) (Str.ofString "__class__") = some (some (.builtin "object.__class__"))
  hn : specialIn (K w) (.builtin "object.__class__") (Str.ofString "__get__") = some (some (.builtin "getset_descriptor.__get__"))
  ht : takesIn (K w) (.builtin "object.__class__") = some true
  hm : mroIn (K w) D (.type "object") = some true
theorem kits (w : World) (x : T) : KitC w x.cls := by
  cases x with
  | sym _ => exact ⟨by kernel_rfl, by kernel_rfl, by kernel_rfl, by kernel_rfl, by kernel_rfl, by kernel_rfl⟩
  | con b => cases b <;> exact ⟨by kernel_rfl, by kernel_rfl, by kernel_rfl, by kernel_rfl, by kernel_rfl, by kernel_rfl⟩
  | not _ => exact ⟨by kernel_rfl, by kernel_rfl, by kernel_rfl, by kernel_rfl, by kernel_rfl, by kernel_rfl⟩
  | op2 b _ _ => cases b <;> exact ⟨by kernel_rfl, by kernel_rfl, by kernel_rfl, by kernel_rfl, by kernel_rfl, by kernel_rfl⟩
  | op3 b _ _ _ => cases b <;> exact ⟨by kernel_rfl, by kernel_rfl, by kernel_rfl, by kernel_rfl, by kernel_rfl, by kernel_rfl⟩
theorem isi {v : Value} {x : T} {C : Addr} {b : Bool} {g' : Array GenState} {Q : Value → Shared → Prop} (k : Ok w B I h g) (hx : EIn I x v) (e : kitOne (K w) (.ref x.cls) (.ref C) = some b) (hq : ∀ t', Q (.bool b) ⟨h, g', d, t', o⟩) :
    wpAny (model PR w) A (call (.builtin "isinstance") [v, .ref C]) Q E ⟨h, g', d, t, o⟩ := by
  obtain ⟨a, l, rfl, ii⟩ := hx.isI k
  obtain ⟨ox, od, i, D⟩ := ii.inst k
  have kc := kits w x
  exact kia_one (s := ⟨h, g', d, t, o⟩) (kitx_own kc.hg kc.hd kc.ha kc.hn kc.ht kc.hm) k.X i e (by intro q; cases q) hq
theorem is_sym (w : World) (x : T) : kitOne (K w) (.ref x.cls) (.ref 335) = some x.isSym := by
  cases x with
  | sym _ => kernel_rfl
  | con b => cases b <;> kernel_rfl
  | not _ => kernel_rfl
  | op2 b _ _ => cases b <;> kernel_rfl
  | op3 b _ _ _ => cases b <;> kernel_rfl
theorem is_not (w : World) (x : T) : kitOne (K w) (.ref x.cls) (.ref 431) = some x.isNot := by
  cases x with
  | sym _ => kernel_rfl
  | con b => cases b <;> kernel_rfl
  | not _ => kernel_rfl
  | op2 b _ _ => cases b <;> kernel_rfl
  | op3 b _ _ _ => cases b <;> kernel_rfl
theorem EIn.expr (k : Ok w B I h g) {x : T} {v : Value} (hx : EIn I x v) : ExprV w I v := by
  obtain ⟨a, l, rfl, ii⟩ := hx.isI k
  refine ⟨a, _, l, rfl, ii, ?_, (kits w x).hg⟩
  cases x with
  | sym _ => kernel_rfl
  | con b => cases b <;> kernel_rfl
  | not _ => kernel_rfl
  | op2 b _ _ => cases b <;> kernel_rfl
  | op3 b _ _ _ => cases b <;> kernel_rfl
end
end Mine
namespace Mine
local macro_rules | `(tactic| walk_at "lk") => `(tactic| first | assumption | exact lk_hd (by decide +kernel) | exact lk_tl (by decide +kernel) (lk_hd (by decide +kernel)) | exact lk_tl (by decide +kernel) (lk_tl (by decide +kernel) (lk_hd (by decide +kernel))) | exact lk_tl (by decide +kernel) (lk_tl (by decide +kernel) (lk_tl (by decide +kernel) (lk_hd (by decide +kernel)))) | exact lk_tl (by decide +kernel) (lk_tl (by decide +kernel) (lk_tl (by decide +kernel) (lk_tl (by decide +kernel) (lk_hd (by decide +kernel))))))
local macro_rules | `(tactic| walk_at "ok") => `(tactic| first | assumption | exact St.ok (by assumption))
local macro_rules | `(tactic| walk_at "nm") => `(tactic| refine nm_loc (by assumption) rfl (by kernel_rfl) (by walk_at "lk") (by kernel_rfl) ?_)
local macro_rules | `(tactic| walk_at "s0") => `(tactic| refine sub0 (by walk_at "ok") (by assumption) (by with_unfolding_all rfl) ?_)
local macro_rules | `(tactic| walk_at "s1") => `(tactic| refine sub1 (by walk_at "ok") (by assumption) (by with_unfolding_all rfl) ?_)
local macro_rules | `(tactic| walk_at "eqt") => `(tactic| refine eq_str_is true (by kernel_rfl) ?_)
local macro_rules | `(tactic| walk_at "eqf") => `(tactic| refine eq_str_is false (by kernel_rfl) ?_)
local macro_rules | `(tactic| walk_at "st") => `(tactic| first
  | ((with_reducible show wpAny _ _ (eval (Expr.Constant (Const.str _) _ _) _) _ _ _); refine c_str ?_)
  | ((with_reducible show wpAny _ _ (eval (Expr.Constant (Const.int _) _ _) _) _ _ _); refine c_int ?_)
  | ((with_reducible show wpAny _ _ (eval (Expr.Constant (Const.bool _) _ _) _) _ _ _); refine wpAny_Constant_bool ?_)
  | ((with_reducible show wpAny _ _ (eval (Expr.Subscript _ (Expr.Constant _ _ _) _) _) _ _ _); refine Subscript_ ?_)
  | ((with_reducible show wpAny _ _ (eval (Expr.Compare _ _ _ _) _) _ _ _); refine wpAny_Compare1 ?_)
  | ((with_reducible show wpAny _ _ (eval (Expr.IfExp _ _ _ _) _) _ _ _); refine IfExp_ ?_)
  | ((with_reducible show wpAny _ _ (eval (Expr.Tuple _ _ _) _) _ _ _); refine Tuple_ ?_)
  | ((with_reducible show wpAny _ _ (eval (Expr.List _ _) _) _ _ _); refine List_ ?_)
  | ((with_reducible show wpAny _ _ (eval (Expr.BinOp _ _ _ _) _) _ _ _); refine wpAny_BinOp ?_)
  | ((with_reducible show wpAny _ _ (eval (Expr.UnaryOp _ _ _) _) _ _ _); refine UnaryOp_ ?_)
  | ((with_reducible show wpAny _ _ (isTrue (Expr.Compare _ _ _ _) _ _) _ _ _); refine wpAny_isTrue_Compare1 ?_)
  | ((with_reducible show wpAny _ _ (isTrue (Expr.UnaryOp UnaryOp.Not _ _) _ _) _ _ _); refine isTrue_not ?_)
  | ((with_reducible show wpAny _ _ (isTrue (Expr.BoolOp BoolOp.And (_ :: _) _) _ _) _ _ _); refine isTrue_and ?_)
  | ((with_reducible show wpAny _ _ (isTrue (Expr.BoolOp BoolOp.Or (_ :: _) _) _ _) _ _ _); refine isTrue_or ?_)
  | ((with_reducible show wpAny _ _ (isTrue (Expr.Name _ _) _ _) _ _ _); refine isTrue_plain ?_)
  | ((with_reducible show wpAny _ _ (isTrue (Expr.Constant _ _ _) _ _) _ _ _); refine isTrue_plain ?_)
  | ((with_reducible show wpAny _ _ (isTrue (Expr.Call _ _ _ _) _ _) _ _ _); refine isTrue_plain ?_)
  | ((with_reducible show wpAny _ _ (isTrue (Expr.Attribute _ _ _) _ _) _ _ _); refine isTrue_plain ?_)
  | ((with_reducible show wpAny _ _ (unaryOp UnaryOp.Not _) _ _ _); refine not_of ?_)
  | ((with_reducible show wpAny _ _ (truthy (Value.bool _)) _ _ _); refine wpAny_truthy_bool ?_)
  | ((with_reducible show ite _ _ _); first | refine ite_t ?_ | refine ite_f ?_)
  | ((with_reducible show wpAny _ _ (execs (_ :: _) _) _ _ _); refine wpAny_execs_cons ?_)
  | ((with_reducible show wpAny _ _ (execs [] _) _ _ _); refine wpAny_execs_nil ?_)
  | ((with_reducible show wpAny _ _ (exec (Stmt.If _ _ _ _) _) _ _ _); refine wpAny_If ?_)
  | ((with_reducible show wpAny _ _ (exec (Stmt.Return (some _) _) _) _ _ _); refine wpAny_Return_some ?_)
  | ((with_reducible show wpAny _ _ (exec (Stmt.Assign [Expr.Attribute _ _ _] _ _) _) _ _ _); refine plainObj_wpAny_Assign_Attribute ?_)
  | ((with_reducible show wpAny _ _ (eval (Expr.Constant Const.none _ _) _) _ _ _); refine Constant_none ?_)
  | ((with_reducible show wpAny _ _ (spliced (backTo _ (starEach (_ :: _) _))) _ _ _); refine args_cons ?_)
  | ((with_reducible show wpAny _ _ (spliced (backTo _ (starEach [] _))) _ _ _); refine args_nil ?_))
local macro_rules | `(tactic| walk_at "sts") => `(tactic| repeat walk_at "st")
local macro_rules | `(tactic| walk_at "cw") => `(tactic| refine cw (by walk_at "ok") (by kernel_rfl) ?_ rfl rfl)
local macro_rules | `(tactic| walk_at "cwb") => `(tactic| refine cwb rfl ?_ rfl rfl)
local macro_rules | `(tactic| walk_at "mem") => `(tactic| simp [attrNames])

section
variable {w : World} {B : Heap} {M : Addr → Prop} {h₀ : Heap} {I₀ I : Im} {L : Addr} {m : Str → Option Value} {h : Heap} {g : Array GenState} {d : Drawn} {t : Nat} {o : OsState} {A : Around} {E : Value → Shared → Prop} {env : Env}
theorem ninit_call {x dx : Addr} {y : T} {v : Value} {R : Result → Shared → Prop} (k : Ok w B I h g) (Rm : Room A 5) (U : Und I h x dx 431 []) (hy : EIn I y v)
    (hq : ∀ h' I' g' t' e tk, Ok w B I' h' g' → Grow (Md dx) h I h' I' → Und I' h' x dx 431 (lNot e y.isSym tk) → Tup I' e [v] → R (.ok (.ret .none)) ⟨h', g', d, t', o⟩) :
    codeAny (model PR w) A (.call (.ref 381) ⟨[.ref x, v], []⟩) R ⟨h, g, d, t, o⟩ := by
  have c := cls_not w
  refine enterAt [(n_arg1, v), (n_self, .ref x)] (fun _ => False) k rfl (by kernel_rfl) Rm.d (by kernel_rfl) (by kernel_rfl) (by kernel_rfl) rfl rfl rfl fun h₁ t₁ E' S0 => ?_
  have h0 : ∃ q, h.get? dx = some q := let ⟨od, e, _⟩ := U.od; ⟨od, e⟩
  have U1 := U.ext S0.G
  have S := S0.mono (M' := Md dx) fun _ z => z.elim
  have hM : Md dx dx := .inr rfl
  refine sup_stmt (x := x) (C := 431) (D := 431) (f2 := 353) (dx := dx) (by kernel_rfl) S U1.hx rfl rfl (by walk_at "lk") rfl rfl (by kernel_rfl) rfl rfl rfl (by kernel_rfl) (by kernel_rfl) (by kernel_rfl) (by kernel_rfl) (by kernel_rfl) (by kernel_rfl) rfl (by kernel_rfl) (by kernel_rfl) (by kernel_rfl) (by kernel_rfl) (by kernel_rfl) rfl rfl _ (.inl rfl)
    fun qa h2 I2 t2 S2 G2 hqa hqI => ?_
  have U2 := U1.ext G2
  refine cwM (self := .ref x) (f := 353) (by kernel_rfl) ?_ rfl rfl
  walk_at "sts"; walk_at "nm"; walk_at "sts"
  have hle2 : Le I I2 := S0.G.le.trans G2.le
  refine ⟨⟨hqa, S2.ok.X⟩, meth_call hqa (finit_call (cdC := _) S2.ok ((Rm.deeper _).le (by decide)) U2 (by decide) c rfl (by kernel_rfl) (by kernel_rfl) (fun u hu => ?_) (.inl rfl) fun h3 I3 g3 t3 e3 a3 k3 G3 U3 z3 ht3 => ?_)⟩
  · simp only [List.mem_cons, List.not_mem_nil, or_false] at hu
    subst hu; exact (hy.le hle2).expr S2.ok
  · have S3 := S2.afterD h0 k3 G3
    have hy3 : EIn I3 y v := hy.le (hle2.trans G3.le)
    show wpAny _ _ _ _ _ _
    walk_at "sts"
    refine Call_ ?_
    refine nm_boot (v := .builtin "isinstance") k3 rfl (by kernel_rfl) rfl rfl (by kernel_rfl) (by kernel_rfl) (by decide +kernel) (by kernel_rfl) ?_
    walk_at "cwb"; walk_at "sts"
    refine Attribute_Name_ ?_
    walk_at "nm"
    refine at_und (v := .ref a3) k3 U3 (by kernel_rfl) (by kernel_rfl) (by kernel_rfl) (by kernel_rfl) rfl ?_
    walk_at "sts"; walk_at "s0"; walk_at "sts"
    refine nm_glob (v := .ref 335) k3 rfl (by kernel_rfl) rfl (by kernel_rfl) (by kernel_rfl) ?_
    walk_at "sts"
    refine isi k3 hy3 (is_sym w y) fun t4 => ?_
    walk_at "nm"; walk_at "sts"
    refine setf S3 hM h0 U3 z3 (by decide) c (by walk_at "mem") fun h5 t5 S5 U5 z5 => ?_
    walk_at "sts"; walk_at "nm"; walk_at "sts"
    refine setf S5 hM h0 U5 z5 (by decide) c (by walk_at "mem") fun h6 t6 S6 U6 z6 => ?_
    walk_at "sts"
    exact hq _ _ _ _ _ _ S6.ok S6.G U6 ht3
end
end Mine
namespace Mine
local macro_rules | `(tactic| walk_at "lk") => `(tactic| first | assumption | exact lk_hd (by decide +kernel) | exact lk_tl (by decide +kernel) (lk_hd (by decide +kernel)) | exact lk_tl (by decide +kernel) (lk_tl (by decide +kernel) (lk_hd (by decide +kernel))) | exact lk_tl (by decide +kernel) (lk_tl (by decide +kernel) (lk_tl (by decide +kernel) (lk_hd (by decide +kernel)))) | exact lk_tl (by decide +kernel) (lk_tl (by decide +kernel) (lk_tl (by decide +kernel) (lk_tl (by decide +kernel) (lk_hd (by decide +kernel))))))
local macro_rules | `(tactic| walk_at "ok") => `(tactic| first | assumption | exact St.ok (by assumption))
local macro_rules | `(tactic| walk_at "nm") => `(tactic| refine nm_loc (by assumption) rfl (by kernel_rfl) (by walk_at "lk") (by kernel_rfl) ?_)
local macro_rules | `(tactic| walk_at "s0") => `(tactic| refine sub0 (by walk_at "ok") (by assumption) (by with_unfolding_all rfl) ?_)
local macro_rules | `(tactic| walk_at "s1") => `(tactic| refine sub1 (by walk_at "ok") (by assumption) (by with_unfolding_all rfl) ?_)
local macro_rules | `(tactic| walk_at "eqt") => `(tactic| refine eq_str_is true (by kernel_rfl) ?_)
local macro_rules | `(tactic| walk_at "eqf") => `(tactic| refine eq_str_is false (by kernel_rfl) ?_)
local macro_rules | `(tactic| walk_at "st") => `(tactic| first
  | ((with_reducible show wpAny _ _ (eval (Expr.Constant (Const.str _) _ _) _) _ _ _); refine c_str ?_)
  | ((with_reducible show wpAny _ _ (eval (Expr.Constant (Const.int _) _ _) _) _ _ _); refine c_int ?_)
  | ((with_reducible show wpAny _ _ (eval (Expr.Constant (Const.bool _) _ _) _) _ _ _); refine wpAny_Constant_bool ?_)
  | ((with_reducible show wpAny _ _ (eval (Expr.Subscript _ (Expr.Constant _ _ _) _) _) _ _ _); refine Subscript_ ?_)
  | ((with_reducible show wpAny _ _ (eval (Expr.Compare _ _ _ _) _) _ _ _); refine wpAny_Compare1 ?_)
  | ((with_reducible show wpAny _ _ (eval (Expr.IfExp _ _ _ _) _) _ _ _); refine IfExp_ ?_)
  | ((with_reducible show wpAny _ _ (eval (Expr.Tuple _ _ _) _) _ _ _); refine Tuple_ ?_)
  | ((with_reducible show wpAny _ _ (eval (Expr.List _ _) _) _ _ _); refine List_ ?_)
  | ((with_reducible show wpAny _ _ (eval (Expr.BinOp _ _ _ _) _) _ _ _); refine wpAny_BinOp ?_)
  | ((with_reducible show wpAny _ _ (eval (Expr.UnaryOp _ _ _) _) _ _ _); refine UnaryOp_ ?_)
  | ((with_reducible show wpAny _ _ (isTrue (Expr.Compare _ _ _ _) _ _) _ _ _); refine wpAny_isTrue_Compare1 ?_)
  | ((with_reducible show wpAny _ _ (isTrue (Expr.UnaryOp UnaryOp.Not _ _) _ _) _ _ _); refine isTrue_not ?_)
  | ((with_reducible show wpAny _ _ (isTrue (Expr.BoolOp BoolOp.And (_ :: _) _) _ _) _ _ _); refine isTrue_and ?_)
  | ((with_reducible show wpAny _ _ (isTrue (Expr.BoolOp BoolOp.Or (_ :: _) _) _ _) _ _ _); refine isTrue_or ?_)
  | ((with_reducible show wpAny _ _ (isTrue (Expr.Name _ _) _ _) _ _ _); refine isTrue_plain ?_)
  | ((with_reducible show wpAny _ _ (isTrue (Expr.Constant _ _ _) _ _) _ _ _); refine isTrue_plain ?_)
  | ((with_reducible show wpAny _ _ (isTrue (Expr.Call _ _ _ _) _ _) _ _ _); refine isTrue_plain ?_)
  | ((with_reducible show wpAny _ _ (isTrue (Expr.Attribute _ _ _) _ _) _ _ _); refine isTrue_plain ?_)
  | ((with_reducible show wpAny _ _ (unaryOp UnaryOp.Not _) _ _ _); refine not_of ?_)
  | ((with_reducible show wpAny _ _ (truthy (Value.bool _)) _ _ _); refine wpAny_truthy_bool ?_)
  | ((with_reducible show ite _ _ _); first | refine ite_t ?_ | refine ite_f ?_)
  | ((with_reducible show wpAny _ _ (execs (_ :: _) _) _ _ _); refine wpAny_execs_cons ?_)
  | ((with_reducible show wpAny _ _ (execs [] _) _ _ _); refine wpAny_execs_nil ?_)
  | ((with_reducible show wpAny _ _ (exec (Stmt.If _ _ _ _) _) _ _ _); refine wpAny_If ?_)
  | ((with_reducible show wpAny _ _ (exec (Stmt.Return (some _) _) _) _ _ _); refine wpAny_Return_some ?_)
  | ((with_reducible show wpAny _ _ (exec (Stmt.Assign [Expr.Attribute _ _ _] _ _) _) _ _ _); refine plainObj_wpAny_Assign_Attribute ?_)
  | ((with_reducible show wpAny _ _ (eval (Expr.Constant Const.none _ _) _) _ _ _); refine Constant_none ?_)
  | ((with_reducible show wpAny _ _ (spliced (backTo _ (starEach (_ :: _) _))) _ _ _); refine args_cons ?_)
  | ((with_reducible show wpAny _ _ (spliced (backTo _ (starEach [] _))) _ _ _); refine args_nil ?_))
local macro_rules | `(tactic| walk_at "sts") => `(tactic| repeat walk_at "st")
local macro_rules | `(tactic| walk_at "cw") => `(tactic| refine cw (by walk_at "ok") (by kernel_rfl) ?_ rfl rfl)
local macro_rules | `(tactic| walk_at "cwb") => `(tactic| refine cwb rfl ?_ rfl rfl)
local macro_rules | `(tactic| walk_at "mem") => `(tactic| simp [attrNames])

section
variable {w : World} {B : Heap} {M : Addr → Prop} {h₀ : Heap} {I₀ I : Im} {L : Addr} {m : Str → Option Value} {h : Heap} {g : Array GenState} {d : Drawn} {t : Nat} {o : OsState} {A : Around} {E : Value → Shared → Prop} {env : Env}
theorem Ext.keep {h' : Heap} (hk : ∀ b q, h.get? b = some q → h'.get? b = some q) : Ext h I h' I := ⟨.refl I, fun a q e => ⟨q, hk _ _ e⟩, fun _ _ _ _ _ e => e, fun a q _ e => hk _ _ e⟩
abbrev dAttrs (e a : Addr) : List (Str × Value) := upd (upd (fAttrs [] e a) n_identity .none) n_annihilator .none
theorem dinit_call {x dx C : Addr} {a1 a2 : Value} {rest : List Value} {R : Result → Shared → Prop} {cdC : ClassData} (k : Ok w B I h g) (Rm : Room A 5) (U : Und I h x dx C []) (c : Cls w C)
    (hC : clsIn (K w) C = some cdC) (hsub : mroIn (K w) C (.ref 505) = some true) (hm : ks_superIn (K w) C 505 n___init__ = some (some (.ref 353)))
    (hsub' : mroIn (K w) C (.ref 363) = some true) (hm' : ks_superIn (K w) C 363 n___init__ = some (some (.ref 35)))
    (hargs : ∀ v ∈ a1 :: a2 :: rest, ExprV w I v) (hlen : rest.length = 0 ∨ rest.length = 1)
    (hq : ∀ h' I' g' t' e a, Ok w B I' h' g' → Grow (Md dx) h I h' I' → Und I' h' x dx C (dAttrs e a) → (dAttrs e a).length ≤ 108 → Tup I' a (a1 :: a2 :: rest) → R (.ok (.ret .none)) ⟨h', g', d, t', o⟩) :
    codeAny (model PR w) A (.call (.ref 449) ⟨.ref x :: a1 :: a2 :: rest, []⟩) R ⟨h, g, d, t, o⟩ := by
  refine enterV [(n_arg2, a2), (n_arg1, a1), (n_self, .ref x)] n_args (fun _ => False) k rfl (by kernel_rfl) Rm.d (rest := rest) (by
    rcases rest with _ | ⟨a, _ | _⟩ <;> first | (exfalso; simp at hlen; done) | kernel_rfl) (by omega) (by kernel_rfl) (by kernel_rfl) (by kernel_rfl) rfl rfl rfl fun h₁ t₁ E' I₁ S0 hle ht => ?_
  have h0 : ∃ q, h.get? dx = some q := let ⟨od, e, _⟩ := U.od; ⟨od, e⟩
  have U1 := U.ext S0.G
  have S := S0.mono (M' := Md dx) fun _ z => z.elim
  have hM : Md dx dx := .inr rfl
  refine sup_stmt (x := x) (C := C) (D := 505) (f2 := 353) (dx := dx) (by kernel_rfl) S U1.hx rfl rfl (by walk_at "lk") rfl rfl (by kernel_rfl) rfl rfl hC hsub (by kernel_rfl) (by kernel_rfl) (by kernel_rfl) (by kernel_rfl) (by kernel_rfl) rfl (by kernel_rfl) (by kernel_rfl) (by kernel_rfl) hm (by kernel_rfl) rfl rfl (pure false) (.inr rfl)
    fun qa h2 I2 t2 S2 G2 hqa hqI => ?_
  have U2 := U1.ext G2
  refine cwMs (self := .ref x) (f := 353) (by kernel_rfl) ?_ rfl rfl
  walk_at "sts"; walk_at "nm"; walk_at "sts"; walk_at "nm"
  refine items_star ?_
  walk_at "nm"
  refine star_tup S2 (ht.le G2.le) (by omega) fun h3 S3 hk3 => ?_
  walk_at "sts"
  have U3 := U2.ext (Ext.keep hk3)
  have hle3 : Le I I2 := S0.G.le.trans G2.le
  rw [List.append_nil]
  have hqa3 := hk3 _ _ hqa
  refine ⟨⟨hqa3, S3.ok.X⟩, meth_call hqa3 (finit_call (cdC := _) S3.ok ((Rm.deeper _).le (by decide)) U3 (by decide) c hC hsub' hm' (fun u hu => ?_) (by simp only [List.length_cons]; omega) fun h4 I4 g4 t4 e4 a4 k4 G4 U4 z4 ht4 => ?_)⟩
  · obtain ⟨a, Cv, lv, e1, e2, e3⟩ := hargs u hu
    exact ⟨a, Cv, lv, e1, e2.le hle3, e3⟩
  · have S4 := S3.afterD h0 k4 G4
    show wpAny _ _ _ _ _ _
    walk_at "sts"; walk_at "nm"; walk_at "sts"
    refine setf S4 hM h0 U4 z4 (by decide) c (by walk_at "mem") fun h5 t5 S5 U5 z5 => ?_
    walk_at "sts"; walk_at "nm"; walk_at "sts"
    refine setf S5 hM h0 U5 z5 (by decide) c (by walk_at "mem") fun h6 t6 S6 U6 z6 => ?_
    walk_at "sts"
    exact hq _ _ _ _ _ _ S6.ok S6.G U6 z6 ht4

theorem ainit_call {x dx : Addr} {a1 a2 : Value} {rest : List Value} {R : Result → Shared → Prop} (k : Ok w B I h g) (Rm : Room A 7) (U : Und I h x dx 554 [])
    (hargs : ∀ v ∈ a1 :: a2 :: rest, ExprV w I v) (hlen : rest.length = 0 ∨ rest.length = 1)
    (hq : ∀ h' I' g' t' u e tk, Ok w B I' h' g' → Grow (Md dx) h I h' I' → Und I' h' x dx 554 (lOp false u e tk) → Tup I' e (a1 :: a2 :: rest) → R (.ok (.ret .none)) ⟨h', g', d, t', o⟩) :
    codeAny (model PR w) A (.call (.ref 523) ⟨.ref x :: a1 :: a2 :: rest, []⟩) R ⟨h, g, d, t, o⟩ := by
  have c := cls_and w
  refine enterV [(n_arg2, a2), (n_arg1, a1), (n_self, .ref x)] n_args (fun _ => False) k rfl (by kernel_rfl) Rm.d (rest := rest) (by
    rcases rest with _ | ⟨a, _ | _⟩ <;> first | (exfalso; simp at hlen; done) | kernel_rfl) (by omega) (by kernel_rfl) (by kernel_rfl) (by kernel_rfl) rfl rfl rfl fun h₁ t₁ E' I₁ S0 hle ht => ?_
  have h0 : ∃ q, h.get? dx = some q := let ⟨od, e, _⟩ := U.od; ⟨od, e⟩
  have U1 := U.ext S0.G
  have S := S0.mono (M' := Md dx) fun _ z => z.elim
  have hM : Md dx dx := .inr rfl
  refine sup_stmt (x := x) (C := 554) (D := 554) (f2 := 449) (dx := dx) (by kernel_rfl) S U1.hx rfl rfl (by walk_at "lk") rfl rfl (by kernel_rfl) rfl rfl rfl (by kernel_rfl) (by kernel_rfl) (by kernel_rfl) (by kernel_rfl) (by kernel_rfl) (by kernel_rfl) rfl (by kernel_rfl) (by kernel_rfl) (by kernel_rfl) (by kernel_rfl) (by kernel_rfl) rfl rfl (pure false) (.inr rfl)
    fun qa h2 I2 t2 S2 G2 hqa hqI => ?_
  have U2 := U1.ext G2
  refine cwMs (self := .ref x) (f := 449) (by kernel_rfl) ?_ rfl rfl
  walk_at "sts"; walk_at "nm"; walk_at "sts"; walk_at "nm"
  refine items_star ?_
  walk_at "nm"
  refine star_tup S2 (ht.le G2.le) (by omega) fun h3 S3 hk3 => ?_
  walk_at "sts"
  have U3 := U2.ext (Ext.keep hk3)
  have hle3 : Le I I2 := S0.G.le.trans G2.le
  rw [List.append_nil]
  have hqa3 := hk3 _ _ hqa
  refine ⟨⟨hqa3, S3.ok.X⟩, meth_call hqa3 (dinit_call (cdC := _) S3.ok ((Rm.deeper _).le (by decide)) U3 c rfl (by kernel_rfl) (by kernel_rfl) (by kernel_rfl) (by kernel_rfl) (fun u hu => ?_) hlen fun h4 I4 g4 t4 e4 a4 k4 G4 U4 z4 ht4 => ?_)⟩
  · obtain ⟨a, Cv, lv, e1, e2, e3⟩ := hargs u hu
    exact ⟨a, Cv, lv, e1, e2.le hle3, e3⟩
  · have S4 := S3.afterD h0 k4 G4
    show wpAny _ _ _ _ _ _
    walk_at "sts"; walk_at "nm"; walk_at "sts"
    refine setf S4 hM h0 U4 z4 (by decide) c (by walk_at "mem") fun h5 t5 S5 U5 z5 => ?_
    walk_at "sts"
    refine nm_glob (v := .ref 275) S5.ok rfl (by kernel_rfl) rfl (by kernel_rfl) (by kernel_rfl) ?_
    walk_at "nm"; walk_at "sts"
    refine setf S5 hM h0 U5 z5 (by decide) c (by walk_at "mem") fun h6 t6 S6 U6 z6 => ?_
    walk_at "sts"
    refine nm_glob (v := .ref 279) S6.ok rfl (by kernel_rfl) rfl (by kernel_rfl) (by kernel_rfl) ?_
    walk_at "nm"; walk_at "sts"
    refine setf S6 hM h0 U6 z6 (by decide) c (by walk_at "mem") fun h7 t7 S7 U7 z7 => ?_
    walk_at "sts"; walk_at "nm"; walk_at "sts"
    refine setf S7 hM h0 U7 z7 (by decide) c (by walk_at "mem") fun h8 t8 S8 U8 z8 => ?_
    walk_at "sts"
    exact hq _ _ _ _ _ _ _ S8.ok S8.G U8 ht4

theorem oinit_call {x dx : Addr} {a1 a2 : Value} {rest : List Value} {R : Result → Shared → Prop} (k : Ok w B I h g) (Rm : Room A 7) (U : Und I h x dx 603 [])
    (hargs : ∀ v ∈ a1 :: a2 :: rest, ExprV w I v) (hlen : rest.length = 0 ∨ rest.length = 1)
    (hq : ∀ h' I' g' t' u e tk, Ok w B I' h' g' → Grow (Md dx) h I h' I' → Und I' h' x dx 603 (lOp true u e tk) → Tup I' e (a1 :: a2 :: rest) → R (.ok (.ret .none)) ⟨h', g', d, t', o⟩) :
    codeAny (model PR w) A (.call (.ref 572) ⟨.ref x :: a1 :: a2 :: rest, []⟩) R ⟨h, g, d, t, o⟩ := by
  have c := cls_or w
  refine enterV [(n_arg2, a2), (n_arg1, a1), (n_self, .ref x)] n_args (fun _ => False) k rfl (by kernel_rfl) Rm.d (rest := rest) (by
    rcases rest with _ | ⟨a, _ | _⟩ <;> first | (exfalso; simp at hlen; done) | kernel_rfl) (by omega) (by kernel_rfl) (by kernel_rfl) (by kernel_rfl) rfl rfl rfl fun h₁ t₁ E' I₁ S0 hle ht => ?_
  have h0 : ∃ q, h.get? dx = some q := let ⟨od, e, _⟩ := U.od; ⟨od, e⟩
  have U1 := U.ext S0.G
  have S := S0.mono (M' := Md dx) fun _ z => z.elim
  have hM : Md dx dx := .inr rfl
  refine sup_stmt (x := x) (C := 603) (D := 603) (f2 := 449) (dx := dx) (by kernel_rfl) S U1.hx rfl rfl (by walk_at "lk") rfl rfl (by kernel_rfl) rfl rfl rfl (by kernel_rfl) (by kernel_rfl) (by kernel_rfl) (by kernel_rfl) (by kernel_rfl) (by kernel_rfl) rfl (by kernel_rfl) (by kernel_rfl) (by kernel_rfl) (by kernel_rfl) (by kernel_rfl) rfl rfl (pure false) (.inr rfl)
    fun qa h2 I2 t2 S2 G2 hqa hqI => ?_
  have U2 := U1.ext G2
  refine cwMs (self := .ref x) (f := 449) (by kernel_rfl) ?_ rfl rfl
  walk_at "sts"; walk_at "nm"; walk_at "sts"; walk_at "nm"
  refine items_star ?_
  walk_at "nm"
  refine star_tup S2 (ht.le G2.le) (by omega) fun h3 S3 hk3 => ?_
  walk_at "sts"
  have U3 := U2.ext (Ext.keep hk3)
  have hle3 : Le I I2 := S0.G.le.trans G2.le
  rw [List.append_nil]
  have hqa3 := hk3 _ _ hqa
  refine ⟨⟨hqa3, S3.ok.X⟩, meth_call hqa3 (dinit_call (cdC := _) S3.ok ((Rm.deeper _).le (by decide)) U3 c rfl (by kernel_rfl) (by kernel_rfl) (by kernel_rfl) (by kernel_rfl) (fun u hu => ?_) hlen fun h4 I4 g4 t4 e4 a4 k4 G4 U4 z4 ht4 => ?_)⟩
  · obtain ⟨a, Cv, lv, e1, e2, e3⟩ := hargs u hu
    exact ⟨a, Cv, lv, e1, e2.le hle3, e3⟩
  · have S4 := S3.afterD h0 k4 G4
    show wpAny _ _ _ _ _ _
    walk_at "sts"; walk_at "nm"; walk_at "sts"
    refine setf S4 hM h0 U4 z4 (by decide) c (by walk_at "mem") fun h5 t5 S5 U5 z5 => ?_
    walk_at "sts"
    refine nm_glob (v := .ref 279) S5.ok rfl (by kernel_rfl) rfl (by kernel_rfl) (by kernel_rfl) ?_
    walk_at "nm"; walk_at "sts"
    refine setf S5 hM h0 U5 z5 (by decide) c (by walk_at "mem") fun h6 t6 S6 U6 z6 => ?_
    walk_at "sts"
    refine nm_glob (v := .ref 275) S6.ok rfl (by kernel_rfl) rfl (by kernel_rfl) (by kernel_rfl) ?_
    walk_at "nm"; walk_at "sts"
    refine setf S6 hM h0 U6 z6 (by decide) c (by walk_at "mem") fun h7 t7 S7 U7 z7 => ?_
    walk_at "sts"; walk_at "nm"; walk_at "sts"
    refine setf S7 hM h0 U7 z7 (by decide) c (by walk_at "mem") fun h8 t8 S8 U8 z8 => ?_
    walk_at "sts"
    exact hq _ _ _ _ _ _ _ S8.ok S8.G U8 ht4

theorem sinit_call {x dx : Addr} {y : Str} {ty : Tok} {R : Result → Shared → Prop} (k : Ok w B I h g) (Rm : Room A 3) (U : Und I h x dx 335 [])
    (hq : ∀ h' I' g' t' u e, Ok w B I' h' g' → Grow (Md dx) h I h' I' → Und I' h' x dx 335 (lSym u e y ty) → Tup I' e [] → R (.ok (.ret .none)) ⟨h', g', d, t', o⟩) :
    codeAny (model PR w) A (.call (.ref 297) ⟨[.ref x, .str y ty], []⟩) R ⟨h, g, d, t, o⟩ := by
  have c := cls_sym w
  refine enterAt [(n_obj, .str y ty), (n_self, .ref x)] (fun _ => False) k rfl (by kernel_rfl) Rm.d (by kernel_rfl) (by kernel_rfl) (by kernel_rfl) rfl rfl rfl fun h₁ t₁ E' S0 => ?_
  have h0 : ∃ q, h.get? dx = some q := let ⟨od, e, _⟩ := U.od; ⟨od, e⟩
  have U1 := U.ext S0.G
  have S := S0.mono (M' := Md dx) fun _ z => z.elim
  have hM : Md dx dx := .inr rfl
  refine sup_stmt (x := x) (C := 335) (D := 335) (f2 := 35) (dx := dx) (by kernel_rfl) S U1.hx rfl rfl (by walk_at "lk") rfl rfl (by kernel_rfl) rfl rfl rfl (by kernel_rfl) (by kernel_rfl) (by kernel_rfl) (by kernel_rfl) (by kernel_rfl) (by kernel_rfl) rfl (by kernel_rfl) (by kernel_rfl) (by kernel_rfl) (by kernel_rfl) (by kernel_rfl) rfl rfl _ (.inl rfl)
    fun qa h2 I2 t2 S2 G2 hqa hqI => ?_
  have U2 := U1.ext G2
  refine callWith_M0 (K := K w) (g := 35) (self := .ref x) ⟨hqa, S2.ok.X⟩ (by kernel_rfl) ?_
  refine meth_call hqa (einit_call S2.ok (Rm.deeper _).d U2 (by decide) c fun h3 I3 g3 t3 e3 k3 G3 U3 z3 he3 => ?_)
  have S3 := S2.afterD h0 k3 G3
  show wpAny _ _ _ _ _ _
  walk_at "sts"; walk_at "nm"; walk_at "sts"
  refine setf S3 hM h0 U3 z3 (by decide) c (by walk_at "mem") fun h4 t4 S4 U4 z4 => ?_
  walk_at "sts"; walk_at "nm"; walk_at "nm"; walk_at "sts"
  refine setf S4 hM h0 U4 z4 (by decide) c (by walk_at "mem") fun h5 t5 S5 U5 z5 => ?_
  walk_at "sts"; walk_at "nm"; walk_at "sts"
  refine setf S5 hM h0 U5 z5 (by decide) c (by walk_at "mem") fun h6 t6 S6 U6 z6 => ?_
  walk_at "sts"; walk_at "nm"; walk_at "sts"
  refine setf S6 hM h0 U6 z6 (by decide) c (by walk_at "mem") fun h7 t7 S7 U7 z7 => ?_
  walk_at "sts"
  exact hq _ _ _ _ _ _ S7.ok S7.G U7 he3
end
end Mine
namespace Mine
local macro_rules | `(tactic| walk_at "lk") => `(tactic| first | assumption | exact lk_hd (by decide +kernel) | exact lk_tl (by decide +kernel) (lk_hd (by decide +kernel)) | exact lk_tl (by decide +kernel) (lk_tl (by decide +kernel) (lk_hd (by decide +kernel))) | exact lk_tl (by decide +kernel) (lk_tl (by decide +kernel) (lk_tl (by decide +kernel) (lk_hd (by decide +kernel)))) | exact lk_tl (by decide +kernel) (lk_tl (by decide +kernel) (lk_tl (by decide +kernel) (lk_tl (by decide +kernel) (lk_hd (by decide +kernel))))))
local macro_rules | `(tactic| walk_at "ok") => `(tactic| first | assumption | exact St.ok (by assumption))
local macro_rules | `(tactic| walk_at "nm") => `(tactic| refine nm_loc (by assumption) rfl (by kernel_rfl) (by walk_at "lk") (by kernel_rfl) ?_)
local macro_rules | `(tactic| walk_at "s0") => `(tactic| refine sub0 (by walk_at "ok") (by assumption) (by with_unfolding_all rfl) ?_)
local macro_rules | `(tactic| walk_at "s1") => `(tactic| refine sub1 (by walk_at "ok") (by assumption) (by with_unfolding_all rfl) ?_)
local macro_rules | `(tactic| walk_at "eqt") => `(tactic| refine eq_str_is true (by kernel_rfl) ?_)
local macro_rules | `(tactic| walk_at "eqf") => `(tactic| refine eq_str_is false (by kernel_rfl) ?_)
local macro_rules | `(tactic| walk_at "st") => `(tactic| first
  | ((with_reducible show wpAny _ _ (eval (Expr.Constant (Const.str _) _ _) _) _ _ _); refine c_str ?_)
  | ((with_reducible show wpAny _ _ (eval (Expr.Constant (Const.int _) _ _) _) _ _ _); refine c_int ?_)
  | ((with_reducible show wpAny _ _ (eval (Expr.Constant (Const.bool _) _ _) _) _ _ _); refine wpAny_Constant_bool ?_)
  | ((with_reducible show wpAny _ _ (eval (Expr.Subscript _ (Expr.Constant _ _ _) _) _) _ _ _); refine Subscript_ ?_)
  | ((with_reducible show wpAny _ _ (eval (Expr.Compare _ _ _ _) _) _ _ _); refine wpAny_Compare1 ?_)
  | ((with_reducible show wpAny _ _ (eval (Expr.IfExp _ _ _ _) _) _ _ _); refine IfExp_ ?_)
  | ((with_reducible show wpAny _ _ (eval (Expr.Tuple _ _ _) _) _ _ _); refine Tuple_ ?_)
  | ((with_reducible show wpAny _ _ (eval (Expr.List _ _) _) _ _ _); refine List_ ?_)
  | ((with_reducible show wpAny _ _ (eval (Expr.BinOp _ _ _ _) _) _ _ _); refine wpAny_BinOp ?_)
  | ((with_reducible show wpAny _ _ (eval (Expr.UnaryOp _ _ _) _) _ _ _); refine UnaryOp_ ?_)
  | ((with_reducible show wpAny _ _ (isTrue (Expr.Compare _ _ _ _) _ _) _ _ _); refine wpAny_isTrue_Compare1 ?_)
  | ((with_reducible show wpAny _ _ (isTrue (Expr.UnaryOp UnaryOp.Not _ _) _ _) _ _ _); refine isTrue_not ?_)
  | ((with_reducible show wpAny _ _ (isTrue (Expr.BoolOp BoolOp.And (_ :: _) _) _ _) _ _ _); refine isTrue_and ?_)
  | ((with_reducible show wpAny _ _ (isTrue (Expr.BoolOp BoolOp.Or (_ :: _) _) _ _) _ _ _); refine isTrue_or ?_)
  | ((with_reducible show wpAny _ _ (isTrue (Expr.Name _ _) _ _) _ _ _); refine isTrue_plain ?_)
  | ((with_reducible show wpAny _ _ (isTrue (Expr.Constant _ _ _) _ _) _ _ _); refine isTrue_plain ?_)
  | ((with_reducible show wpAny _ _ (isTrue (Expr.Call _ _ _ _) _ _) _ _ _); refine isTrue_plain ?_)
  | ((with_reducible show wpAny _ _ (isTrue (Expr.Attribute _ _ _) _ _) _ _ _); refine isTrue_plain ?_)
  | ((with_reducible show wpAny _ _ (unaryOp UnaryOp.Not _) _ _ _); refine not_of ?_)
  | ((with_reducible show wpAny _ _ (truthy (Value.bool _)) _ _ _); refine wpAny_truthy_bool ?_)
  | ((with_reducible show ite _ _ _); first | refine ite_t ?_ | refine ite_f ?_)
  | ((with_reducible show wpAny _ _ (execs (_ :: _) _) _ _ _); refine wpAny_execs_cons ?_)
  | ((with_reducible show wpAny _ _ (execs [] _) _ _ _); refine wpAny_execs_nil ?_)
  | ((with_reducible show wpAny _ _ (exec (Stmt.If _ _ _ _) _) _ _ _); refine wpAny_If ?_)
  | ((with_reducible show wpAny _ _ (exec (Stmt.Return (some _) _) _) _ _ _); refine wpAny_Return_some ?_)
  | ((with_reducible show wpAny _ _ (exec (Stmt.Assign [Expr.Attribute _ _ _] _ _) _) _ _ _); refine plainObj_wpAny_Assign_Attribute ?_)
  | ((with_reducible show wpAny _ _ (eval (Expr.Constant Const.none _ _) _) _ _ _); refine Constant_none ?_)
  | ((with_reducible show wpAny _ _ (spliced (backTo _ (starEach (_ :: _) _))) _ _ _); refine args_cons ?_)
  | ((with_reducible show wpAny _ _ (spliced (backTo _ (starEach [] _))) _ _ _); refine args_nil ?_))
local macro_rules | `(tactic| walk_at "sts") => `(tactic| repeat walk_at "st")
local macro_rules | `(tactic| walk_at "cw") => `(tactic| refine cw (by walk_at "ok") (by kernel_rfl) ?_ rfl rfl)
local macro_rules | `(tactic| walk_at "cwb") => `(tactic| refine cwb rfl ?_ rfl rfl)
local macro_rules | `(tactic| walk_at "mem") => `(tactic| simp [attrNames])

section
variable {w : World} {B : Heap} {M : Addr → Prop} {h₀ : Heap} {I₀ I : Im} {L : Addr} {m : Str → Option Value} {h : Heap} {g : Array GenState} {d : Drawn} {t : Nat} {o : OsState} {A : Around} {E : Value → Shared → Prop} {env : Env}
/-- «for x in a tuple: body» -/
theorem for_tup {l : List (Str × Value)} {x : Str} {px : Pos} {body : List Stmt} {ax : Addr} {us : List Value} {Q : Flow → Shared → Prop}
    (S : St w B M h₀ I₀ env.locals (fun z => l.lookup z) I h g) (ht : Tup I ax us) (hh : A.handled = none) (hx : env.kindOf x = some .local) (hp : (env.scope.kind == .class || (env.scope.kind == .module && env.locals != env.globals)) = false)
    (Mx : Addr → Prop) (hMx : ∀ a, Mx a → ∃ q, h.get? a = some q)
    (J : Nat → Im → Heap → List (Str × Value) → Prop) (hJ : ∀ i I h1 h2 l, (∀ a q, a ≠ env.locals → (∃ q0, h.get? a = some q0) → h1.get? a = some q → h2.get? a = some q) → J i I h1 l → J i I h2 l) (hJx : ∀ i I h l v, J i I h l → J i I h ((x, v) :: l)) (h0 : J 0 I h l)
    (step : ∀ (i : Nat) v I' h' g' t' l' E', us[i]? = some v → St w B M h₀ I₀ env.locals (fun z => List.lookup z ((x, v) :: l')) I' h' g' → Le I I' → J i I' h' ((x, v) :: l') →
      wpAny (model PR w) A (execs body env) (fun f s => f = .next ∧ ∃ I2 h2 g2 t2 l2, s = ⟨h2, g2, d, t2, o⟩ ∧ St w B M h₀ I₀ env.locals (fun z => List.lookup z l2) I2 h2 g2 ∧ Grow Mx h' I' h2 I2 ∧ J (i + 1) I2 h2 l2) E' ⟨h', g', d, t', o⟩)
    (hq : ∀ I' h' g' t' l', St w B M h₀ I₀ env.locals (fun z => List.lookup z l') I' h' g' → Le I I' → J us.length I' h' l' → Q .next ⟨h', g', d, t', o⟩) :
    wpAny (model PR w) A (pyIter (.ref ax)) (fun it s₂ => codeAny (model PR w) A (.forLoop (.Name x px) it body [] env) (fun r s' => match r with | .ok f => Q f s' | .error e => cameBackBy (model PR w) A env E e s') s₂) E ⟨h, g, d, t, o⟩ := by
  have tt := ht.is S.ok
  have hal : ax < h.objs.size := let ⟨_, e⟩ := ht; Heap.lt_size (S.ok.sub _ _ e)
  refine wpAny_pyIter_tuple tt ?_
  have nIt : I h.objs.size = none := S.ok.none_size
  have nL : h.objs.size ≠ env.locals := Nat.ne_of_gt S.ns.lt
  have n0 := S.at_size
  have nMx : ¬ Mx h.objs.size := fun q => by obtain ⟨q, e⟩ := hMx _ q; exact Nat.lt_irrefl _ (Heap.lt_size e)
  have W := Walks.tuple (prog := PR) (w := w) (A := A) hh h.objs.size ax (Nat.ne_of_lt hal) us.toArray
  refine codeAny_forLoop (fun n s => ∃ I' h' g' t' l' i, s = ⟨h', g', d, t', o⟩ ∧ n = us.length - i ∧ i ≤ us.length ∧ h'.IsTupleIter h.objs.size ax i ∧ St w B M h₀ I₀ env.locals (fun z => List.lookup z l') I' h' g' ∧ Le I I' ∧ I' h.objs.size = none ∧ J i I' h' l') ?_ us.length
    ⟨I, _, g, _, l, 0, rfl, rfl, Nat.zero_le _, ⟨_, Heap.get?_push_size _ rfl, rfl, rfl⟩, S.push _, .refl I, nIt, hJ _ _ _ _ _ (fun a q _ _ e => Heap.get?_push_of_some _ e) h0⟩
  rintro n s ⟨I', h', g', t', l', i, rfl, rfl, hi, hit, S', hle, hIn, hj⟩
  have tt' := (ht.le hle).is S'.ok
  by_cases hlt : i < us.length
  · refine W.item i _ _ _ (by simpa using hlt) ⟨hit, tt'⟩ fun v h2 tk2 hP hst2 hk2 => ?_
    have kI : ∀ b q, b ≠ h.objs.size → h'.get? b = some q → h2.get? b = some q := fun b q hb e => hk2 b q (by simpa using hb) e
    have S2 := S'.moved h.objs.size kI hIn nL n0
    refine wpAny_assign_Name ?_
    refine put S2 hx hp fun h3 S3 k3 => ?_
    have hj3 : J i I' h3 ((x, v) :: l') := hJx _ _ _ _ _ (hJ _ _ _ _ _ (fun a q hne ⟨q0, e0⟩ e => k3 a q hne (kI a q (Nat.ne_of_lt (Heap.lt_size e0)) e)) hj)
    have hi3 : h3.IsTupleIter h.objs.size ax (i + 1) := by
      obtain ⟨q, e, r⟩ := hst2.1
      exact ⟨q, k3 _ _ nL e, r⟩
    refine wpAny_mono (step i v I' h3 g' _ l' _ (by simpa using hP) S3 hle hj3) (fun f s z => ?_) fun _ _ z => z
    obtain ⟨rfl, I4, h4, g4, t4, l4, rfl, S4, G4, hj4⟩ := z
    refine ⟨us.length - (i + 1), by omega, I4, h4, g4, t4, l4, i + 1, rfl, rfl, hlt, ?_, S4, hle.trans G4.le, ?_, hj4⟩
    · obtain ⟨q, e, r⟩ := hi3
      exact ⟨q, G4.kp _ _ nMx e, r⟩
    · cases z : I4 h.objs.size with
      | none => rfl
      | some q =>
        obtain ⟨q0, e, _⟩ := hi3
        have := G4.fresh _ _ q nMx e z
        rw [hIn] at this; cases this
  · have hin : i = us.length := by omega
    subst hin
    refine W.done _ _ _ (by simpa using ⟨hit, tt'⟩) fun h2 tk2 hk2 => ?_
    have kI : ∀ b q, b ≠ h.objs.size → h'.get? b = some q → h2.get? b = some q := fun b q hb e => hk2 b q (by simpa using hb) e
    have S2 := S'.moved h.objs.size kI hIn nL n0
    refine wpAny_execs_nil ?_
    exact hq _ _ _ _ _ S2 hle (hJ _ _ _ _ _ (fun a q hne ⟨q0, e0⟩ e => kI a q (Nat.ne_of_lt (Heap.lt_size e0)) e) hj)
end
end Mine
namespace Mine
local macro_rules | `(tactic| walk_at "lk") => `(tactic| first | assumption | exact lk_hd (by decide +kernel) | exact lk_tl (by decide +kernel) (lk_hd (by decide +kernel)) | exact lk_tl (by decide +kernel) (lk_tl (by decide +kernel) (lk_hd (by decide +kernel))) | exact lk_tl (by decide +kernel) (lk_tl (by decide +kernel) (lk_tl (by decide +kernel) (lk_hd (by decide +kernel)))) | exact lk_tl (by decide +kernel) (lk_tl (by decide +kernel) (lk_tl (by decide +kernel) (lk_tl (by decide +kernel) (lk_hd (by decide +kernel))))))
local macro_rules | `(tactic| walk_at "ok") => `(tactic| first | assumption | exact St.ok (by assumption))
local macro_rules | `(tactic| walk_at "nm") => `(tactic| refine nm_loc (by assumption) rfl (by kernel_rfl) (by walk_at "lk") (by kernel_rfl) ?_)
local macro_rules | `(tactic| walk_at "s0") => `(tactic| refine sub0 (by walk_at "ok") (by assumption) (by with_unfolding_all rfl) ?_)
local macro_rules | `(tactic| walk_at "s1") => `(tactic| refine sub1 (by walk_at "ok") (by assumption) (by with_unfolding_all rfl) ?_)
local macro_rules | `(tactic| walk_at "eqt") => `(tactic| refine eq_str_is true (by kernel_rfl) ?_)
local macro_rules | `(tactic| walk_at "eqf") => `(tactic| refine eq_str_is false (by kernel_rfl) ?_)
local macro_rules | `(tactic| walk_at "st") => `(tactic| first
  | ((with_reducible show wpAny _ _ (eval (Expr.Constant (Const.str _) _ _) _) _ _ _); refine c_str ?_)
  | ((with_reducible show wpAny _ _ (eval (Expr.Constant (Const.int _) _ _) _) _ _ _); refine c_int ?_)
  | ((with_reducible show wpAny _ _ (eval (Expr.Constant (Const.bool _) _ _) _) _ _ _); refine wpAny_Constant_bool ?_)
  | ((with_reducible show wpAny _ _ (eval (Expr.Subscript _ (Expr.Constant _ _ _) _) _) _ _ _); refine Subscript_ ?_)
  | ((with_reducible show wpAny _ _ (eval (Expr.Compare _ _ _ _) _) _ _ _); refine wpAny_Compare1 ?_)
  | ((with_reducible show wpAny _ _ (eval (Expr.IfExp _ _ _ _) _) _ _ _); refine IfExp_ ?_)
  | ((with_reducible show wpAny _ _ (eval (Expr.Tuple _ _ _) _) _ _ _); refine Tuple_ ?_)
  | ((with_reducible show wpAny _ _ (eval (Expr.List _ _) _) _ _ _); refine List_ ?_)
  | ((with_reducible show wpAny _ _ (eval (Expr.BinOp _ _ _ _) _) _ _ _); refine wpAny_BinOp ?_)
  | ((with_reducible show wpAny _ _ (eval (Expr.UnaryOp _ _ _) _) _ _ _); refine UnaryOp_ ?_)
  | ((with_reducible show wpAny _ _ (isTrue (Expr.Compare _ _ _ _) _ _) _ _ _); refine wpAny_isTrue_Compare1 ?_)
  | ((with_reducible show wpAny _ _ (isTrue (Expr.UnaryOp UnaryOp.Not _ _) _ _) _ _ _); refine isTrue_not ?_)
  | ((with_reducible show wpAny _ _ (isTrue (Expr.BoolOp BoolOp.And (_ :: _) _) _ _) _ _ _); refine isTrue_and ?_)
  | ((with_reducible show wpAny _ _ (isTrue (Expr.BoolOp BoolOp.Or (_ :: _) _) _ _) _ _ _); refine isTrue_or ?_)
  | ((with_reducible show wpAny _ _ (isTrue (Expr.Name _ _) _ _) _ _ _); refine isTrue_plain ?_)
  | ((with_reducible show wpAny _ _ (isTrue (Expr.Constant _ _ _) _ _) _ _ _); refine isTrue_plain ?_)
  | ((with_reducible show wpAny _ _ (isTrue (Expr.Call _ _ _ _) _ _) _ _ _); refine isTrue_plain ?_)
  | ((with_reducible show wpAny _ _ (isTrue (Expr.Attribute _ _ _) _ _) _ _ _); refine isTrue_plain ?_)
  | ((with_reducible show wpAny _ _ (unaryOp UnaryOp.Not _) _ _ _); refine not_of ?_)
  | ((with_reducible show wpAny _ _ (truthy (Value.bool _)) _ _ _); refine wpAny_truthy_bool ?_)
  | ((with_reducible show ite _ _ _); first | refine ite_t ?_ | refine ite_f ?_)
  | ((with_reducible show wpAny _ _ (execs (_ :: _) _) _ _ _); refine wpAny_execs_cons ?_)
  | ((with_reducible show wpAny _ _ (execs [] _) _ _ _); refine wpAny_execs_nil ?_)
  | ((with_reducible show wpAny _ _ (exec (Stmt.If _ _ _ _) _) _ _ _); refine wpAny_If ?_)
  | ((with_reducible show wpAny _ _ (exec (Stmt.Return (some _) _) _) _ _ _); refine wpAny_Return_some ?_)
  | ((with_reducible show wpAny _ _ (exec (Stmt.Assign [Expr.Attribute _ _ _] _ _) _) _ _ _); refine plainObj_wpAny_Assign_Attribute ?_)
  | ((with_reducible show wpAny _ _ (eval (Expr.Constant Const.none _ _) _) _ _ _); refine Constant_none ?_)
  | ((with_reducible show wpAny _ _ (spliced (backTo _ (starEach (_ :: _) _))) _ _ _); refine args_cons ?_)
  | ((with_reducible show wpAny _ _ (spliced (backTo _ (starEach [] _))) _ _ _); refine args_nil ?_))
local macro_rules | `(tactic| walk_at "sts") => `(tactic| repeat walk_at "st")
local macro_rules | `(tactic| walk_at "cw") => `(tactic| refine cw (by walk_at "ok") (by kernel_rfl) ?_ rfl rfl)
local macro_rules | `(tactic| walk_at "cwb") => `(tactic| refine cwb rfl ?_ rfl rfl)
local macro_rules | `(tactic| walk_at "mem") => `(tactic| simp [attrNames])

section
variable {w : World} {B : Heap} {M : Addr → Prop} {h₀ : Heap} {I₀ I : Im} {L : Addr} {m : Str → Option Value} {h : Heap} {g : Array GenState} {d : Drawn} {t : Nat} {o : OsState} {A : Around} {E : Value → Shared → Prop} {env : Env}
/-- what a call gives -/
abbrev Gives (w : World) (B : Heap) (d : Drawn) (o : OsState) (h : Heap) (I : Im) (P : Im → Value → Prop) (Q : Value → Shared → Prop) : Prop :=
  ∀ r I' h' g' t', Ok w B I' h' g' → Grow Mt h I h' I' → P I' r → Q r ⟨h', g', d, t', o⟩
theorem mk_sym {x : Str} {tx : Tok} {Q : Value → Shared → Prop} (k : Ok w B I h g) (Rm : Room A 4) (hq : Gives w B d o h I (fun I' r => EIn I' (.sym x) r) Q) :
    wpAny (model PR w) A (call (.ref 335) [.str x tx]) Q E ⟨h, g, d, t, o⟩ := by
  refine make_call (n := 3) (init := 297) (fun J l => ∃ u e, l = lSym u e x tx ∧ Tup J e []) (fun I J l hl z => let ⟨u, e, a, b⟩ := z; ⟨u, e, a, b.le hl⟩) k Rm (by kernel_rfl) (by kernel_rfl) (by kernel_rfl)
    (fun A' I' h2 y dx R Rm' k' hl U hR => sinit_call k' Rm' U fun h' I'' g' t' u e k'' G U' he => hR h' I'' g' t' _ k'' G U' ⟨u, e, rfl, he⟩) fun y h' I' g' t' l k' G ii hp => ?_
  obtain ⟨u, e, rfl, he⟩ := hp
  exact hq _ _ _ _ _ k' G ⟨_, _, _, _, rfl, ii, he⟩
theorem mk_not {y : T} {v : Value} {Q : Value → Shared → Prop} (k : Ok w B I h g) (Rm : Room A 6) (hy : EIn I y v) (hq : Gives w B d o h I (fun I' r => EIn I' (.not y) r) Q) :
    wpAny (model PR w) A (call (.ref 431) [v]) Q E ⟨h, g, d, t, o⟩ := by
  refine make_call (n := 5) (init := 381) (fun J l => ∃ e tk, l = lNot e y.isSym tk ∧ Tup J e [v]) (fun I J l hl z => let ⟨u, e, a, b⟩ := z; ⟨u, e, a, b.le hl⟩) k Rm (by kernel_rfl) (by kernel_rfl) (by kernel_rfl)
    (fun A' I' h2 x dx R Rm' k' hl U hR => ninit_call k' Rm' U (hy.le hl) fun h' I'' g' t' e tk k'' G U' he => hR h' I'' g' t' _ k'' G U' ⟨e, tk, rfl, he⟩) fun x h' I' g' t' l k' G ii hp => ?_
  obtain ⟨e, tk, rfl, he⟩ := hp
  exact hq _ _ _ _ _ k' G ⟨_, _, _, _, rfl, ii, he, hy.le G.le⟩
/-- the tree with these parts -/
def mkOp (k : Bool) : List T → T | [a, b] => .op2 k a b | [a, b, c] => .op3 k a b c | _ => .con k
theorem mkOp_op {k : Bool} {ts : List T} (h : ts.length = 2 ∨ ts.length = 3) : (mkOp k ts).op = some (k, ts) := by
  rcases ts with _ | ⟨a, _ | ⟨b, _ | ⟨c, _ | _⟩⟩⟩ <;> first | rfl | (exfalso; simp at h; done)
theorem T.op_mk {x : T} {k : Bool} {ts : List T} (h : x.op = some (k, ts)) : x = mkOp k ts := by
  cases x <;> simp only [T.op, Option.some.injEq, Prod.mk.injEq, reduceCtorEq] at h
  · obtain ⟨rfl, rfl⟩ := h; rfl
  · obtain ⟨rfl, rfl⟩ := h; rfl
theorem mk_op {kk : Bool} {ts : List T} {us : List Value} {Q : Value → Shared → Prop} (k : Ok w B I h g) (Rm : Room A 8) (hts : ts.length = 2 ∨ ts.length = 3) (hu : Each (EIn I) ts us) (hq : Gives w B d o h I (fun I' r => EIn I' (mkOp kk ts) r) Q) :
    wpAny (model PR w) A (call (.ref (opc kk)) us) Q E ⟨h, g, d, t, o⟩ := by
  have hlen := hu.1
  rcases us with _ | ⟨a1, _ | ⟨a2, rest⟩⟩
  · simp at hlen; omega
  · simp at hlen; omega
  have hrest : rest.length = 0 ∨ rest.length = 1 := by simp at hlen; omega
  have hex : ∀ v ∈ a1 :: a2 :: rest, ExprV w I v := by
    intro v hv
    obtain ⟨j, hj⟩ := List.getElem?_of_mem hv
    have hjl : j < ts.length := by rw [← hlen]; exact (List.getElem?_eq_some_iff.mp hj).1
    exact (hu.2 j v _ hj (List.getElem?_eq_getElem hjl)).expr k
  cases kk with
  | true =>
    refine make_call (n := 7) (init := 572) (fun J l => ∃ u e tk, l = lOp true u e tk ∧ Tup J e (a1 :: a2 :: rest)) (fun I J l hl z => let ⟨u, e, tk, a, b⟩ := z; ⟨u, e, tk, a, b.le hl⟩) k Rm (by kernel_rfl) (by kernel_rfl) (by kernel_rfl)
      (fun A' I' h2 x dx R Rm' k' hl U hR => oinit_call k' Rm' U (fun v hv => let ⟨a, Cv, lv, e1, e2, e3⟩ := hex v hv; ⟨a, Cv, lv, e1, e2.le hl, e3⟩) hrest fun h' I'' g' t' u e tk k'' G U' he => hR h' I'' g' t' _ k'' G U' ⟨u, e, tk, rfl, he⟩) fun x h' I' g' t' l k' G ii hp => ?_
    obtain ⟨u, e, tk, rfl, he⟩ := hp
    exact hq _ _ _ _ _ k' G (.mk (mkOp_op hts) ii he (hu.le fun _ _ z => z.le G.le))
  | false =>
    refine make_call (n := 7) (init := 523) (fun J l => ∃ u e tk, l = lOp false u e tk ∧ Tup J e (a1 :: a2 :: rest)) (fun I J l hl z => let ⟨u, e, tk, a, b⟩ := z; ⟨u, e, tk, a, b.le hl⟩) k Rm (by kernel_rfl) (by kernel_rfl) (by kernel_rfl)
      (fun A' I' h2 x dx R Rm' k' hl U hR => ainit_call k' Rm' U (fun v hv => let ⟨a, Cv, lv, e1, e2, e3⟩ := hex v hv; ⟨a, Cv, lv, e1, e2.le hl, e3⟩) hrest fun h' I'' g' t' u e tk k'' G U' he => hR h' I'' g' t' _ k'' G U' ⟨u, e, tk, rfl, he⟩) fun x h' I' g' t' l k' G ii hp => ?_
    obtain ⟨u, e, tk, rfl, he⟩ := hp
    exact hq _ _ _ _ _ k' G (.mk (mkOp_op hts) ii he (hu.le fun _ _ z => z.le G.le))
end
end Mine
namespace Mine
local macro_rules | `(tactic| walk_at "lk") => `(tactic| first | assumption | exact lk_hd (by decide +kernel) | exact lk_tl (by decide +kernel) (lk_hd (by decide +kernel)) | exact lk_tl (by decide +kernel) (lk_tl (by decide +kernel) (lk_hd (by decide +kernel))) | exact lk_tl (by decide +kernel) (lk_tl (by decide +kernel) (lk_tl (by decide +kernel) (lk_hd (by decide +kernel)))) | exact lk_tl (by decide +kernel) (lk_tl (by decide +kernel) (lk_tl (by decide +kernel) (lk_tl (by decide +kernel) (lk_hd (by decide +kernel))))))
local macro_rules | `(tactic| walk_at "ok") => `(tactic| first | assumption | exact St.ok (by assumption))
local macro_rules | `(tactic| walk_at "nm") => `(tactic| refine nm_loc (by assumption) rfl (by kernel_rfl) (by walk_at "lk") (by kernel_rfl) ?_)
local macro_rules | `(tactic| walk_at "s0") => `(tactic| refine sub0 (by walk_at "ok") (by assumption) (by with_unfolding_all rfl) ?_)
local macro_rules | `(tactic| walk_at "s1") => `(tactic| refine sub1 (by walk_at "ok") (by assumption) (by with_unfolding_all rfl) ?_)
local macro_rules | `(tactic| walk_at "eqt") => `(tactic| refine eq_str_is true (by kernel_rfl) ?_)
local macro_rules | `(tactic| walk_at "eqf") => `(tactic| refine eq_str_is false (by kernel_rfl) ?_)
local macro_rules | `(tactic| walk_at "st") => `(tactic| first
  | ((with_reducible show wpAny _ _ (eval (Expr.Constant (Const.str _) _ _) _) _ _ _); refine c_str ?_)
  | ((with_reducible show wpAny _ _ (eval (Expr.Constant (Const.int _) _ _) _) _ _ _); refine c_int ?_)
  | ((with_reducible show wpAny _ _ (eval (Expr.Constant (Const.bool _) _ _) _) _ _ _); refine wpAny_Constant_bool ?_)
  | ((with_reducible show wpAny _ _ (eval (Expr.Subscript _ (Expr.Constant _ _ _) _) _) _ _ _); refine Subscript_ ?_)
  | ((with_reducible show wpAny _ _ (eval (Expr.Compare _ _ _ _) _) _ _ _); refine wpAny_Compare1 ?_)
  | ((with_reducible show wpAny _ _ (eval (Expr.IfExp _ _ _ _) _) _ _ _); refine IfExp_ ?_)
  | ((with_reducible show wpAny _ _ (eval (Expr.Tuple _ _ _) _) _ _ _); refine Tuple_ ?_)
  | ((with_reducible show wpAny _ _ (eval (Expr.List _ _) _) _ _ _); refine List_ ?_)
  | ((with_reducible show wpAny _ _ (eval (Expr.BinOp _ _ _ _) _) _ _ _); refine wpAny_BinOp ?_)
  | ((with_reducible show wpAny _ _ (eval (Expr.UnaryOp _ _ _) _) _ _ _); refine UnaryOp_ ?_)
  | ((with_reducible show wpAny _ _ (isTrue (Expr.Compare _ _ _ _) _ _) _ _ _); refine wpAny_isTrue_Compare1 ?_)
  | ((with_reducible show wpAny _ _ (isTrue (Expr.UnaryOp UnaryOp.Not _ _) _ _) _ _ _); refine isTrue_not ?_)
  | ((with_reducible show wpAny _ _ (isTrue (Expr.BoolOp BoolOp.And (_ :: _) _) _ _) _ _ _); refine isTrue_and ?_)
  | ((with_reducible show wpAny _ _ (isTrue (Expr.BoolOp BoolOp.Or (_ :: _) _) _ _) _ _ _); refine isTrue_or ?_)
  | ((with_reducible show wpAny _ _ (isTrue (Expr.Name _ _) _ _) _ _ _); refine isTrue_plain ?_)
  | ((with_reducible show wpAny _ _ (isTrue (Expr.Constant _ _ _) _ _) _ _ _); refine isTrue_plain ?_)
  | ((with_reducible show wpAny _ _ (isTrue (Expr.Call _ _ _ _) _ _) _ _ _); refine isTrue_plain ?_)
  | ((with_reducible show wpAny _ _ (isTrue (Expr.Attribute _ _ _) _ _) _ _ _); refine isTrue_plain ?_)
  | ((with_reducible show wpAny _ _ (unaryOp UnaryOp.Not _) _ _ _); refine not_of ?_)
  | ((with_reducible show wpAny _ _ (truthy (Value.bool _)) _ _ _); refine wpAny_truthy_bool ?_)
  | ((with_reducible show ite _ _ _); first | refine ite_t ?_ | refine ite_f ?_)
  | ((with_reducible show wpAny _ _ (execs (_ :: _) _) _ _ _); refine wpAny_execs_cons ?_)
  | ((with_reducible show wpAny _ _ (execs [] _) _ _ _); refine wpAny_execs_nil ?_)
  | ((with_reducible show wpAny _ _ (exec (Stmt.If _ _ _ _) _) _ _ _); refine wpAny_If ?_)
  | ((with_reducible show wpAny _ _ (exec (Stmt.Return (some _) _) _) _ _ _); refine wpAny_Return_some ?_)
  | ((with_reducible show wpAny _ _ (exec (Stmt.Assign [Expr.Attribute _ _ _] _ _) _) _ _ _); refine plainObj_wpAny_Assign_Attribute ?_)
  | ((with_reducible show wpAny _ _ (eval (Expr.Constant Const.none _ _) _) _ _ _); refine Constant_none ?_)
  | ((with_reducible show wpAny _ _ (spliced (backTo _ (starEach (_ :: _) _))) _ _ _); refine args_cons ?_)
  | ((with_reducible show wpAny _ _ (spliced (backTo _ (starEach [] _))) _ _ _); refine args_nil ?_))
local macro_rules | `(tactic| walk_at "sts") => `(tactic| repeat walk_at "st")
local macro_rules | `(tactic| walk_at "cw") => `(tactic| refine cw (by walk_at "ok") (by kernel_rfl) ?_ rfl rfl)
local macro_rules | `(tactic| walk_at "cwb") => `(tactic| refine cwb rfl ?_ rfl rfl)
local macro_rules | `(tactic| walk_at "mem") => `(tactic| simp [attrNames])

section
variable {w : World} {B : Heap} {M : Addr → Prop} {h₀ : Heap} {I₀ I : Im} {L : Addr} {m : Str → Option Value} {h : Heap} {g : Array GenState} {d : Drawn} {t : Nat} {o : OsState} {A : Around} {E : Value → Shared → Prop} {env : Env}
theorem len_lst {a : Addr} {xs : List Value} {Q : Value → Shared → Prop} (k : Ok w B I h g) (hl : Lst I a xs) (hz : xs.length ≤ 1000000) (hq : ∀ u t', Q (.int (xs.length : Int) u) ⟨h, g, d, t', o⟩) : wpAny (model PR w) A (call (.builtin "len") [.ref a]) Q E ⟨h, g, d, t, o⟩ :=
  call_len_list (hl.is k) (by rw [List.size_toArray]; omega) (by rw [List.size_toArray]; exact hq _ _)
theorem sub_lst {value slice : Expr} {a : Addr} {xs : List Value} {n : Int} {u : Tok} {x : Value} {Q : Value → Shared → Prop} (k : Ok w B I h g) (hl : Lst I a xs) (h0 : 0 ≤ n) (h1 : n < 2 ^ 63) (hx : xs[n.toNat]? = some x)
    (hs : subscripted slice false (.ref a) (.int n u) = operate [.ref a, .int n u] (getItem (.ref a) (.int n u))) (hq : Q x ⟨h, g, d, t, o⟩) :
    wpAny (model PR w) A (subscriptTail value slice (.ref a) (.int n u)) Q E ⟨h, g, d, t, o⟩ :=
  tail_any (hl.is k).typeIs slot_list_getitem.lookup (wpAny_getItem_list (hl.is k) h0 h1 (by simpa using hx) hq) hs
local macro_rules | `(tactic| walk_at "sl") => `(tactic| refine sub_lst (by walk_at "ok") (by assumption) (by decide) (by decide) rfl (by with_unfolding_all rfl) ?_)
theorem eq_int_is {a b : Int} {u v : Tok} {Q : Value → Shared → Prop} {s : Shared} (c : Bool) (e : (a == b) = c) (hq : Q (.bool c) s) : wpAny (model PR w) A (compareOp .Eq (.int a u) (.int b v)) Q E s := eq_int (by rw [e]; exact hq)
theorem expr_call (n : Nat) : ∀ (x : T), x.h ≤ n → ∀ {A : Around} {I : Im} {h : Heap} {g : Array GenState} {tk : Nat} {v : Value} {Q : Value → Shared → Prop} {E : Value → Shared → Prop},
    Ok w B I h g → Room A (n + 8) → TIn I x v → Gives w B d o h I (fun I' r => EIn I' x r) Q →
    wpAny (model PR w) A (call (.ref 615) [v]) Q E ⟨h, g, d, tk, o⟩ := by
  induction n with
  | zero => intro x hx; cases x <;> simp [T.h] at hx
  | succ n ih =>
    intro x hx A I h g tk v Q E k R hT hQ
    rw [show n + 1 + 8 = (n + 8) + 1 by omega] at R
    refine enter0 [(n_tree, v)] Mt k rfl (by kernel_rfl) R.d (by kernel_rfl) (by kernel_rfl) (by kernel_rfl) rfl rfl rfl fun h₁ t₁ E' S => ?_
    rcases x.four with ⟨x, rfl⟩ | ⟨c, rfl⟩ | hrec
    · obtain ⟨a, tk1, tk2, rfl, hu⟩ := hT
      walk_at "sts"; walk_at "nm"; walk_at "sts"; walk_at "s0"; walk_at "sts"; walk_at "eqt"; walk_at "sts"
      refine Call_ ?_
      refine nm_glob (v := .ref 335) S.ok rfl (by kernel_rfl) rfl (by kernel_rfl) (by kernel_rfl) ?_
      walk_at "cw"; walk_at "sts"; walk_at "nm"; walk_at "sts"; walk_at "s1"; walk_at "sts"
      exact ⟨S.ok.X, mk_sym S.ok ((R.deeper _).le (by omega)) fun r I2 h2 g2 t2 k2 G2 z => hQ _ _ _ _ _ k2 (S.G.trans G2) z⟩
    · obtain ⟨a, tk1, rfl, hu⟩ := hT
      walk_at "sts"; walk_at "nm"; walk_at "sts"; walk_at "s0"; walk_at "sts"
      refine eq_str_is false (by cases c <;> kernel_rfl) ?_
      walk_at "sts"; walk_at "nm"; walk_at "sts"; walk_at "s0"; walk_at "sts"
      refine new_lst S (by simp) fun h' I' S' hl ht => ?_
      walk_at "sts"
      refine in_two S'.ok ht (b := true) (by cases c <;> kernel_rfl) ?_
      have hu' := hu.le hl
      walk_at "sts"; walk_at "nm"; walk_at "sts"; walk_at "s0"; walk_at "sts"
      refine eq_str_is c (by cases c <;> kernel_rfl) ?_
      walk_at "sts"
      cases c with
      | true =>
        walk_at "sts"
        refine nm_glob (v := .ref 275) S'.ok rfl (by kernel_rfl) rfl (by kernel_rfl) (by kernel_rfl) ?_
        exact hQ _ _ _ _ _ S'.ok S'.G rfl
      | false =>
        walk_at "sts"
        refine nm_glob (v := .ref 279) S'.ok rfl (by kernel_rfl) rfl (by kernel_rfl) (by kernel_rfl) ?_
        exact hQ _ _ _ _ _ S'.ok S'.G rfl
    · have hk : ∃ wd a tk1 us ts, v = .ref a ∧ Tup I a (.str wd tk1 :: us) ∧ Each (TIn I) ts us ∧ (∀ (j : Nat) (u : T), ts[j]? = some u → u.h ≤ n) ∧ us.length ≤ 3 ∧
          ((wd = Str.ofString "not" ∧ ∃ y, x = .not y ∧ ts = [y]) ∨ ∃ kk, wd = opw kk ∧ x = mkOp kk ts ∧ (ts.length = 2 ∨ ts.length = 3)) := by
        rcases hrec with ⟨y, rfl⟩ | ⟨kk, ts, hop⟩
        · obtain ⟨a, tk1, u, rfl, hu, hx1⟩ := hT
          refine ⟨_, a, tk1, [u], [y], rfl, hu, .cons hx1 .nil, fun j u' e => ?_, by simp, .inl ⟨rfl, y, rfl, rfl⟩⟩
          cases j with
          | zero => simp at e; subst e; simp only [T.h] at hx; omega
          | succ j => simp at e
        · obtain ⟨a, tk1, us, rfl, hu, he⟩ := hT.op hop
          exact ⟨_, a, tk1, us, ts, rfl, hu, he, fun j u' e => by have := T.op_h hop e; omega, by rw [he.1]; rcases T.op_len hop with q | q <;> omega, .inr ⟨kk, rfl, T.op_mk hop, T.op_len hop⟩⟩
      obtain ⟨wd, a, tk1, us, ts, rfl, hu, he, hh, hlen, hkind⟩ := hk
      walk_at "sts"; walk_at "nm"; walk_at "sts"; walk_at "s0"; walk_at "sts"
      refine eq_str_is false (by rcases hkind with ⟨rfl, _⟩ | ⟨kk, rfl, _⟩; (· kernel_rfl); (· cases kk <;> kernel_rfl)) ?_
      walk_at "sts"; walk_at "nm"; walk_at "sts"; walk_at "s0"; walk_at "sts"
      refine new_lst S (by simp) fun h2 I2 S2 hl2 ht2 => ?_
      walk_at "sts"
      refine in_two S2.ok ht2 (b := false) (by rcases hkind with ⟨rfl, _⟩ | ⟨kk, rfl, _⟩; (· kernel_rfl); (· cases kk <;> kernel_rfl)) ?_
      have hu2 := hu.le hl2
      walk_at "sts"
      refine comp_assign (B := B) (d := d) (o := o) (cl := []) (M₀ := Mt) (h₀ := h) (I₀ := I) rfl R.hh rfl (by decide) rfl (by decide) (by kernel_rfl) (by kernel_rfl) rfl (fun _ => rfl) ?_
      refine cut1 S2 hu2 (by omega) (fun Q' hq => by walk_at "nm"; exact hq) (fun _ _ => rfl) fun h4 I4 D4 t4 S4 hl4 ht4 => ?_
      have hle4 : Le I I4 := hl2.trans hl4
      refine ⟨D4, us, I4, h4, g, t4, _, Mt, fun j I y => ∀ t', ts[j]? = some t' → EIn I t' y, fun _ => True, rfl, rfl, S4, .inl ht4, ht4.nM S4.ok, Nat.le_trans hlen (Nat.le_trans (by decide) sizeLine_big),
        { hM := S4.ok.hM, hR := fun i I I' y hl hr t' e => (hr t' e).le hl, hV := fun _ _ _ _ => trivial, hV0 := trivial, helt := ?_ }, fun _ z => .inl z, fun z => z.elim S4.ne.1 S4.ne.2, fun D5 h5 I5 g5 t5 ys S5 hle5 hl5 hlen5 hr5 _ => ?_⟩
      · intro i v C m I' h' g' t' Q' E' hi hP S' hm _ hK
        refine Call_ ?_
        refine nm_glob (v := .ref 615) S'.ok rfl (by kernel_rfl) rfl (by kernel_rfl) (by kernel_rfl) ?_
        walk_at "cw"; walk_at "sts"; walk_at "nm"; walk_at "sts"
        have hj : i < ts.length := by rw [← he.1]; exact hi
        refine ⟨S'.ok.X, ih ts[i] (hh i _ (List.getElem?_eq_getElem hj)) S'.ok (R.deeper _) ((he.2 i v ts[i] hP (List.getElem?_eq_getElem hj)).le (hle4.trans S'.G.le)) fun r I2 h2 g2 t2 k2 G2 z => ?_⟩
        exact hK _ _ _ _ _ k2 G2 trivial fun t' e => by rw [List.getElem?_eq_getElem hj] at e; cases e; exact z
      · rw [up_lk] at S5
        have hu5 := (hu2.le hl4).le hle5
        have hys : Each (EIn I5) ts ys := ⟨by rw [hlen5, he.1], fun j u t' e e' => hr5 j u e t' e'⟩
        walk_at "sts"; walk_at "nm"; walk_at "sts"; walk_at "s0"; walk_at "sts"
        rcases hkind with ⟨rfl, y, rfl, rfl⟩ | ⟨kk, rfl, rfl, hts⟩
        · walk_at "eqt"; walk_at "sts"
          obtain ⟨u1, r1, rfl, x1, e⟩ := hys.hd
          cases e.done
          refine Call_ ?_
          refine nm_glob (v := .ref 431) S5.ok rfl (by kernel_rfl) rfl (by kernel_rfl) (by kernel_rfl) ?_
          walk_at "cw"; walk_at "sts"; walk_at "nm"; walk_at "sts"; walk_at "sl"; walk_at "sts"
          exact ⟨S5.ok.X, mk_not S5.ok ((R.deeper _).le (by omega)) x1 fun r I2 h2 g2 t2 k2 G2 z => hQ _ _ _ _ _ k2 (S5.G.trans G2) z⟩
        · refine eq_str_is false (by cases kk <;> kernel_rfl) ?_
          walk_at "sts"; walk_at "nm"; walk_at "sts"; walk_at "s0"; walk_at "sts"
          refine eq_str_is (!kk) (by cases kk <;> kernel_rfl) ?_
          walk_at "sts"
          have hys0 := hys
          rcases hts with hts | hts
          · rcases ts with _ | ⟨a, _ | ⟨b, _ | _⟩⟩ <;> first | (exfalso; simp at hts; done) | skip
            obtain ⟨u1, r1, rfl, x1, hys⟩ := hys.hd
            obtain ⟨u2, r2, rfl, x2, hys⟩ := hys.hd
            cases hys.done
            cases kk with
            | true =>
              walk_at "sts"
              refine Call_ ?_
              refine nm_boot (v := .builtin "len") S5.ok rfl (by kernel_rfl) rfl rfl (by kernel_rfl) (by kernel_rfl) (by decide +kernel) (by kernel_rfl) ?_
              walk_at "cwb"; walk_at "sts"; walk_at "nm"; walk_at "sts"
              refine len_lst S5.ok hl5 (by simp) fun _ _ => ?_
              walk_at "sts"
              refine eq_int_is true (by rfl) ?_
              walk_at "sts"
              refine Call_ ?_
              refine nm_glob (v := .ref 603) S5.ok rfl (by kernel_rfl) rfl (by kernel_rfl) (by kernel_rfl) ?_
              walk_at "cw"; walk_at "sts"; walk_at "nm"; walk_at "sts"; walk_at "sl"; walk_at "sts"; walk_at "nm"; walk_at "sts"; walk_at "sl"; walk_at "sts"
              exact ⟨S5.ok.X, mk_op (kk := true) S5.ok ((R.deeper _).le (by omega)) (by simp) hys0 fun r I2 h2 g2 t2 k2 G2 z => hQ _ _ _ _ _ k2 (S5.G.trans G2) z⟩
            | false =>
              walk_at "sts"
              refine Call_ ?_
              refine nm_boot (v := .builtin "len") S5.ok rfl (by kernel_rfl) rfl rfl (by kernel_rfl) (by kernel_rfl) (by decide +kernel) (by kernel_rfl) ?_
              walk_at "cwb"; walk_at "sts"; walk_at "nm"; walk_at "sts"
              refine len_lst S5.ok hl5 (by simp) fun _ _ => ?_
              walk_at "sts"
              refine eq_int_is true (by rfl) ?_
              walk_at "sts"
              refine Call_ ?_
              refine nm_glob (v := .ref 554) S5.ok rfl (by kernel_rfl) rfl (by kernel_rfl) (by kernel_rfl) ?_
              walk_at "cw"; walk_at "sts"; walk_at "nm"; walk_at "sts"; walk_at "sl"; walk_at "sts"; walk_at "nm"; walk_at "sts"; walk_at "sl"; walk_at "sts"
              exact ⟨S5.ok.X, mk_op (kk := false) S5.ok ((R.deeper _).le (by omega)) (by simp) hys0 fun r I2 h2 g2 t2 k2 G2 z => hQ _ _ _ _ _ k2 (S5.G.trans G2) z⟩
          · rcases ts with _ | ⟨a, _ | ⟨b, _ | ⟨c, _ | _⟩⟩⟩ <;> first | (exfalso; simp at hts; done) | skip
            obtain ⟨u1, r1, rfl, x1, hys⟩ := hys.hd
            obtain ⟨u2, r2, rfl, x2, hys⟩ := hys.hd
            obtain ⟨u3, r3, rfl, x3, hys⟩ := hys.hd
            cases hys.done
            cases kk with
            | true =>
              walk_at "sts"
              refine Call_ ?_
              refine nm_boot (v := .builtin "len") S5.ok rfl (by kernel_rfl) rfl rfl (by kernel_rfl) (by kernel_rfl) (by decide +kernel) (by kernel_rfl) ?_
              walk_at "cwb"; walk_at "sts"; walk_at "nm"; walk_at "sts"
              refine len_lst S5.ok hl5 (by simp) fun _ _ => ?_
              walk_at "sts"
              refine eq_int_is false (by rfl) ?_
              walk_at "sts"
              refine Call_ ?_
              refine nm_glob (v := .ref 603) S5.ok rfl (by kernel_rfl) rfl (by kernel_rfl) (by kernel_rfl) ?_
              walk_at "cw"; walk_at "sts"; walk_at "nm"; walk_at "sts"; walk_at "sl"; walk_at "sts"; walk_at "nm"; walk_at "sts"; walk_at "sl"; walk_at "sts"; walk_at "nm"; walk_at "sts"; walk_at "sl"; walk_at "sts"
              exact ⟨S5.ok.X, mk_op (kk := true) S5.ok ((R.deeper _).le (by omega)) (by simp) hys0 fun r I2 h2 g2 t2 k2 G2 z => hQ _ _ _ _ _ k2 (S5.G.trans G2) z⟩
            | false =>
              walk_at "sts"
              refine Call_ ?_
              refine nm_boot (v := .builtin "len") S5.ok rfl (by kernel_rfl) rfl rfl (by kernel_rfl) (by kernel_rfl) (by decide +kernel) (by kernel_rfl) ?_
              walk_at "cwb"; walk_at "sts"; walk_at "nm"; walk_at "sts"
              refine len_lst S5.ok hl5 (by simp) fun _ _ => ?_
              walk_at "sts"
              refine eq_int_is false (by rfl) ?_
              walk_at "sts"
              refine Call_ ?_
              refine nm_glob (v := .ref 554) S5.ok rfl (by kernel_rfl) rfl (by kernel_rfl) (by kernel_rfl) ?_
              walk_at "cw"; walk_at "sts"; walk_at "nm"; walk_at "sts"; walk_at "sl"; walk_at "sts"; walk_at "nm"; walk_at "sts"; walk_at "sl"; walk_at "sts"; walk_at "nm"; walk_at "sts"; walk_at "sl"; walk_at "sts"
              exact ⟨S5.ok.X, mk_op (kk := false) S5.ok ((R.deeper _).le (by omega)) (by simp) hys0 fun r I2 h2 g2 t2 k2 G2 z => hQ _ _ _ _ _ k2 (S5.G.trans G2) z⟩

end
end Mine
namespace Mine
local macro_rules | `(tactic| walk_at "lk") => `(tactic| first | assumption | exact lk_hd (by decide +kernel) | exact lk_tl (by decide +kernel) (lk_hd (by decide +kernel)) | exact lk_tl (by decide +kernel) (lk_tl (by decide +kernel) (lk_hd (by decide +kernel))) | exact lk_tl (by decide +kernel) (lk_tl (by decide +kernel) (lk_tl (by decide +kernel) (lk_hd (by decide +kernel)))) | exact lk_tl (by decide +kernel) (lk_tl (by decide +kernel) (lk_tl (by decide +kernel) (lk_tl (by decide +kernel) (lk_hd (by decide +kernel))))))
local macro_rules | `(tactic| walk_at "ok") => `(tactic| first | assumption | exact St.ok (by assumption))
local macro_rules | `(tactic| walk_at "nm") => `(tactic| refine nm_loc (by assumption) rfl (by kernel_rfl) (by walk_at "lk") (by kernel_rfl) ?_)
local macro_rules | `(tactic| walk_at "s0") => `(tactic| refine sub0 (by walk_at "ok") (by assumption) (by with_unfolding_all rfl) ?_)
local macro_rules | `(tactic| walk_at "s1") => `(tactic| refine sub1 (by walk_at "ok") (by assumption) (by with_unfolding_all rfl) ?_)
local macro_rules | `(tactic| walk_at "eqt") => `(tactic| refine eq_str_is true (by kernel_rfl) ?_)
local macro_rules | `(tactic| walk_at "eqf") => `(tactic| refine eq_str_is false (by kernel_rfl) ?_)
local macro_rules | `(tactic| walk_at "st") => `(tactic| first
  | ((with_reducible show wpAny _ _ (eval (Expr.Constant (Const.str _) _ _) _) _ _ _); refine c_str ?_)
  | ((with_reducible show wpAny _ _ (eval (Expr.Constant (Const.int _) _ _) _) _ _ _); refine c_int ?_)
  | ((with_reducible show wpAny _ _ (eval (Expr.Constant (Const.bool _) _ _) _) _ _ _); refine wpAny_Constant_bool ?_)
  | ((with_reducible show wpAny _ _ (eval (Expr.Subscript _ (Expr.Constant _ _ _) _) _) _ _ _); refine Subscript_ ?_)
  | ((with_reducible show wpAny _ _ (eval (Expr.Compare _ _ _ _) _) _ _ _); refine wpAny_Compare1 ?_)
  | ((with_reducible show wpAny _ _ (eval (Expr.IfExp _ _ _ _) _) _ _ _); refine IfExp_ ?_)
  | ((with_reducible show wpAny _ _ (eval (Expr.Tuple _ _ _) _) _ _ _); refine Tuple_ ?_)
  | ((with_reducible show wpAny _ _ (eval (Expr.List _ _) _) _ _ _); refine List_ ?_)
  | ((with_reducible show wpAny _ _ (eval (Expr.BinOp _ _ _ _) _) _ _ _); refine wpAny_BinOp ?_)
  | ((with_reducible show wpAny _ _ (eval (Expr.UnaryOp _ _ _) _) _ _ _); refine UnaryOp_ ?_)
  | ((with_reducible show wpAny _ _ (isTrue (Expr.Compare _ _ _ _) _ _) _ _ _); refine wpAny_isTrue_Compare1 ?_)
  | ((with_reducible show wpAny _ _ (isTrue (Expr.UnaryOp UnaryOp.Not _ _) _ _) _ _ _); refine isTrue_not ?_)
  | ((with_reducible show wpAny _ _ (isTrue (Expr.BoolOp BoolOp.And (_ :: _) _) _ _) _ _ _); refine isTrue_and ?_)
  | ((with_reducible show wpAny _ _ (isTrue (Expr.BoolOp BoolOp.Or (_ :: _) _) _ _) _ _ _); refine isTrue_or ?_)
  | ((with_reducible show wpAny _ _ (isTrue (Expr.Name _ _) _ _) _ _ _); refine isTrue_plain ?_)
  | ((with_reducible show wpAny _ _ (isTrue (Expr.Constant _ _ _) _ _) _ _ _); refine isTrue_plain ?_)
  | ((with_reducible show wpAny _ _ (isTrue (Expr.Call _ _ _ _) _ _) _ _ _); refine isTrue_plain ?_)
  | ((with_reducible show wpAny _ _ (isTrue (Expr.Attribute _ _ _) _ _) _ _ _); refine isTrue_plain ?_)
  | ((with_reducible show wpAny _ _ (unaryOp UnaryOp.Not _) _ _ _); refine not_of ?_)
  | ((with_reducible show wpAny _ _ (truthy (Value.bool _)) _ _ _); refine wpAny_truthy_bool ?_)
  | ((with_reducible show ite _ _ _); first | refine ite_t ?_ | refine ite_f ?_)
  | ((with_reducible show wpAny _ _ (execs (_ :: _) _) _ _ _); refine wpAny_execs_cons ?_)
  | ((with_reducible show wpAny _ _ (execs [] _) _ _ _); refine wpAny_execs_nil ?_)
  | ((with_reducible show wpAny _ _ (exec (Stmt.If _ _ _ _) _) _ _ _); refine wpAny_If ?_)
  | ((with_reducible show wpAny _ _ (exec (Stmt.Return (some _) _) _) _ _ _); refine wpAny_Return_some ?_)
  | ((with_reducible show wpAny _ _ (exec (Stmt.Assign [Expr.Attribute _ _ _] _ _) _) _ _ _); refine plainObj_wpAny_Assign_Attribute ?_)
  | ((with_reducible show wpAny _ _ (eval (Expr.Constant Const.none _ _) _) _ _ _); refine Constant_none ?_)
  | ((with_reducible show wpAny _ _ (spliced (backTo _ (starEach (_ :: _) _))) _ _ _); refine args_cons ?_)
  | ((with_reducible show wpAny _ _ (spliced (backTo _ (starEach [] _))) _ _ _); refine args_nil ?_))
local macro_rules | `(tactic| walk_at "sts") => `(tactic| repeat walk_at "st")
local macro_rules | `(tactic| walk_at "cw") => `(tactic| refine cw (by walk_at "ok") (by kernel_rfl) ?_ rfl rfl)
local macro_rules | `(tactic| walk_at "cwb") => `(tactic| refine cwb rfl ?_ rfl rfl)
local macro_rules | `(tactic| walk_at "mem") => `(tactic| simp [attrNames])

section
variable {w : World} {B : Heap} {M : Addr → Prop} {h₀ : Heap} {I₀ I : Im} {L : Addr} {m : Str → Option Value} {h : Heap} {g : Array GenState} {d : Drawn} {t : Nat} {o : OsState} {A : Around} {E : Value → Shared → Prop} {env : Env}

theorem isTrue_nil_or {pos : Pos} {whole : Sem Value} {s : Shared} {Q : Bool → Shared → Prop} (hq : Q false s) : wpAny (model PR w) A (isTrue (.BoolOp .Or [] pos) env whole) Q E s := wpAny_pure hq
theorem isTrue_nil_and {pos : Pos} {whole : Sem Value} {s : Shared} {Q : Bool → Shared → Prop} (hq : Q true s) : wpAny (model PR w) A (isTrue (.BoolOp .And [] pos) env whole) Q E s := wpAny_pure hq
theorem Each.append {R : T → Value → Prop} : ∀ {ts : List T} {us : List Value} {ts' : List T} {us' : List Value}, Each R ts us → Each R ts' us' → Each R (ts ++ ts') (us ++ us')
  | [], us, ts', us', a, b => by cases a.done; exact b
  | t :: ts, us, ts', us', a, b => by
    obtain ⟨u, r, rfl, x, e⟩ := a.hd
    exact .cons x (e.append b)
def T.kids : T → List T | .sym _ => [] | .con _ => [] | .not t => [t] | .op2 _ a b => [a, b] | .op3 _ a b c => [a, b, c]
def T.word : T → Str | .sym _ => Str.ofString "sym" | .con b => conw b | .not _ => Str.ofString "not" | .op2 k _ _ => opw k | .op3 k _ _ _ => opw k
def T.lits : T → List T
  | .sym x => [.sym x] | .con _ => [] | .not (.sym x) => [.not (.sym x)] | .not (.con _) => [] | .not (.not t) => (T.not t).lits | .not (.op2 _ a b) => a.lits ++ b.lits | .not (.op3 _ a b c) => a.lits ++ (b.lits ++ c.lits) | .op2 _ a b => a.lits ++ b.lits | .op3 _ a b c => a.lits ++ (b.lits ++ c.lits)
def T.isLit : T → Bool | .sym _ => true | .not (.sym _) => true | _ => false
theorem T.lits_lit {x : T} (h : x.isLit = true) : x.lits = [x] := by
  cases x with
  | sym _ => rfl
  | not t => cases t <;> first | rfl | cases h
  | _ => cases h
theorem T.lits_rec {x : T} (h : x.isLit = false) : x.lits = (x.kids.map T.lits).flatten := by
  cases x with
  | sym _ => cases h
  | con _ => rfl
  | not t =>
    cases t with
    | sym _ => simp [T.isLit] at h
    | _ => simp [T.lits, T.kids]
  | op2 k a b => simp [T.lits, T.kids]
  | op3 k a b c => simp [T.lits, T.kids]
theorem T.kids_h {x u : T} {j : Nat} (e : x.kids[j]? = some u) : u.h < x.h := by
  have hm := List.mem_of_getElem? e
  cases x <;> simp only [T.kids, List.mem_cons, List.not_mem_nil, or_false] at hm
  · subst hm; simp [T.h]
  · rcases hm with rfl | rfl <;> simp only [T.h] <;> omega
  · rcases hm with rfl | rfl | rfl <;> simp only [T.h] <;> omega
theorem T.kids_len (x : T) : x.kids.length ≤ 3 := by cases x <;> simp [T.kids]
theorem TIn.gen {x : T} {v : Value} (hs : x.isSym = false) (hx : TIn I x v) : ∃ a tk us, v = .ref a ∧ Tup I a (.str x.word tk :: us) ∧ Each (TIn I) x.kids us := by
  cases x with
  | sym _ => cases hs
  | con b => obtain ⟨a, tk, rfl, h⟩ := hx; exact ⟨a, tk, [], rfl, h, .nil⟩
  | not t => obtain ⟨a, tk, u, rfl, h, x⟩ := hx; exact ⟨a, tk, _, rfl, h, .cons x .nil⟩
  | op2 k a b => obtain ⟨a, tk, us, e, h, x⟩ := hx.op (k := k) (ts := [a, b]) rfl; exact ⟨a, tk, us, e, h, x⟩
  | op3 k a b c => obtain ⟨a, tk, us, e, h, x⟩ := hx.op (k := k) (ts := [a, b, c]) rfl; exact ⟨a, tk, us, e, h, x⟩

theorem add_lst' {a b : Addr} {xs ys : List Value} {Q : Value → Shared → Prop} (S : St w B M h₀ I₀ L m I h g) (ha : Lst I a xs) (hb : Lst I b ys) (hsz : xs.length + ys.length ≤ 1000000)
    (hq : ∀ h' I' D, St w B M h₀ I₀ L m I' h' g → Ext h I h' I' → Lst I' D (xs ++ ys) → Q (.ref D) ⟨h', g, d, t, o⟩) : wpAny (model PR w) A (binaryOp .Add (.ref a) (.ref b)) Q E ⟨h, g, d, t, o⟩ := by
  obtain ⟨n, ea⟩ := ha
  obtain ⟨n', eb⟩ := hb
  have e : xs.toArray ++ ys.toArray = (xs ++ ys).toArray := by simp
  have S1 := S.new { cls := .type "list", data := .seq (xs.toArray ++ ys.toArray) } rfl
  refine P.add_list (items := xs.toArray) (items2 := ys.toArray) (S.ok.sub _ _ ea) (S.ok.sub _ _ eb) (hq _ _ _ S1 (Ext.grown (fun _ _ e => Heap.get?_push_of_some _ e) S.ok.none_size) ?_) (by rw [List.size_toArray, List.size_toArray]; exact Nat.le_trans hsz sizeLine_big)
  rw [e]
  exact ⟨_, Im.up_self⟩
theorem put' {l : List (Str × Value)} {x : Str} {v : Value} {Q : Unit → Shared → Prop}
    (S : St w B M h₀ I₀ env.locals (fun z => l.lookup z) I h g) (hn : env.kindOf x = some .local) (hs : (env.scope.kind == .class || (env.scope.kind == .module && env.locals != env.globals)) = false)
    (hq : ∀ h', St w B M h₀ I₀ env.locals (fun z => List.lookup z ((x, v) :: l)) I h' g → Grow (fun a => a = env.locals) h I h' I → Q () ⟨h', g, d, t + 1, o⟩) :
    wpAny (model PR w) A (storeName env x v) Q E ⟨h, g, d, t, o⟩ :=
  put S hn hs fun h' S' kk => hq h' S' ⟨.refl I, fun a q e => by
    by_cases z : a = env.locals
    · subst z; obtain ⟨o, es, ep, e', _⟩ := S'.ns; exact ⟨o, e'⟩
    · exact ⟨q, kk a q z e⟩, fun _ _ _ _ _ e => e, fun a q n e => kk a q n e⟩
end
end Mine
namespace Mine
local macro_rules | `(tactic| walk_at "lk") => `(tactic| first | assumption | exact lk_hd (by decide +kernel) | exact lk_tl (by decide +kernel) (lk_hd (by decide +kernel)) | exact lk_tl (by decide +kernel) (lk_tl (by decide +kernel) (lk_hd (by decide +kernel))) | exact lk_tl (by decide +kernel) (lk_tl (by decide +kernel) (lk_tl (by decide +kernel) (lk_hd (by decide +kernel)))) | exact lk_tl (by decide +kernel) (lk_tl (by decide +kernel) (lk_tl (by decide +kernel) (lk_tl (by decide +kernel) (lk_hd (by decide +kernel))))))
local macro_rules | `(tactic| walk_at "ok") => `(tactic| first | assumption | exact St.ok (by assumption))
local macro_rules | `(tactic| walk_at "nm") => `(tactic| refine nm_loc (by assumption) rfl (by kernel_rfl) (by walk_at "lk") (by kernel_rfl) ?_)
local macro_rules | `(tactic| walk_at "s0") => `(tactic| refine sub0 (by walk_at "ok") (by assumption) (by with_unfolding_all rfl) ?_)
local macro_rules | `(tactic| walk_at "s1") => `(tactic| refine sub1 (by walk_at "ok") (by assumption) (by with_unfolding_all rfl) ?_)
local macro_rules | `(tactic| walk_at "eqt") => `(tactic| refine eq_str_is true (by kernel_rfl) ?_)
local macro_rules | `(tactic| walk_at "eqf") => `(tactic| refine eq_str_is false (by kernel_rfl) ?_)
local macro_rules | `(tactic| walk_at "st") => `(tactic| first
  | ((with_reducible show wpAny _ _ (eval (Expr.Constant (Const.str _) _ _) _) _ _ _); refine c_str ?_)
  | ((with_reducible show wpAny _ _ (eval (Expr.Constant (Const.int _) _ _) _) _ _ _); refine c_int ?_)
  | ((with_reducible show wpAny _ _ (eval (Expr.Constant (Const.bool _) _ _) _) _ _ _); refine wpAny_Constant_bool ?_)
  | ((with_reducible show wpAny _ _ (eval (Expr.Subscript _ (Expr.Constant _ _ _) _) _) _ _ _); refine Subscript_ ?_)
  | ((with_reducible show wpAny _ _ (eval (Expr.Compare _ _ _ _) _) _ _ _); refine wpAny_Compare1 ?_)
  | ((with_reducible show wpAny _ _ (eval (Expr.IfExp _ _ _ _) _) _ _ _); refine IfExp_ ?_)
  | ((with_reducible show wpAny _ _ (eval (Expr.Tuple _ _ _) _) _ _ _); refine Tuple_ ?_)
  | ((with_reducible show wpAny _ _ (eval (Expr.List _ _) _) _ _ _); refine List_ ?_)
  | ((with_reducible show wpAny _ _ (eval (Expr.BinOp _ _ _ _) _) _ _ _); refine wpAny_BinOp ?_)
  | ((with_reducible show wpAny _ _ (eval (Expr.UnaryOp _ _ _) _) _ _ _); refine UnaryOp_ ?_)
  | ((with_reducible show wpAny _ _ (isTrue (Expr.Compare _ _ _ _) _ _) _ _ _); refine wpAny_isTrue_Compare1 ?_)
  | ((with_reducible show wpAny _ _ (isTrue (Expr.UnaryOp UnaryOp.Not _ _) _ _) _ _ _); refine isTrue_not ?_)
  | ((with_reducible show wpAny _ _ (isTrue (Expr.BoolOp BoolOp.And (_ :: _) _) _ _) _ _ _); refine isTrue_and ?_)
  | ((with_reducible show wpAny _ _ (isTrue (Expr.BoolOp BoolOp.Or (_ :: _) _) _ _) _ _ _); refine isTrue_or ?_)
  | ((with_reducible show wpAny _ _ (isTrue (Expr.BoolOp BoolOp.Or [] _) _ _) _ _ _); refine isTrue_nil_or ?_)
  | ((with_reducible show wpAny _ _ (isTrue (Expr.BoolOp BoolOp.And [] _) _ _) _ _ _); refine isTrue_nil_and ?_)
  | ((with_reducible show wpAny _ _ (isTrue (Expr.Name _ _) _ _) _ _ _); refine isTrue_plain ?_)
  | ((with_reducible show wpAny _ _ (isTrue (Expr.Constant _ _ _) _ _) _ _ _); refine isTrue_plain ?_)
  | ((with_reducible show wpAny _ _ (isTrue (Expr.Call _ _ _ _) _ _) _ _ _); refine isTrue_plain ?_)
  | ((with_reducible show wpAny _ _ (isTrue (Expr.Attribute _ _ _) _ _) _ _ _); refine isTrue_plain ?_)
  | ((with_reducible show wpAny _ _ (unaryOp UnaryOp.Not _) _ _ _); refine not_of ?_)
  | ((with_reducible show wpAny _ _ (truthy (Value.bool _)) _ _ _); refine wpAny_truthy_bool ?_)
  | ((with_reducible show ite _ _ _); first | refine ite_t ?_ | refine ite_f ?_)
  | ((with_reducible show wpAny _ _ (execs (_ :: _) _) _ _ _); refine wpAny_execs_cons ?_)
  | ((with_reducible show wpAny _ _ (execs [] _) _ _ _); refine wpAny_execs_nil ?_)
  | ((with_reducible show wpAny _ _ (exec (Stmt.If _ _ _ _) _) _ _ _); refine wpAny_If ?_)
  | ((with_reducible show wpAny _ _ (exec (Stmt.Return (some _) _) _) _ _ _); refine wpAny_Return_some ?_)
  | ((with_reducible show wpAny _ _ (exec (Stmt.Assign [Expr.Attribute _ _ _] _ _) _) _ _ _); refine plainObj_wpAny_Assign_Attribute ?_)
  | ((with_reducible show wpAny _ _ (eval (Expr.Constant Const.none _ _) _) _ _ _); refine Constant_none ?_)
  | ((with_reducible show wpAny _ _ (spliced (backTo _ (starEach (_ :: _) _))) _ _ _); refine args_cons ?_)
  | ((with_reducible show wpAny _ _ (spliced (backTo _ (starEach [] _))) _ _ _); refine args_nil ?_))
local macro_rules | `(tactic| walk_at "sts") => `(tactic| repeat walk_at "st")
local macro_rules | `(tactic| walk_at "cw") => `(tactic| refine cw (by walk_at "ok") (by kernel_rfl) ?_ rfl rfl)
local macro_rules | `(tactic| walk_at "cwb") => `(tactic| refine cwb rfl ?_ rfl rfl)
local macro_rules | `(tactic| walk_at "mem") => `(tactic| simp [attrNames])
local macro_rules | `(tactic| walk_at "sl") => `(tactic| refine sub_lst (by walk_at "ok") (by assumption) (by decide) (by decide) rfl (by with_unfolding_all rfl) ?_)

section
variable {w : World} {B : Heap} {M : Addr → Prop} {h₀ : Heap} {I₀ I : Im} {L : Addr} {m : Str → Option Value} {h : Heap} {g : Array GenState} {d : Drawn} {t : Nat} {o : OsState} {A : Around} {E : Value → Shared → Prop} {env : Env}

theorem word_sym {x : T} (h : x.isSym = false) : (x.word == (⟨⟨[115, 121, 109]⟩⟩ : Str)) = false := by
  cases x with
  | sym _ => cases h
  | con b => cases b <;> kernel_rfl
  | not _ => kernel_rfl
  | op2 b _ _ => cases b <;> kernel_rfl
  | op3 b _ _ _ => cases b <;> kernel_rfl
theorem word_not {x : T} : (x.word == (⟨⟨[110, 111, 116]⟩⟩ : Str)) = x.isNot := by
  cases x with
  | sym _ => kernel_rfl
  | con b => cases b <;> kernel_rfl
  | not _ => kernel_rfl
  | op2 b _ _ => cases b <;> kernel_rfl
  | op3 b _ _ _ => cases b <;> kernel_rfl
theorem T.lits_part {x : T} (hl : x.isLit = false) {i : Nat} {u : T} (e : x.kids[i]? = some u) : u.lits.length ≤ x.lits.length ∧ ((x.kids.take i).map T.lits).flatten.length + u.lits.length ≤ x.lits.length ∧ ((x.kids.take (i + 1)).map T.lits).flatten = ((x.kids.take i).map T.lits).flatten ++ u.lits := by
  obtain ⟨hi, he⟩ := List.getElem?_eq_some_iff.mp e
  have h1 : ((x.kids.take (i + 1)).map T.lits).flatten = ((x.kids.take i).map T.lits).flatten ++ u.lits := by
    rw [List.take_succ_eq_append_getElem hi, he]; simp
  have h2 : x.lits = ((x.kids.take (i + 1)).map T.lits).flatten ++ ((x.kids.drop (i + 1)).map T.lits).flatten := by
    rw [T.lits_rec hl, ← List.flatten_append, ← List.map_append, List.take_append_drop]
  have h3 := congrArg List.length h2
  rw [h1] at h3
  simp only [List.length_append] at h3
  exact ⟨by omega, by omega, h1⟩
theorem lits_call (n : Nat) : ∀ (x : T), x.h ≤ n → x.lits.length ≤ 1000000 → ∀ {A : Around} {I : Im} {h : Heap} {g : Array GenState} {tk : Nat} {v : Value} {Q : Value → Shared → Prop} {E : Value → Shared → Prop},
    Ok w B I h g → Room A (n + 1) → TIn I x v → Gives w B d o h I (fun I' r => ∃ F vs, r = .ref F ∧ Lst I' F vs ∧ Each (TIn I') x.lits vs) Q →
    wpAny (model PR w) A (call (.ref 627) [v]) Q E ⟨h, g, d, tk, o⟩ := by
  induction n with
  | zero => intro x hx; cases x <;> simp [T.h] at hx
  | succ n ih =>
    intro x hx hsz A I h g tk v Q E k R hT hQ
    refine enter0 [(n_tree, v)] Mt k rfl (by kernel_rfl) R.d (by kernel_rfl) (by kernel_rfl) (by kernel_rfl) rfl rfl rfl fun h₁ t₁ E' S => ?_
    cases hl : x.isLit with
    | true =>
      have hlit := T.lits_lit hl
      rw [hlit] at hQ
      cases x with
      | sym y =>
        have hT0 := hT
        obtain ⟨a, tk1, tk2, rfl, hu⟩ := hT
        walk_at "sts"; walk_at "nm"; walk_at "sts"; walk_at "s0"; walk_at "sts"; walk_at "eqt"; walk_at "sts"; walk_at "nm"; walk_at "sts"
        refine new_lst S (by simp) fun h' I' S' hl' ht => ?_
        exact hQ _ _ _ _ _ S'.ok S'.G ⟨_, _, rfl, ht, .cons (hT0.le hl') .nil⟩
      | not y =>
        cases y with
        | sym y =>
          have hT0 := hT
          obtain ⟨a, tk1, u, rfl, hu, a2, tk2, tk3, rfl, hu2⟩ := hT
          walk_at "sts"; walk_at "nm"; walk_at "sts"; walk_at "s0"; walk_at "sts"; walk_at "eqf"; walk_at "sts"
          walk_at "nm"; walk_at "sts"; walk_at "s0"; walk_at "sts"; walk_at "eqt"; walk_at "sts"
          walk_at "nm"; walk_at "sts"; walk_at "s1"; walk_at "sts"; walk_at "s0"; walk_at "sts"; walk_at "eqt"; walk_at "sts"; walk_at "nm"; walk_at "sts"
          refine new_lst S (by simp) fun h' I' S' hl' ht => ?_
          exact hQ _ _ _ _ _ S'.ok S'.G ⟨_, _, rfl, ht, .cons (hT0.le hl') .nil⟩
        | _ => simp [T.isLit] at hl
      | _ => simp [T.isLit] at hl
    | false =>
      have hns : x.isSym = false := by cases x <;> first | rfl | (simp [T.isLit] at hl)
      obtain ⟨a, tk1, us, rfl, hu, he⟩ := hT.gen hns
      refine wpAny_execs_cons (wpAny_mono (Q := fun f s => f = .next ∧ ∃ t', s = ⟨h₁, g, d, t', o⟩) ?_ (fun f s z => ?_) fun _ _ e => e)
      · walk_at "sts"; walk_at "nm"; walk_at "sts"; walk_at "s0"; walk_at "sts"
        refine eq_str_is false (word_sym hns) ?_
        walk_at "sts"; walk_at "nm"; walk_at "sts"; walk_at "s0"; walk_at "sts"
        refine eq_str_is x.isNot word_not ?_
        walk_at "sts"
        cases hn : x.isNot with
        | false => walk_at "sts"; exact ⟨rfl, _, rfl⟩
        | true =>
          cases x with
          | not y =>
            have hys : y.isSym = false := by cases y <;> first | rfl | (simp [T.isLit] at hl)
            obtain ⟨u1, r1, rfl, x1, e⟩ := he.hd
            cases e.done
            obtain ⟨a2, tk2, us2, rfl, hu2, he2⟩ := x1.gen hys
            walk_at "sts"; walk_at "nm"; walk_at "sts"; walk_at "s1"; walk_at "sts"; walk_at "s0"; walk_at "sts"
            refine eq_str_is false (word_sym hys) ?_
            walk_at "sts"
            exact ⟨rfl, _, rfl⟩
          | _ => cases hn
      · obtain ⟨rfl, t2, rfl⟩ := z
        show wpAny _ _ _ _ _ _
        walk_at "sts"
        refine wpAny_Assign_Name ?_
        walk_at "sts"
        refine new_lst S (by simp) fun h3 I3 S3 hl3 ht3 => ?_
        refine put S3 (by kernel_rfl) rfl fun h4 S4 _ => ?_
        walk_at "sts"
        have hlen : us.length ≤ 3 := by rw [he.1]; exact x.kids_len
        refine wpAny_For (cut1 S4 (hu.le hl3) (by omega) (fun Q' hq => by walk_at "nm"; exact hq) (fun _ _ => rfl) fun h5 I5 D5 t5 S5 hl5 ht5 => ?_) (fun _ => rfl)
        have hle5 : Le I I5 := hl3.trans hl5
        refine for_tup S5 ht5 R.hh (by kernel_rfl) rfl (fun a => Mt a ∨ a = h.objs.size) (fun a z => z.elim (S5.ok.hM a) fun z => by subst z; obtain ⟨o, es, ep, e, _⟩ := S5.ns; exact ⟨_, e⟩)
          (fun i J _ l => l.lookup n_tree = some (.ref a) ∧ ∃ F vs, l.lookup n_found = some (.ref F) ∧ Lst J F vs ∧ Each (TIn J) ((x.kids.take i).map T.lits).flatten vs)
          (fun _ _ _ _ _ _ z => z) (fun i J h l v z => ?_) ⟨by walk_at "lk", _, _, by walk_at "lk", ht3.le hl5, .nil⟩ (fun i v I' h' g' t' l' E' hv S' hle' hj => ?_) fun I' h' g' t' l' S' hle' hj => ?_
        · obtain ⟨z1, F, vs, z2, z3, z4⟩ := z
          exact ⟨lk_tl (by decide +kernel) z1, F, vs, lk_tl (by decide +kernel) z2, z3, z4⟩
        · obtain ⟨hj1, F, vs, hj2, hj3, hj4⟩ := hj
          have hik : i < x.kids.length := by rw [← he.1]; exact (List.getElem?_eq_some_iff.mp hv).1
          have hke := List.getElem?_eq_getElem hik
          obtain ⟨p1, p2, p3⟩ := T.lits_part hl hke
          have hlk : List.lookup n_part ((n_part, v) :: l') = some v := lk_hd (by decide +kernel)
          refine wpAny_execs_cons (wpAny_Assign_Name ?_)
          walk_at "sts"; walk_at "nm"
          refine Call_ ?_
          refine nm_glob (v := .ref 627) S'.ok rfl (by kernel_rfl) rfl (by kernel_rfl) (by kernel_rfl) ?_
          walk_at "cw"; walk_at "sts"; walk_at "nm"; walk_at "sts"
          refine ⟨S'.ok.X, ih x.kids[i] (by have := T.kids_h hke; omega) (by omega) S'.ok (R.deeper _) ((he.2 i v _ hv hke).le (hle5.trans hle')) fun r I6 h6 g6 t6 k6 G6 z => ?_⟩
          obtain ⟨F6, vs6, rfl, hF6, hE6⟩ := z
          have S6 := S'.after k6 G6 fun _ q => q
          walk_at "sts"
          have hlv := hj4.1
          have hlv6 := hE6.1
          refine add_lst' S6 (hj3.le G6.le) hF6 (by omega) fun h7 I7 D7 S7 G7 ht7 => ?_
          refine put' S7 (by kernel_rfl) rfl fun h8 S8 G8 => ?_
          walk_at "sts"
          refine ⟨rfl, I7, h8, g6, _, _, rfl, S8, ((G6.mono fun _ z => .inl z).trans (G7.mono fun _ z => z.elim)).trans (G8.mono fun _ z => .inr z), lk_tl (by decide +kernel) hj1, D7, _, lk_hd (by decide +kernel), ht7, ?_⟩
          rw [p3]
          exact (hj4.le fun _ _ z => (z.le G6.le).le G7.le).append (hE6.le fun _ _ z => z.le G7.le)
        · obtain ⟨hj1, F, vs, hj2, hj3, hj4⟩ := hj
          show wpAny _ _ _ _ _ _
          walk_at "sts"
          refine nm_loc S' rfl (by kernel_rfl) hj2 (by kernel_rfl) ?_
          refine hQ _ _ _ _ _ S'.ok S'.G ⟨F, vs, rfl, hj3, ?_⟩
          rw [T.lits_rec hl]
          rw [he.1, List.take_length] at hj4
          exact hj4

end
end Mine
namespace Mine
local macro_rules | `(tactic| walk_at "lk") => `(tactic| first | assumption | exact lk_hd (by decide +kernel) | exact lk_tl (by decide +kernel) (lk_hd (by decide +kernel)) | exact lk_tl (by decide +kernel) (lk_tl (by decide +kernel) (lk_hd (by decide +kernel))) | exact lk_tl (by decide +kernel) (lk_tl (by decide +kernel) (lk_tl (by decide +kernel) (lk_hd (by decide +kernel)))) | exact lk_tl (by decide +kernel) (lk_tl (by decide +kernel) (lk_tl (by decide +kernel) (lk_tl (by decide +kernel) (lk_hd (by decide +kernel))))))
local macro_rules | `(tactic| walk_at "ok") => `(tactic| first | assumption | exact St.ok (by assumption))
local macro_rules | `(tactic| walk_at "nm") => `(tactic| refine nm_loc (by assumption) rfl (by kernel_rfl) (by walk_at "lk") (by kernel_rfl) ?_)
local macro_rules | `(tactic| walk_at "s0") => `(tactic| refine sub0 (by walk_at "ok") (by assumption) (by with_unfolding_all rfl) ?_)
local macro_rules | `(tactic| walk_at "s1") => `(tactic| refine sub1 (by walk_at "ok") (by assumption) (by with_unfolding_all rfl) ?_)
local macro_rules | `(tactic| walk_at "eqt") => `(tactic| refine eq_str_is true (by kernel_rfl) ?_)
local macro_rules | `(tactic| walk_at "eqf") => `(tactic| refine eq_str_is false (by kernel_rfl) ?_)
local macro_rules | `(tactic| walk_at "st") => `(tactic| first
  | ((with_reducible show wpAny _ _ (eval (Expr.Constant (Const.str _) _ _) _) _ _ _); refine c_str ?_)
  | ((with_reducible show wpAny _ _ (eval (Expr.Constant (Const.int _) _ _) _) _ _ _); refine c_int ?_)
  | ((with_reducible show wpAny _ _ (eval (Expr.Constant (Const.bool _) _ _) _) _ _ _); refine wpAny_Constant_bool ?_)
  | ((with_reducible show wpAny _ _ (eval (Expr.Subscript _ (Expr.Constant _ _ _) _) _) _ _ _); refine Subscript_ ?_)
  | ((with_reducible show wpAny _ _ (eval (Expr.Compare _ _ _ _) _) _ _ _); refine wpAny_Compare1 ?_)
  | ((with_reducible show wpAny _ _ (eval (Expr.IfExp _ _ _ _) _) _ _ _); refine IfExp_ ?_)
  | ((with_reducible show wpAny _ _ (eval (Expr.Tuple _ _ _) _) _ _ _); refine Tuple_ ?_)
  | ((with_reducible show wpAny _ _ (eval (Expr.List _ _) _) _ _ _); refine List_ ?_)
  | ((with_reducible show wpAny _ _ (eval (Expr.BinOp _ _ _ _) _) _ _ _); refine wpAny_BinOp ?_)
  | ((with_reducible show wpAny _ _ (eval (Expr.UnaryOp _ _ _) _) _ _ _); refine UnaryOp_ ?_)
  | ((with_reducible show wpAny _ _ (isTrue (Expr.Compare _ _ _ _) _ _) _ _ _); refine wpAny_isTrue_Compare1 ?_)
  | ((with_reducible show wpAny _ _ (isTrue (Expr.UnaryOp UnaryOp.Not _ _) _ _) _ _ _); refine isTrue_not ?_)
  | ((with_reducible show wpAny _ _ (isTrue (Expr.BoolOp BoolOp.And (_ :: _) _) _ _) _ _ _); refine isTrue_and ?_)
  | ((with_reducible show wpAny _ _ (isTrue (Expr.BoolOp BoolOp.Or (_ :: _) _) _ _) _ _ _); refine isTrue_or ?_)
  | ((with_reducible show wpAny _ _ (isTrue (Expr.BoolOp BoolOp.Or [] _) _ _) _ _ _); refine isTrue_nil_or ?_)
  | ((with_reducible show wpAny _ _ (isTrue (Expr.BoolOp BoolOp.And [] _) _ _) _ _ _); refine isTrue_nil_and ?_)
  | ((with_reducible show wpAny _ _ (isTrue (Expr.Name _ _) _ _) _ _ _); refine isTrue_plain ?_)
  | ((with_reducible show wpAny _ _ (isTrue (Expr.Constant _ _ _) _ _) _ _ _); refine isTrue_plain ?_)
  | ((with_reducible show wpAny _ _ (isTrue (Expr.Call _ _ _ _) _ _) _ _ _); refine isTrue_plain ?_)
  | ((with_reducible show wpAny _ _ (isTrue (Expr.Attribute _ _ _) _ _) _ _ _); refine isTrue_plain ?_)
  | ((with_reducible show wpAny _ _ (unaryOp UnaryOp.Not _) _ _ _); refine not_of ?_)
  | ((with_reducible show wpAny _ _ (truthy (Value.bool _)) _ _ _); refine wpAny_truthy_bool ?_)
  | ((with_reducible show ite _ _ _); first | refine ite_t ?_ | refine ite_f ?_)
  | ((with_reducible show wpAny _ _ (execs (_ :: _) _) _ _ _); refine wpAny_execs_cons ?_)
  | ((with_reducible show wpAny _ _ (execs [] _) _ _ _); refine wpAny_execs_nil ?_)
  | ((with_reducible show wpAny _ _ (exec (Stmt.If _ _ _ _) _) _ _ _); refine wpAny_If ?_)
  | ((with_reducible show wpAny _ _ (exec (Stmt.Return (some _) _) _) _ _ _); refine wpAny_Return_some ?_)
  | ((with_reducible show wpAny _ _ (exec (Stmt.Assign [Expr.Attribute _ _ _] _ _) _) _ _ _); refine plainObj_wpAny_Assign_Attribute ?_)
  | ((with_reducible show wpAny _ _ (eval (Expr.Constant Const.none _ _) _) _ _ _); refine Constant_none ?_)
  | ((with_reducible show wpAny _ _ (spliced (backTo _ (starEach (_ :: _) _))) _ _ _); refine args_cons ?_)
  | ((with_reducible show wpAny _ _ (spliced (backTo _ (starEach [] _))) _ _ _); refine args_nil ?_))
local macro_rules | `(tactic| walk_at "sts") => `(tactic| repeat walk_at "st")
local macro_rules | `(tactic| walk_at "cw") => `(tactic| refine cw (by walk_at "ok") (by kernel_rfl) ?_ rfl rfl)
local macro_rules | `(tactic| walk_at "cwb") => `(tactic| refine cwb rfl ?_ rfl rfl)
local macro_rules | `(tactic| walk_at "mem") => `(tactic| simp [attrNames])
local macro_rules | `(tactic| walk_at "sl") => `(tactic| refine sub_lst (by walk_at "ok") (by assumption) (by decide) (by decide) rfl (by with_unfolding_all rfl) ?_)

section
variable {w : World} {B : Heap} {M : Addr → Prop} {h₀ : Heap} {I₀ I : Im} {L : Addr} {m : Str → Option Value} {h : Heap} {g : Array GenState} {d : Drawn} {t : Nat} {o : OsState} {A : Around} {E : Value → Shared → Prop} {env : Env}

abbrev methNames : List Str := [n_get_literals, n_literalize, n_get_symbols, n_cancel, n_demorgan, n_made, n_made_dual]
structure View (w : World) (I : Im) (x : T) (v : Value) (a : Addr) (l : List (Str × Value)) (e : Addr) (us : List Value) : Prop where
  v : v = .ref a
  ii : IsI I a x.cls l
  la : l.lookup n_args = some (.ref e)
  ll : l.lookup n_isliteral = some (.bool x.isLit)
  lm : ∀ n ∈ methNames, l.lookup n = none
  lc : l.lookup n___class__ = none
  tu : Tup I e us
  ks : Each (EIn I) x.kids us
theorem none_meth {l : List (Str × Value)} (h : methNames.all (fun n => (l.lookup n).isNone) = true) : ∀ n ∈ methNames, l.lookup n = none := fun n hn => by
  have := List.all_eq_true.mp h n hn
  simpa using this
local macro_rules | `(tactic| walk_at "lm") => `(tactic| exact none_meth (by kernel_rfl))
theorem EIn.view (k : Ok w B I h g) {x : T} {v : Value} (hx : EIn I x v) : ∃ a l e us, View w I x v a l e us := by
  cases x with
  | sym y => obtain ⟨a, u, e, tk, rfl, h1, h2⟩ := hx; exact ⟨_, _, _, _, rfl, h1, by kernel_rfl, by kernel_rfl, by walk_at "lm", by kernel_rfl, h2, .nil⟩
  | con b =>
    obtain ⟨u, h1, h2⟩ := conI k b
    cases (show v = .ref (cona b) from hx)
    exact ⟨_, _, _, _, rfl, h1, by kernel_rfl, by kernel_rfl, by walk_at "lm", by kernel_rfl, h2, .nil⟩
  | not y =>
    obtain ⟨a, e, tk, u, rfl, h1, h2, h3⟩ := hx
    exact ⟨_, _, _, _, rfl, h1, by kernel_rfl, by cases y <;> kernel_rfl, by walk_at "lm", by kernel_rfl, h2, .cons h3 .nil⟩
  | op2 kk y z => obtain ⟨a, e, u, tk, u1, u2, rfl, h1, h2, h3, h4⟩ := hx; exact ⟨_, _, _, _, rfl, h1, by kernel_rfl, by kernel_rfl, by walk_at "lm", by kernel_rfl, h2, .cons h3 (.cons h4 .nil)⟩
  | op3 kk y z q => obtain ⟨a, e, u, tk, u1, u2, u3, rfl, h1, h2, h3, h4, h5⟩ := hx; exact ⟨_, _, _, _, rfl, h1, by kernel_rfl, by kernel_rfl, by walk_at "lm", by kernel_rfl, h2, .cons h3 (.cons h4 (.cons h5 .nil))⟩
theorem attrFacts (w : World) (x : T) : (plainGet (K w) x.cls n_args = true ∧ hasDictIn (K w) x.cls = true) ∧ findIn (K w) (.ref x.cls) n_args = some none ∧ findIn (K w) (.ref x.cls) n_isliteral = some none := by
  cases x with
  | sym _ => exact ⟨⟨by kernel_rfl, by kernel_rfl⟩, by kernel_rfl, by kernel_rfl⟩
  | con b => cases b <;> exact ⟨⟨by kernel_rfl, by kernel_rfl⟩, by kernel_rfl, by kernel_rfl⟩
  | not _ => exact ⟨⟨by kernel_rfl, by kernel_rfl⟩, by kernel_rfl, by kernel_rfl⟩
  | op2 b _ _ => cases b <;> exact ⟨⟨by kernel_rfl, by kernel_rfl⟩, by kernel_rfl, by kernel_rfl⟩
  | op3 b _ _ _ => cases b <;> exact ⟨⟨by kernel_rfl, by kernel_rfl⟩, by kernel_rfl, by kernel_rfl⟩
theorem methFacts (w : World) (x : T) : findIn (K w) (.ref x.cls) n_get_literals = some (some (.ref 42)) ∧ findIn (K w) (.ref x.cls) n_get_symbols = some (some (.ref 52)) ∧ findIn (K w) (.ref x.cls) n_literalize = some (some (.ref (if x.isNot then 395 else 47))) := by
  cases x with
  | sym _ => exact ⟨by kernel_rfl, by kernel_rfl, by kernel_rfl⟩
  | con b => cases b <;> exact ⟨by kernel_rfl, by kernel_rfl, by kernel_rfl⟩
  | not _ => exact ⟨by kernel_rfl, by kernel_rfl, by kernel_rfl⟩
  | op2 b _ _ => cases b <;> exact ⟨by kernel_rfl, by kernel_rfl, by kernel_rfl⟩
  | op3 b _ _ _ => cases b <;> exact ⟨by kernel_rfl, by kernel_rfl, by kernel_rfl⟩
section
variable {x : T} {v : Value} {a e : Addr} {l : List (Str × Value)} {us : List Value} {g' : Array GenState}
theorem View.args (V : View w I x v a l e us) (k : Ok w B I h g) {ex : Bool} {Q : Value → Shared → Prop} (hq : Q (.ref e) ⟨h, g', d, t + 1, o⟩) : wpAny (model PR w) A (getAttr v n_args ex) Q E ⟨h, g', d, t, o⟩ := by
  rw [V.v]
  exact at_val k V.ii V.la (attrFacts w x).1.1 (attrFacts w x).1.2 (attrFacts w x).2.1 rfl hq
theorem View.lit (V : View w I x v a l e us) (k : Ok w B I h g) {ex : Bool} {Q : Value → Shared → Prop} (hq : Q (.bool x.isLit) ⟨h, g', d, t + 1, o⟩) : wpAny (model PR w) A (getAttr v n_isliteral ex) Q E ⟨h, g', d, t, o⟩ := by
  rw [V.v]
  exact at_val k V.ii V.ll (attrFacts w x).1.1 (attrFacts w x).1.2 (attrFacts w x).2.2 rfl hq
theorem View.meth (V : View w I x v a l e us) (k : Ok w B I h g) {n : Str} {f : Addr} {pl : Sem Bool} {Q : Value × List Value → Shared → Prop} (hn : n ∈ methNames) (hf : findIn (K w) (.ref x.cls) n = some (some (.ref f))) (ht : typeIn (K w) (.ref f) = some (.type "function")) (hq : Q (.ref f, [v]) ⟨h, g, d, t, o⟩) :
    wpAny (model PR w) A (getMethod v n pl) Q E ⟨h, g, d, t, o⟩ := by
  rw [V.v] at hq ⊢
  exact Mine.meth k V.ii (V.lm n hn) (attrFacts w x).1.1 hf ht hq
theorem View.cls (V : View w I x v a l e us) (k : Ok w B I h g) {n : Str} {ex : Bool} {Q : Value → Shared → Prop} (hn : n = Str.ofString "__class__") (hq : Q (.ref x.cls) ⟨h, g, d, t + 1, o⟩) : wpAny (model PR w) A (getAttr v n ex) Q E ⟨h, g, d, t, o⟩ := by
  subst hn
  rw [V.v]
  obtain ⟨ox, od, i, D⟩ := V.ii.inst k
  have kc := kits w x
  exact get_bind (s := ⟨h, g, d, t, o⟩) k.X i (plainGet_of kc.hg).1 (findObj_data (by obtain ⟨cd, hc, _⟩ := any_some kc.hd; rw [hc]; rfl) kc.ha kc.hn kc.ht) (plainGet_of kc.hg).2
    (wpAny_call (class_get (s := ⟨h, g, d, t + 1, o⟩) (ox := ox) (od := some od) k.X i kc.hm (handed_on rfl hq)))
end
def T.strip : T → T | .not (.not t) => t.strip | t => t
theorem TIn.first {x : T} {v : Value} (hx : TIn I x v) : ∃ a tk us, v = .ref a ∧ Tup I a (.str x.word tk :: us) := by
  cases hs : x.isSym with
  | false => obtain ⟨a, tk, us, e, h, _⟩ := hx.gen hs; exact ⟨a, tk, us, e, h⟩
  | true =>
    cases x with
    | sym y => obtain ⟨a, tk, tk2, rfl, h⟩ := hx; exact ⟨a, tk, _, rfl, h⟩
    | _ => cases hs
theorem pairs_call {x : T} {v : Value} {Q : Value → Shared → Prop} (k : Ok w B I h g) (R : Room A 1) (hT : TIn I x v) (hQ : Gives w B d o h I (fun I' r => TIn I' x.strip r) Q) : wpAny (model PR w) A (call (.ref 639) [v]) Q E ⟨h, g, d, t, o⟩ := by
  refine enter0 [(n_tree, v)] Mt k rfl (by kernel_rfl) R.d (by kernel_rfl) (by kernel_rfl) (by kernel_rfl) rfl rfl rfl fun h₁ t₁ E' S => ?_
  refine wpAny_execs_cons (wpAny_While (codeAny_whileLoop (fun n s => ∃ h' t' l' y v', s = ⟨h', g, d, t', o⟩ ∧ n = y.h ∧ St w B Mt h I h.objs.size (fun z => List.lookup z l') I h' g ∧ l'.lookup n_tree = some v' ∧ TIn I y v' ∧ y.strip = x.strip) ?_ x.h
    ⟨_, _, _, x, v, rfl, rfl, S, by walk_at "lk", hT, rfl⟩))
  rintro n s ⟨h', t', l', y, v', rfl, rfl, S', hl', hy, hs⟩
  obtain ⟨a, tk, us, rfl, hu⟩ := hy.first
  have out : ∀ {t''}, y.strip = y → Q (.ref a) ⟨h', g, d, t'', o⟩ := fun {t''} e => hQ _ _ _ _ _ S'.ok S'.G (by rw [← hs, e]; exact hy)
  walk_at "sts"; walk_at "nm"; walk_at "sts"; walk_at "s0"; walk_at "sts"
  refine eq_str_is y.isNot word_not ?_
  walk_at "sts"
  cases hn : y.isNot with
  | false =>
    walk_at "sts"; walk_at "nm"
    exact out (by cases y <;> first | rfl | cases hn)
  | true =>
    cases y with
    | not y =>
      obtain ⟨a0, tk0, u, e0, hu0, hy1⟩ := hy
      cases e0
      obtain ⟨a2, tk2, us2, rfl, hu2⟩ := hy1.first
      walk_at "sts"; walk_at "nm"; walk_at "sts"; walk_at "s1"; walk_at "sts"; walk_at "s0"; walk_at "sts"
      refine eq_str_is y.isNot word_not ?_
      walk_at "sts"
      cases hn2 : y.isNot with
      | false =>
        walk_at "sts"; walk_at "nm"
        exact out (by cases y <;> first | rfl | cases hn2)
      | true =>
        cases y with
        | not y =>
          obtain ⟨a3, tk3, u3, e3, hu3, hy3⟩ := hy1
          cases e3
          walk_at "sts"
          refine wpAny_Assign_Name ?_
          walk_at "sts"; walk_at "nm"; walk_at "sts"; walk_at "s1"; walk_at "sts"; walk_at "s1"
          refine put S' (by kernel_rfl) rfl fun h4 S4 _ => ?_
          walk_at "sts"
          exact ⟨y.h, by simp only [T.h]; omega, h4, _, _, y, u3, rfl, rfl, S4, lk_hd (by decide +kernel), hy3, by rw [← hs]; rfl⟩
        | _ => cases hn2
    | _ => cases hn

end
end Mine
namespace Mine
local macro_rules | `(tactic| walk_at "lk") => `(tactic| first | assumption | exact lk_hd (by decide +kernel) | exact lk_tl (by decide +kernel) (by assumption) | exact lk_tl (by decide +kernel) (lk_tl (by decide +kernel) (by assumption)) | exact lk_tl (by decide +kernel) (lk_hd (by decide +kernel)) | exact lk_tl (by decide +kernel) (lk_tl (by decide +kernel) (lk_hd (by decide +kernel))) | exact lk_tl (by decide +kernel) (lk_tl (by decide +kernel) (lk_tl (by decide +kernel) (lk_hd (by decide +kernel)))) | exact lk_tl (by decide +kernel) (lk_tl (by decide +kernel) (lk_tl (by decide +kernel) (lk_tl (by decide +kernel) (lk_hd (by decide +kernel))))))
local macro_rules | `(tactic| walk_at "ok") => `(tactic| first | assumption | exact St.ok (by assumption))
local macro_rules | `(tactic| walk_at "nm") => `(tactic| refine nm_loc (by assumption) rfl (by kernel_rfl) (by walk_at "lk") (by kernel_rfl) ?_)
local macro_rules | `(tactic| walk_at "s0") => `(tactic| refine sub0 (by walk_at "ok") (by assumption) (by with_unfolding_all rfl) ?_)
local macro_rules | `(tactic| walk_at "s1") => `(tactic| refine sub1 (by walk_at "ok") (by assumption) (by with_unfolding_all rfl) ?_)
local macro_rules | `(tactic| walk_at "eqt") => `(tactic| refine eq_str_is true (by kernel_rfl) ?_)
local macro_rules | `(tactic| walk_at "eqf") => `(tactic| refine eq_str_is false (by kernel_rfl) ?_)
local macro_rules | `(tactic| walk_at "st") => `(tactic| first
  | ((with_reducible show wpAny _ _ (eval (Expr.Constant (Const.str _) _ _) _) _ _ _); refine c_str ?_)
  | ((with_reducible show wpAny _ _ (eval (Expr.Constant (Const.int _) _ _) _) _ _ _); refine c_int ?_)
  | ((with_reducible show wpAny _ _ (eval (Expr.Constant (Const.bool _) _ _) _) _ _ _); refine wpAny_Constant_bool ?_)
  | ((with_reducible show wpAny _ _ (eval (Expr.Subscript _ (Expr.Constant _ _ _) _) _) _ _ _); refine Subscript_ ?_)
  | ((with_reducible show wpAny _ _ (eval (Expr.Compare _ _ _ _) _) _ _ _); refine wpAny_Compare1 ?_)
  | ((with_reducible show wpAny _ _ (eval (Expr.IfExp _ _ _ _) _) _ _ _); refine IfExp_ ?_)
  | ((with_reducible show wpAny _ _ (eval (Expr.Tuple _ _ _) _) _ _ _); refine Tuple_ ?_)
  | ((with_reducible show wpAny _ _ (eval (Expr.List _ _) _) _ _ _); refine List_ ?_)
  | ((with_reducible show wpAny _ _ (eval (Expr.BinOp _ _ _ _) _) _ _ _); refine wpAny_BinOp ?_)
  | ((with_reducible show wpAny _ _ (eval (Expr.UnaryOp _ _ _) _) _ _ _); refine UnaryOp_ ?_)
  | ((with_reducible show wpAny _ _ (isTrue (Expr.Compare _ _ _ _) _ _) _ _ _); refine wpAny_isTrue_Compare1 ?_)
  | ((with_reducible show wpAny _ _ (isTrue (Expr.UnaryOp UnaryOp.Not _ _) _ _) _ _ _); refine isTrue_not ?_)
  | ((with_reducible show wpAny _ _ (isTrue (Expr.BoolOp BoolOp.And (_ :: _) _) _ _) _ _ _); refine isTrue_and ?_)
  | ((with_reducible show wpAny _ _ (isTrue (Expr.BoolOp BoolOp.Or (_ :: _) _) _ _) _ _ _); refine isTrue_or ?_)
  | ((with_reducible show wpAny _ _ (isTrue (Expr.BoolOp BoolOp.Or [] _) _ _) _ _ _); refine isTrue_nil_or ?_)
  | ((with_reducible show wpAny _ _ (isTrue (Expr.BoolOp BoolOp.And [] _) _ _) _ _ _); refine isTrue_nil_and ?_)
  | ((with_reducible show wpAny _ _ (isTrue (Expr.Name _ _) _ _) _ _ _); refine isTrue_plain ?_)
  | ((with_reducible show wpAny _ _ (isTrue (Expr.Constant _ _ _) _ _) _ _ _); refine isTrue_plain ?_)
  | ((with_reducible show wpAny _ _ (isTrue (Expr.Call _ _ _ _) _ _) _ _ _); refine isTrue_plain ?_)
  | ((with_reducible show wpAny _ _ (isTrue (Expr.Attribute _ _ _) _ _) _ _ _); refine isTrue_plain ?_)
  | ((with_reducible show wpAny _ _ (unaryOp UnaryOp.Not _) _ _ _); refine not_of ?_)
  | ((with_reducible show wpAny _ _ (truthy (Value.bool _)) _ _ _); refine wpAny_truthy_bool ?_)
  | ((with_reducible show ite _ _ _); first | refine ite_t ?_ | refine ite_f ?_)
  | ((with_reducible show wpAny _ _ (execs (_ :: _) _) _ _ _); refine wpAny_execs_cons ?_)
  | ((with_reducible show wpAny _ _ (execs [] _) _ _ _); refine wpAny_execs_nil ?_)
  | ((with_reducible show wpAny _ _ (exec (Stmt.If _ _ _ _) _) _ _ _); refine wpAny_If ?_)
  | ((with_reducible show wpAny _ _ (exec (Stmt.Return (some _) _) _) _ _ _); refine wpAny_Return_some ?_)
  | ((with_reducible show wpAny _ _ (exec (Stmt.Assign [Expr.Attribute _ _ _] _ _) _) _ _ _); refine plainObj_wpAny_Assign_Attribute ?_)
  | ((with_reducible show wpAny _ _ (eval (Expr.Constant Const.none _ _) _) _ _ _); refine Constant_none ?_)
  | ((with_reducible show wpAny _ _ (spliced (backTo _ (starEach (_ :: _) _))) _ _ _); refine args_cons ?_)
  | ((with_reducible show wpAny _ _ (spliced (backTo _ (starEach [] _))) _ _ _); refine args_nil ?_))
local macro_rules | `(tactic| walk_at "sts") => `(tactic| repeat walk_at "st")
local macro_rules | `(tactic| walk_at "cw") => `(tactic| refine cw (by walk_at "ok") (by kernel_rfl) ?_ rfl rfl)
local macro_rules | `(tactic| walk_at "cwb") => `(tactic| refine cwb rfl ?_ rfl rfl)
local macro_rules | `(tactic| walk_at "mem") => `(tactic| simp [attrNames])
local macro_rules | `(tactic| walk_at "sl") => `(tactic| refine sub_lst (by walk_at "ok") (by assumption) (by decide) (by decide) rfl (by with_unfolding_all rfl) ?_)

section
variable {w : World} {B : Heap} {M : Addr → Prop} {h₀ : Heap} {I₀ I : Im} {L : Addr} {m : Str → Option Value} {h : Heap} {g : Array GenState} {d : Drawn} {t : Nat} {o : OsState} {A : Around} {E : Value → Shared → Prop} {env : Env}

theorem cancel_call {x : T} {v : Value} {Q : Value → Shared → Prop} (k : Ok w B I h g) (R : Room A 1) (hT : EIn I x v) (hn : x.isNot = true) (hQ : Gives w B d o h I (fun I' r => EIn I' x.strip r) Q) : wpAny (model PR w) A (call (.ref 409) [v]) Q E ⟨h, g, d, t, o⟩ := by
  refine enter0 [(n_self, v)] Mt k rfl (by kernel_rfl) R.d (by kernel_rfl) (by kernel_rfl) (by kernel_rfl) rfl rfl rfl fun h₁ t₁ E' S => ?_
  obtain ⟨ax, lx, ex, ux, Vx⟩ := hT.view k
  have hcx : x.cls = 431 := by cases x <;> first | rfl | cases hn
  refine wpAny_execs_cons (wpAny_Assign_Name ?_)
  walk_at "nm"
  refine put S (by kernel_rfl) rfl fun h2 S2 _ => ?_
  refine wpAny_execs_cons (wpAny_While (codeAny_whileLoop (fun n s => ∃ h' t' l' y v', s = ⟨h', g, d, t', o⟩ ∧ n = y.h ∧ St w B Mt h I h.objs.size (fun z => List.lookup z l') I h' g ∧ l'.lookup n_self = some v ∧ l'.lookup n_expr = some v' ∧ EIn I y v' ∧ y.isNot = true ∧ y.strip = x.strip) ?_ x.h
    ⟨_, _, _, x, v, rfl, rfl, S2, by walk_at "lk", by walk_at "lk", hT, hn, rfl⟩))
  rintro n s ⟨h', t', l', y, v', rfl, rfl, S', hl1, hl2, hy, hyn, hs⟩
  have out : ∀ {v'' : Value} {z : T} {h'' t''}, EIn I z v'' → z = x.strip → St w B Mt h I h.objs.size (fun z => List.lookup z l') I h' g → (∃ l'', St w B Mt h I h.objs.size (fun z => List.lookup z l'') I h'' g) → Q v'' ⟨h'', g, d, t'', o⟩ := fun {v'' z h'' t''} e1 e2 _ ⟨l'', S''⟩ => hQ _ _ _ _ _ S''.ok S''.G (by rw [← e2]; exact e1)
  cases y with
  | not y =>
    obtain ⟨a, e, tk, u, rfl, hii, htu, hyu⟩ := hy
    have V : View w I (.not y) (.ref a) a (lNot e y.isSym tk) e [u] := ⟨rfl, hii, by kernel_rfl, by cases y <;> kernel_rfl, none_meth (by kernel_rfl), by kernel_rfl, htu, .cons hyu .nil⟩
    walk_at "sts"
    refine wpAny_Assign_Name ?_
    walk_at "sts"
    refine Attribute_Name_ ?_
    walk_at "nm"
    refine V.args S'.ok ?_
    walk_at "sts"; walk_at "s0"
    refine put S' (by kernel_rfl) rfl fun h3 S3 _ => ?_
    walk_at "sts"
    refine Call_ ?_
    refine nm_boot (v := .builtin "isinstance") S3.ok rfl (by kernel_rfl) rfl rfl (by kernel_rfl) (by kernel_rfl) (by decide +kernel) (by kernel_rfl) ?_
    walk_at "cwb"; walk_at "sts"; walk_at "nm"; walk_at "sts"
    refine Attribute_Name_ ?_
    walk_at "nm"
    refine Vx.cls S3.ok (by kernel_rfl) ?_
    rw [hcx]
    walk_at "sts"
    refine isi S3.ok hyu (is_not w y) fun t4 => ?_
    walk_at "sts"
    cases hyn2 : y.isNot with
    | false =>
      walk_at "sts"; walk_at "nm"
      exact out (z := .not y) ⟨a, e, tk, u, rfl, hii, htu, hyu⟩ (by rw [← hs]; cases y <;> first | rfl | cases hyn2) S' ⟨_, S3⟩
    | true =>
      cases y with
      | not y =>
        obtain ⟨a2, e2, tk2, u2, rfl, hii2, htu2, hyu2⟩ := hyu
        have V2 : View w I (.not y) (.ref a2) a2 (lNot e2 y.isSym tk2) e2 [u2] := ⟨rfl, hii2, by kernel_rfl, by cases y <;> kernel_rfl, none_meth (by kernel_rfl), by kernel_rfl, htu2, .cons hyu2 .nil⟩
        walk_at "sts"
        refine wpAny_Assign_Name ?_
        walk_at "sts"
        refine Attribute_Name_ ?_
        walk_at "nm"
        refine V2.args S3.ok ?_
        walk_at "sts"; walk_at "s0"
        refine put S3 (by kernel_rfl) rfl fun h5 S5 _ => ?_
        walk_at "sts"
        refine Call_ ?_
        refine nm_boot (v := .builtin "isinstance") S5.ok rfl (by kernel_rfl) rfl rfl (by kernel_rfl) (by kernel_rfl) (by decide +kernel) (by kernel_rfl) ?_
        walk_at "cwb"; walk_at "sts"; walk_at "nm"; walk_at "sts"
        refine Attribute_Name_ ?_
        walk_at "nm"
        refine Vx.cls S5.ok (by kernel_rfl) ?_
        rw [hcx]
        walk_at "sts"
        refine isi S5.ok hyu2 (is_not w y) fun t6 => ?_
        walk_at "sts"
        cases hyn3 : y.isNot with
        | false =>
          walk_at "sts"; walk_at "nm"
          exact out (z := y) hyu2 (by rw [← hs]; cases y <;> first | rfl | cases hyn3) S' ⟨_, S5⟩
        | true =>
          walk_at "sts"
          exact ⟨y.h, by simp only [T.h]; omega, h5, _, _, y, u2, rfl, rfl, S5, by walk_at "lk", lk_hd (by decide +kernel), hyu2, hyn3, by rw [← hs]; rfl⟩
      | _ => cases hyn2
  | _ => cases hyn

end
end Mine
namespace Mine
local macro_rules | `(tactic| walk_at "lk") => `(tactic| first | assumption | exact lk_hd (by decide +kernel) | exact lk_tl (by decide +kernel) (by assumption) | exact lk_tl (by decide +kernel) (lk_tl (by decide +kernel) (by assumption)) | exact lk_tl (by decide +kernel) (lk_hd (by decide +kernel)) | exact lk_tl (by decide +kernel) (lk_tl (by decide +kernel) (lk_hd (by decide +kernel))) | exact lk_tl (by decide +kernel) (lk_tl (by decide +kernel) (lk_tl (by decide +kernel) (lk_hd (by decide +kernel)))) | exact lk_tl (by decide +kernel) (lk_tl (by decide +kernel) (lk_tl (by decide +kernel) (lk_tl (by decide +kernel) (lk_hd (by decide +kernel))))))
local macro_rules | `(tactic| walk_at "ok") => `(tactic| first | assumption | exact St.ok (by assumption))
local macro_rules | `(tactic| walk_at "nm") => `(tactic| refine nm_loc (by assumption) rfl (by kernel_rfl) (by walk_at "lk") (by kernel_rfl) ?_)
local macro_rules | `(tactic| walk_at "s0") => `(tactic| refine sub0 (by walk_at "ok") (by assumption) (by with_unfolding_all rfl) ?_)
local macro_rules | `(tactic| walk_at "s1") => `(tactic| refine sub1 (by walk_at "ok") (by assumption) (by with_unfolding_all rfl) ?_)
local macro_rules | `(tactic| walk_at "eqt") => `(tactic| refine eq_str_is true (by kernel_rfl) ?_)
local macro_rules | `(tactic| walk_at "eqf") => `(tactic| refine eq_str_is false (by kernel_rfl) ?_)
local macro_rules | `(tactic| walk_at "st") => `(tactic| first
  | ((with_reducible show wpAny _ _ (eval (Expr.Constant (Const.str _) _ _) _) _ _ _); refine c_str ?_)
  | ((with_reducible show wpAny _ _ (eval (Expr.Constant (Const.int _) _ _) _) _ _ _); refine c_int ?_)
  | ((with_reducible show wpAny _ _ (eval (Expr.Constant (Const.bool _) _ _) _) _ _ _); refine wpAny_Constant_bool ?_)
  | ((with_reducible show wpAny _ _ (eval (Expr.Subscript _ (Expr.Constant _ _ _) _) _) _ _ _); refine Subscript_ ?_)
  | ((with_reducible show wpAny _ _ (eval (Expr.Compare _ _ _ _) _) _ _ _); refine wpAny_Compare1 ?_)
  | ((with_reducible show wpAny _ _ (eval (Expr.IfExp _ _ _ _) _) _ _ _); refine IfExp_ ?_)
  | ((with_reducible show wpAny _ _ (eval (Expr.Tuple _ _ _) _) _ _ _); refine Tuple_ ?_)
  | ((with_reducible show wpAny _ _ (eval (Expr.List _ _) _) _ _ _); refine List_ ?_)
  | ((with_reducible show wpAny _ _ (eval (Expr.BinOp _ _ _ _) _) _ _ _); refine wpAny_BinOp ?_)
  | ((with_reducible show wpAny _ _ (eval (Expr.UnaryOp _ _ _) _) _ _ _); refine UnaryOp_ ?_)
  | ((with_reducible show wpAny _ _ (isTrue (Expr.Compare _ _ _ _) _ _) _ _ _); refine wpAny_isTrue_Compare1 ?_)
  | ((with_reducible show wpAny _ _ (isTrue (Expr.UnaryOp UnaryOp.Not _ _) _ _) _ _ _); refine isTrue_not ?_)
  | ((with_reducible show wpAny _ _ (isTrue (Expr.BoolOp BoolOp.And (_ :: _) _) _ _) _ _ _); refine isTrue_and ?_)
  | ((with_reducible show wpAny _ _ (isTrue (Expr.BoolOp BoolOp.Or (_ :: _) _) _ _) _ _ _); refine isTrue_or ?_)
  | ((with_reducible show wpAny _ _ (isTrue (Expr.BoolOp BoolOp.Or [] _) _ _) _ _ _); refine isTrue_nil_or ?_)
  | ((with_reducible show wpAny _ _ (isTrue (Expr.BoolOp BoolOp.And [] _) _ _) _ _ _); refine isTrue_nil_and ?_)
  | ((with_reducible show wpAny _ _ (isTrue (Expr.Name _ _) _ _) _ _ _); refine isTrue_plain ?_)
  | ((with_reducible show wpAny _ _ (isTrue (Expr.Constant _ _ _) _ _) _ _ _); refine isTrue_plain ?_)
  | ((with_reducible show wpAny _ _ (isTrue (Expr.Call _ _ _ _) _ _) _ _ _); refine isTrue_plain ?_)
  | ((with_reducible show wpAny _ _ (isTrue (Expr.Attribute _ _ _) _ _) _ _ _); refine isTrue_plain ?_)
  | ((with_reducible show wpAny _ _ (unaryOp UnaryOp.Not _) _ _ _); refine not_of ?_)
  | ((with_reducible show wpAny _ _ (truthy (Value.bool _)) _ _ _); refine wpAny_truthy_bool ?_)
  | ((with_reducible show ite _ _ _); first | refine ite_t ?_ | refine ite_f ?_)
  | ((with_reducible show wpAny _ _ (execs (_ :: _) _) _ _ _); refine wpAny_execs_cons ?_)
  | ((with_reducible show wpAny _ _ (execs [] _) _ _ _); refine wpAny_execs_nil ?_)
  | ((with_reducible show wpAny _ _ (exec (Stmt.If _ _ _ _) _) _ _ _); refine wpAny_If ?_)
  | ((with_reducible show wpAny _ _ (exec (Stmt.Return (some _) _) _) _ _ _); refine wpAny_Return_some ?_)
  | ((with_reducible show wpAny _ _ (exec (Stmt.Assign [Expr.Attribute _ _ _] _ _) _) _ _ _); refine plainObj_wpAny_Assign_Attribute ?_)
  | ((with_reducible show wpAny _ _ (eval (Expr.Constant Const.none _ _) _) _ _ _); refine Constant_none ?_)
  | ((with_reducible show wpAny _ _ (spliced (backTo _ (starEach (_ :: _) _))) _ _ _); refine args_cons ?_)
  | ((with_reducible show wpAny _ _ (spliced (backTo _ (starEach [] _))) _ _ _); refine args_nil ?_))
local macro_rules | `(tactic| walk_at "sts") => `(tactic| repeat walk_at "st")
local macro_rules | `(tactic| walk_at "cw") => `(tactic| refine cw (by walk_at "ok") (by kernel_rfl) ?_ rfl rfl)
local macro_rules | `(tactic| walk_at "cwb") => `(tactic| refine cwb rfl ?_ rfl rfl)
local macro_rules | `(tactic| walk_at "mem") => `(tactic| simp [attrNames])
local macro_rules | `(tactic| walk_at "sl") => `(tactic| refine sub_lst (by walk_at "ok") (by assumption) (by decide) (by decide) rfl (by with_unfolding_all rfl) ?_)

section
variable {w : World} {B : Heap} {M : Addr → Prop} {h₀ : Heap} {I₀ I : Im} {L : Addr} {m : Str → Option Value} {h : Heap} {g : Array GenState} {d : Drawn} {t : Nat} {o : OsState} {A : Around} {E : Value → Shared → Prop} {env : Env}

/-- a list that may still change -/
def MLst (h : Heap) (F : Addr) (xs : List Value) : Prop := ∃ n, h.get? F = some { cls := .type "list", data := .seq xs.toArray n }
theorem MLst.is {F : Addr} {xs : List Value} (x : MLst h F xs) : h.IsList F xs.toArray := let ⟨n, e⟩ := x; ⟨_, e, rfl, n, rfl⟩
theorem new_mlst {vs : List Value} {Q : Value → Shared → Prop} (S : St w B M h₀ I₀ L m I h g) (hsz : vs.length ≤ 1000000)
    (hq : ∀ h', St w B M h₀ I₀ L m I h' g → Ext h I h' I → MLst h' h.objs.size vs → Q (.ref h.objs.size) ⟨h', g, d, t, o⟩) : wpAny (model PR w) A (newList vs) Q E ⟨h, g, d, t, o⟩ :=
  wpAny_newObj_type (hq _ (S.push _) (Ext.keep fun _ _ e => Heap.get?_push_of_some _ e) ⟨_, Heap.get?_push_size _ rfl⟩) (by show vs.toArray.size ≤ sizeLine; rw [List.size_toArray]; exact Nat.le_trans hsz sizeLine_big)
theorem ext_lst {F b : Addr} {xs ys : List Value} {Q : Value → Shared → Prop} (S : St w B M h₀ I₀ L m I h g) (hF : MLst h F xs) (hI : I F = none) (hFL : F ≠ L) (hF0 : h₀.get? F = none) (hb : Lst I b ys) (hz : xs.length + ys.length ≤ 1000000)
    (hq : ∀ h', St w B M h₀ I₀ L m I h' g → Grow (fun a => a = F) h I h' I → MLst h' F (xs ++ ys) → Q .none ⟨h', g, d, t, o⟩) : wpAny (model PR w) A (call (.builtin "list.extend") [.ref F, .ref b]) Q E ⟨h, g, d, t, o⟩ := by
  obtain ⟨n, e⟩ := hF
  obtain ⟨n', e'⟩ := hb
  have big := sizeLine_big
  have hs : xs.toArray.size + ys.toArray.size ≤ 1000000 := by rw [List.size_toArray, List.size_toArray]; exact hz
  refine call_meets (s := ⟨h, g, d, t, o⟩) PySem.F.slot_list_extend ⟨_, e, rfl⟩ PySem.F.entry_list_extend (PySem.F.args_list_extend_2 _ _) (PySem.AutoSeq1.list_extend_list_list_0 F _ n b _ n' (by simp [Builtin.List.listTooLong]; intro _; omega) (by omega) (by omega)) ⟨e, S.ok.sub _ _ e', ?_⟩
  have q := PySem.IsL.update (h := h) (l := F) (items := xs.toArray) (n := n) e (fun x => x ++ ys.toArray)
  have kk : ∀ b q, b ≠ F → h.get? b = some q → (h.update F (Obj.mapSeq fun x => x ++ ys.toArray)).get? b = some q := fun b q hb eb => (Heap.get?_update_ne _ _ _ _ hb).trans eb
  have hml : MLst (h.update F (Obj.mapSeq fun x => x ++ ys.toArray)) F (xs ++ ys) := by
    have e2 : xs.toArray ++ ys.toArray = (xs ++ ys).toArray := by simp
    rw [e2] at q
    exact ⟨_, q⟩
  refine hq _ (S.moved F kk hI hFL hF0) ⟨.refl I, fun a q e => ?_, fun _ _ _ _ _ e => e, fun a q n e => kk a q n e⟩ hml
  by_cases z : a = F
  · subst z; obtain ⟨n2, e2⟩ := hml; exact ⟨_, e2⟩
  · exact ⟨q, kk a q z e⟩
theorem tup_truth {a : Addr} {us : List Value} {Q : Bool → Shared → Prop} (k : Ok w B I h g) (ht : Tup I a us) (hz : us.length ≤ 1000000) (hq : ∀ t', Q (!us.isEmpty) ⟨h, g, d, t', o⟩) : wpAny (model PR w) A (truthy (.ref a)) Q E ⟨h, g, d, t, o⟩ :=
  truthy_tuple (ht.is k) (by rw [List.size_toArray]; omega) (by rw [show us.toArray.isEmpty = us.isEmpty by simp]; exact hq _)
theorem glits_call (n : Nat) : ∀ (x : T), x.h ≤ n → x.lits.length ≤ 1000000 → ∀ {A : Around} {I : Im} {h : Heap} {g : Array GenState} {tk : Nat} {v : Value} {Q : Value → Shared → Prop} {E : Value → Shared → Prop},
    Ok w B I h g → Room A (n + 1) → EIn I x v → Gives w B d o h I (fun I' r => ∃ F vs, r = .ref F ∧ Lst I' F vs ∧ Each (EIn I') x.lits vs) Q →
    wpAny (model PR w) A (call (.ref 42) [v]) Q E ⟨h, g, d, tk, o⟩ := by
  induction n with
  | zero => intro x hx; cases x <;> simp [T.h] at hx
  | succ n ih =>
    intro x hx hsz A I h g tk v Q E k R hT hQ
    obtain ⟨a, l, e, us, V⟩ := hT.view k
    refine enter0 [(n_self, v)] Mt k rfl (by kernel_rfl) R.d (by kernel_rfl) (by kernel_rfl) (by kernel_rfl) rfl rfl rfl fun h₁ t₁ E' S => ?_
    walk_at "sts"
    refine Attribute_Name_ ?_
    walk_at "nm"
    refine V.lit S.ok ?_
    walk_at "sts"
    cases hl : x.isLit with
    | true =>
      walk_at "sts"; walk_at "nm"; walk_at "sts"
      refine new_lst S (by simp) fun h' I' S' hl' ht => ?_
      exact hQ _ _ _ _ _ S'.ok S'.G ⟨_, _, rfl, ht, by rw [T.lits_lit hl]; exact .cons (hT.le hl') .nil⟩
    | false =>
      have hlen : us.length ≤ 3 := by rw [V.ks.1]; exact x.kids_len
      walk_at "sts"
      refine Attribute_Name_ ?_
      walk_at "nm"
      refine V.args S.ok ?_
      refine tup_truth S.ok V.tu (by omega) fun t2 => ?_
      cases hus : us.isEmpty with
      | true =>
        have e0 : us = [] := by simpa using hus
        show wpAny _ _ _ _ _ _
        walk_at "sts"
        refine new_lst S (by simp) fun h' I' S' hl' ht => ?_
        refine hQ _ _ _ _ _ S'.ok S'.G ⟨_, _, rfl, ht, ?_⟩
        have hk : x.kids = [] := by have := V.ks.1; rw [e0] at this; simpa using this.symm
        rw [T.lits_rec hl, hk]
        exact .nil
      | false =>
        show wpAny _ _ _ _ _ _
        walk_at "sts"
        refine wpAny_Assign_Name ?_
        walk_at "sts"
        refine new_mlst S (by simp) fun h3 S3 G3 hF => ?_
        have hF0 : h.get? h₁.objs.size = none := S.at_size
        have hFL : h₁.objs.size ≠ h.objs.size := Nat.ne_of_gt S.ns.lt
        have hFI : I h₁.objs.size = none := S.ok.none_size
        refine put S3 (by kernel_rfl) rfl fun h4 S4 k4 => ?_
        have hF4 : MLst h4 h₁.objs.size [] := let ⟨n, e⟩ := hF; ⟨n, k4 _ _ hFL e⟩
        walk_at "sts"
        refine wpAny_For (Attribute_Name_ ?_) (fun _ => rfl)
        walk_at "nm"
        refine V.args S4.ok ?_
        have hv4 : ∃ q, h4.get? h.objs.size = some q := let ⟨o, es, ep, e, _⟩ := S4.ns; ⟨o, e⟩
        refine for_tup S4 V.tu R.hh (by kernel_rfl) rfl (fun a => Mt a ∨ a = h.objs.size ∨ a = h₁.objs.size) (fun a z => by rcases z with z | z | z; (· exact S4.ok.hM a z); (· subst z; exact hv4); (· subst z; obtain ⟨n, e⟩ := hF4; exact ⟨_, e⟩))
          (fun i J hh l => l.lookup n_self = some v ∧ l.lookup n_found = some (.ref h₁.objs.size) ∧ J h₁.objs.size = none ∧ ∃ vs, MLst hh h₁.objs.size vs ∧ Each (EIn J) ((x.kids.take i).map T.lits).flatten vs)
          (fun i J h1 h2 l hk z => ?_) (fun i J h l v z => ?_) ⟨by walk_at "lk", by walk_at "lk", hFI, _, hF4, .nil⟩ (fun i v' I' h' g' t' l' E' hv S' hle' hj => ?_) fun I' h' g' t' l' S' hle' hj => ?_
        · obtain ⟨z1, z2, z3, vs, ⟨n, z4⟩, z5⟩ := z
          exact ⟨z1, z2, z3, vs, ⟨n, hk _ _ hFL (let ⟨n, e⟩ := hF4; ⟨_, e⟩) z4⟩, z5⟩
        · obtain ⟨z1, z2, z3⟩ := z
          exact ⟨lk_tl (by decide +kernel) z1, lk_tl (by decide +kernel) z2, z3⟩
        · obtain ⟨hj1, hj2, hj3, vs, hj4, hj5⟩ := hj
          have hik : i < x.kids.length := by rw [← V.ks.1]; exact (List.getElem?_eq_some_iff.mp hv).1
          have hke := List.getElem?_eq_getElem hik
          obtain ⟨p1, p2, p3⟩ := T.lits_part hl hke
          have hlk : List.lookup n_arg ((n_arg, v') :: l') = some v' := lk_hd (by decide +kernel)
          have hxk : EIn I' x.kids[i] v' := (V.ks.2 i v' _ hv hke).le hle'
          obtain ⟨a2, l2, e2, us2, V2⟩ := hxk.view S'.ok
          refine wpAny_execs_cons (wpAny_Expr_any (MethodCall_ ?_))
          refine nm_loc S' rfl (by kernel_rfl) hj2 (by kernel_rfl) ?_
          refine getMethod_list_of PySem.F.slot_list_extend PySem.F.type_list_extend hj4.is (by
            obtain ⟨n, e⟩ := hj4
            exact ⟨_, e, rfl⟩) ?_
          walk_at "cwb"; walk_at "sts"
          refine MethodCall_ ?_
          walk_at "nm"
          refine V2.meth S'.ok (by simp) (methFacts w _).1 (by kernel_rfl) ?_
          refine callWith_K0 S'.ok.X (by kernel_rfl) ?_
          refine ih x.kids[i] (by have := T.kids_h hke; omega) (by omega) S'.ok (R.deeper _) hxk fun r I6 h6 g6 t6 k6 G6 z => ?_
          obtain ⟨F6, vs6, rfl, hF6, hE6⟩ := z
          have S6 := S'.after k6 G6 fun _ q => q
          have nMF : ¬ Mt h₁.objs.size := fun q => by
            obtain ⟨o, e⟩ := S.ok.hM _ q
            exact Nat.lt_irrefl _ (Heap.lt_size e)
          have hF66 : MLst h6 h₁.objs.size vs := let ⟨n, e⟩ := hj4; ⟨n, G6.kp _ _ nMF e⟩
          have hI6 : I6 h₁.objs.size = none := by
            cases q : I6 h₁.objs.size with
            | none => rfl
            | some o' => obtain ⟨n, e⟩ := hj4; have := G6.fresh _ _ o' nMF e q; rw [hj3] at this; cases this
          walk_at "sts"
          have hlv := hj5.1
          have hlv6 := hE6.1
          refine ext_lst S6 hF66 hI6 hFL hF0 hF6 (by omega) fun h7 S7 G7 hF7 => ?_
          walk_at "sts"
          refine ⟨rfl, I6, h7, g6, _, _, rfl, S7, (G6.mono fun _ z => .inl z).trans (G7.mono fun _ z => .inr (.inr z)), lk_tl (by decide +kernel) hj1, lk_tl (by decide +kernel) hj2, hI6, _, hF7, ?_⟩
          rw [p3]
          exact (hj5.le fun _ _ z => z.le G6.le).append hE6
        · obtain ⟨hj1, hj2, hj3, vs, ⟨n, hj4⟩, hj5⟩ := hj
          show wpAny _ _ _ _ _ _
          walk_at "sts"
          refine nm_loc S' rfl (by kernel_rfl) hj2 (by kernel_rfl) ?_
          have S8 := S'.freeze hj4 hF0 hFL
          refine hQ _ _ _ _ _ S8.ok S8.G ⟨_, vs, rfl, ⟨n, Im.up_self⟩, ?_⟩
          rw [T.lits_rec hl]
          rw [V.ks.1, List.take_length] at hj5
          exact hj5.le fun _ _ z => z.le (Le.up hj3)

end
end Mine
namespace Mine
local macro_rules | `(tactic| walk_at "lk") => `(tactic| first | assumption | exact lk_hd (by decide +kernel) | exact lk_tl (by decide +kernel) (by assumption) | exact lk_tl (by decide +kernel) (lk_tl (by decide +kernel) (by assumption)) | exact lk_tl (by decide +kernel) (lk_hd (by decide +kernel)) | exact lk_tl (by decide +kernel) (lk_tl (by decide +kernel) (lk_hd (by decide +kernel))) | exact lk_tl (by decide +kernel) (lk_tl (by decide +kernel) (lk_tl (by decide +kernel) (lk_hd (by decide +kernel)))) | exact lk_tl (by decide +kernel) (lk_tl (by decide +kernel) (lk_tl (by decide +kernel) (lk_tl (by decide +kernel) (lk_hd (by decide +kernel))))))
local macro_rules | `(tactic| walk_at "ok") => `(tactic| first | assumption | exact St.ok (by assumption))
local macro_rules | `(tactic| walk_at "nm") => `(tactic| refine nm_loc (by assumption) rfl (by kernel_rfl) (by walk_at "lk") (by kernel_rfl) ?_)
local macro_rules | `(tactic| walk_at "s0") => `(tactic| refine sub0 (by walk_at "ok") (by assumption) (by with_unfolding_all rfl) ?_)
local macro_rules | `(tactic| walk_at "s1") => `(tactic| refine sub1 (by walk_at "ok") (by assumption) (by with_unfolding_all rfl) ?_)
local macro_rules | `(tactic| walk_at "eqt") => `(tactic| refine eq_str_is true (by kernel_rfl) ?_)
local macro_rules | `(tactic| walk_at "eqf") => `(tactic| refine eq_str_is false (by kernel_rfl) ?_)
local macro_rules | `(tactic| walk_at "st") => `(tactic| first
  | ((with_reducible show wpAny _ _ (eval (Expr.Constant (Const.str _) _ _) _) _ _ _); refine c_str ?_)
  | ((with_reducible show wpAny _ _ (eval (Expr.Constant (Const.int _) _ _) _) _ _ _); refine c_int ?_)
  | ((with_reducible show wpAny _ _ (eval (Expr.Constant (Const.bool _) _ _) _) _ _ _); refine wpAny_Constant_bool ?_)
  | ((with_reducible show wpAny _ _ (eval (Expr.Subscript _ (Expr.Constant _ _ _) _) _) _ _ _); refine Subscript_ ?_)
  | ((with_reducible show wpAny _ _ (eval (Expr.Compare _ _ _ _) _) _ _ _); refine wpAny_Compare1 ?_)
  | ((with_reducible show wpAny _ _ (eval (Expr.IfExp _ _ _ _) _) _ _ _); refine IfExp_ ?_)
  | ((with_reducible show wpAny _ _ (eval (Expr.Tuple _ _ _) _) _ _ _); refine Tuple_ ?_)
  | ((with_reducible show wpAny _ _ (eval (Expr.List _ _) _) _ _ _); refine List_ ?_)
  | ((with_reducible show wpAny _ _ (eval (Expr.BinOp _ _ _ _) _) _ _ _); refine wpAny_BinOp ?_)
  | ((with_reducible show wpAny _ _ (eval (Expr.UnaryOp _ _ _) _) _ _ _); refine UnaryOp_ ?_)
  | ((with_reducible show wpAny _ _ (isTrue (Expr.Compare _ _ _ _) _ _) _ _ _); refine wpAny_isTrue_Compare1 ?_)
  | ((with_reducible show wpAny _ _ (isTrue (Expr.UnaryOp UnaryOp.Not _ _) _ _) _ _ _); refine isTrue_not ?_)
  | ((with_reducible show wpAny _ _ (isTrue (Expr.BoolOp BoolOp.And (_ :: _) _) _ _) _ _ _); refine isTrue_and ?_)
  | ((with_reducible show wpAny _ _ (isTrue (Expr.BoolOp BoolOp.Or (_ :: _) _) _ _) _ _ _); refine isTrue_or ?_)
  | ((with_reducible show wpAny _ _ (isTrue (Expr.BoolOp BoolOp.Or [] _) _ _) _ _ _); refine isTrue_nil_or ?_)
  | ((with_reducible show wpAny _ _ (isTrue (Expr.BoolOp BoolOp.And [] _) _ _) _ _ _); refine isTrue_nil_and ?_)
  | ((with_reducible show wpAny _ _ (isTrue (Expr.Name _ _) _ _) _ _ _); refine isTrue_plain ?_)
  | ((with_reducible show wpAny _ _ (isTrue (Expr.Constant _ _ _) _ _) _ _ _); refine isTrue_plain ?_)
  | ((with_reducible show wpAny _ _ (isTrue (Expr.Call _ _ _ _) _ _) _ _ _); refine isTrue_plain ?_)
  | ((with_reducible show wpAny _ _ (isTrue (Expr.Attribute _ _ _) _ _) _ _ _); refine isTrue_plain ?_)
  | ((with_reducible show wpAny _ _ (unaryOp UnaryOp.Not _) _ _ _); refine not_of ?_)
  | ((with_reducible show wpAny _ _ (truthy (Value.bool _)) _ _ _); refine wpAny_truthy_bool ?_)
  | ((with_reducible show ite _ _ _); first | refine ite_t ?_ | refine ite_f ?_)
  | ((with_reducible show wpAny _ _ (execs (_ :: _) _) _ _ _); refine wpAny_execs_cons ?_)
  | ((with_reducible show wpAny _ _ (execs [] _) _ _ _); refine wpAny_execs_nil ?_)
  | ((with_reducible show wpAny _ _ (exec (Stmt.If _ _ _ _) _) _ _ _); refine wpAny_If ?_)
  | ((with_reducible show wpAny _ _ (exec (Stmt.Return (some _) _) _) _ _ _); refine wpAny_Return_some ?_)
  | ((with_reducible show wpAny _ _ (exec (Stmt.Assign [Expr.Attribute _ _ _] _ _) _) _ _ _); refine plainObj_wpAny_Assign_Attribute ?_)
  | ((with_reducible show wpAny _ _ (eval (Expr.Constant Const.none _ _) _) _ _ _); refine Constant_none ?_)
  | ((with_reducible show wpAny _ _ (spliced (backTo _ (starEach (_ :: _) _))) _ _ _); refine args_cons ?_)
  | ((with_reducible show wpAny _ _ (spliced (backTo _ (starEach [] _))) _ _ _); refine args_nil ?_))
local macro_rules | `(tactic| walk_at "sts") => `(tactic| repeat walk_at "st")
local macro_rules | `(tactic| walk_at "cw") => `(tactic| refine cw (by walk_at "ok") (by kernel_rfl) ?_ rfl rfl)
local macro_rules | `(tactic| walk_at "cwb") => `(tactic| refine cwb rfl ?_ rfl rfl)
local macro_rules | `(tactic| walk_at "mem") => `(tactic| simp [attrNames])
local macro_rules | `(tactic| walk_at "sl") => `(tactic| refine sub_lst (by walk_at "ok") (by assumption) (by decide) (by decide) rfl (by with_unfolding_all rfl) ?_)

section
variable {w : World} {B : Heap} {M : Addr → Prop} {h₀ : Heap} {I₀ I : Im} {L : Addr} {m : Str → Option Value} {h : Heap} {g : Array GenState} {d : Drawn} {t : Nat} {o : OsState} {A : Around} {E : Value → Shared → Prop} {env : Env}

def T.symOf : T → T | .not t => t | t => t
theorem T.lits_all : ∀ {x u : T}, u ∈ x.lits → u.isLit = true := by
  intro x
  induction x with
  | sym y => intro u h; simp only [T.lits, List.mem_cons, List.not_mem_nil, or_false] at h; subst h; rfl
  | con b => intro u h; simp [T.lits] at h
  | not y ih =>
    intro u h
    cases hl : (T.not y).isLit with
    | true => rw [T.lits_lit hl] at h; simp only [List.mem_cons, List.not_mem_nil, or_false] at h; subst h; exact hl
    | false => rw [T.lits_rec hl] at h; simp only [T.kids, List.map_cons, List.map_nil, List.flatten_cons, List.flatten_nil, List.append_nil] at h; exact ih h
  | op2 k y z iy iz => intro u h; simp only [T.lits, List.mem_append] at h; exact h.elim (fun h => iy h) fun h => iz h
  | op3 k y z q iy iz iq => intro u h; simp only [T.lits, List.mem_append] at h; rcases h with h | h | h; (· exact iy h); (· exact iz h); (· exact iq h)
theorem gsyms_call {x : T} {n : Nat} {v : Value} {Q : Value → Shared → Prop} (k : Ok w B I h g) (R : Room A (n + 2)) (hx : x.h ≤ n) (hsz : x.lits.length ≤ 1000000) (hT : EIn I x v) (hQ : Gives w B d o h I (fun I' r => ∃ F vs, r = .ref F ∧ Lst I' F vs ∧ Each (EIn I') (x.lits.map T.symOf) vs) Q) :
    wpAny (model PR w) A (call (.ref 52) [v]) Q E ⟨h, g, d, t, o⟩ := by
  obtain ⟨a, l, e, us, V⟩ := hT.view k
  refine enter0 [(n_self, v)] Mt k rfl (by kernel_rfl) R.d (by kernel_rfl) (by kernel_rfl) (by kernel_rfl) rfl rfl rfl fun h₁ t₁ E' S => ?_
  walk_at "sts"
  refine comp_ev (B := B) (d := d) (o := o) R.hh (cl := []) rfl (by decide) rfl (by decide) (by kernel_rfl) (fun _ => rfl) ?_
  refine MethodCall_ ?_
  walk_at "nm"
  refine V.meth S.ok (by simp) (methFacts w _).1 (by kernel_rfl) ?_
  refine callWith_K0 S.ok.X (by kernel_rfl) ?_
  refine glits_call n x hx hsz S.ok (R.deeper _) hT fun r I6 h6 g6 t6 k6 G6 z => ?_
  obtain ⟨F, vs, rfl, hF, hE⟩ := z
  have S6 := S.after k6 G6 fun _ q => q
  refine ⟨F, vs, I6, h6, g6, t6, Mt, fun j I y => ∀ t', x.lits[j]? = some t' → EIn I t'.symOf y, fun _ => True, rfl, rfl, k6, .inr hF, hF.nM k6, Nat.le_trans (by rw [hE.1]; exact hsz) sizeLine_big,
    { hM := k6.hM, hR := fun i I I' y hl hr t' e => (hr t' e).le hl, hV := fun _ _ _ _ => trivial, hV0 := trivial, helt := ?_ }, fun D5 h5 I5 g5 t5 ys k5 G5 hl5 hlen5 hr5 _ => ?_⟩
  · intro i v C m I' h' g' t' Q' E' hi hP S' hm _ hK
    have hj : i < x.lits.length := by rw [← hE.1]; exact hi
    have hje := List.getElem?_eq_getElem hj
    have hxl := T.lits_all (List.mem_of_getElem? hje)
    have hev : EIn I' x.lits[i] v := (hE.2 i v _ hP hje).le S'.G.le
    walk_at "sts"
    refine Call_ ?_
    refine nm_boot (v := .builtin "isinstance") S'.ok rfl (by kernel_rfl) rfl rfl (by kernel_rfl) (by kernel_rfl) (by decide +kernel) (by kernel_rfl) ?_
    walk_at "cwb"; walk_at "sts"; walk_at "nm"; walk_at "sts"
    refine nm_glob (v := .ref 335) S'.ok rfl (by kernel_rfl) rfl (by kernel_rfl) (by kernel_rfl) ?_
    walk_at "sts"
    refine isi S'.ok hev (is_sym w _) fun t4 => ?_
    walk_at "sts"
    generalize hu : x.lits[i] = u at hev hxl hje
    cases u with
    | sym y =>
      show wpAny _ _ _ _ _ _
      walk_at "nm"
      exact hK _ _ _ _ _ S'.ok (.refl _ _ _) trivial fun t' e => by rw [hje] at e; cases e; exact hev
    | not y =>
      cases y with
      | sym y =>
        obtain ⟨a2, l2, e2, us2, V2⟩ := hev.view S'.ok
        show wpAny _ _ _ _ _ _
        walk_at "sts"
        refine Attribute_Name_ ?_
        walk_at "nm"
        refine V2.args S'.ok ?_
        obtain ⟨u1, r1, rfl, x1, e1⟩ := V2.ks.hd
        cases e1.done
        have htu := V2.tu
        walk_at "sts"; walk_at "s0"
        exact hK _ _ _ _ _ S'.ok (.refl _ _ _) trivial fun t' e => by rw [hje] at e; cases e; exact x1
      | _ => simp [T.isLit] at hxl
    | _ => simp [T.isLit] at hxl
  · refine hQ _ _ _ _ _ k5 (S6.G.trans G5) ⟨D5, ys, rfl, hl5, by rw [hlen5, hE.1, List.length_map], fun j u' t' e e' => ?_⟩
    rw [List.getElem?_map] at e'
    cases q : x.lits[j]? with
    | none => rw [q] at e'; cases e'
    | some t0 => rw [q] at e'; cases e'; exact hr5 j u' e t0 q

theorem amade_call {a : Addr} {self : Value} {ts : List T} {us : List Value} {Q : Value → Shared → Prop} (k : Ok w B I h g) (R : Room A 9) (ha : Tup I a us ∨ Lst I a us) (hts : ts.length = 2 ∨ ts.length = 3) (hu : Each (EIn I) ts us) (hQ : Gives w B d o h I (fun I' r => EIn I' (mkOp false ts) r) Q) :
    wpAny (model PR w) A (call (.ref 530) [self, .ref a]) Q E ⟨h, g, d, t, o⟩ := by
  refine enter0 [(n_args, .ref a), (n_self, self)] Mt k rfl (by kernel_rfl) R.d (by kernel_rfl) (by kernel_rfl) (by kernel_rfl) rfl rfl rfl fun h₁ t₁ E' S => ?_
  have hlen := hu.1
  walk_at "sts"
  refine Call_ ?_
  refine nm_glob (v := .ref 554) S.ok rfl (by kernel_rfl) rfl (by kernel_rfl) (by kernel_rfl) ?_
  refine callWith_S S.ok.X (by kernel_rfl) ?_
  walk_at "nm"
  rcases ha with ha | ha
  · refine star_tup S ha (by omega) fun h2 S2 hk2 => ⟨S2.ok.X, ?_⟩
    exact mk_op (kk := false) S2.ok (R.deeper _) hts hu fun r I3 h3 g3 t3 k3 G3 z => hQ _ _ _ _ _ k3 (S2.G.trans G3) z
  · refine star_lst S ha (by omega) fun h2 S2 hk2 => ⟨S2.ok.X, ?_⟩
    exact mk_op (kk := false) S2.ok (R.deeper _) hts hu fun r I3 h3 g3 t3 k3 G3 z => hQ _ _ _ _ _ k3 (S2.G.trans G3) z

theorem adual_call {a : Addr} {self : Value} {ts : List T} {us : List Value} {Q : Value → Shared → Prop} (k : Ok w B I h g) (R : Room A 9) (ha : Tup I a us ∨ Lst I a us) (hts : ts.length = 2 ∨ ts.length = 3) (hu : Each (EIn I) ts us) (hQ : Gives w B d o h I (fun I' r => EIn I' (mkOp true ts) r) Q) :
    wpAny (model PR w) A (call (.ref 537) [self, .ref a]) Q E ⟨h, g, d, t, o⟩ := by
  refine enter0 [(n_args, .ref a), (n_self, self)] Mt k rfl (by kernel_rfl) R.d (by kernel_rfl) (by kernel_rfl) (by kernel_rfl) rfl rfl rfl fun h₁ t₁ E' S => ?_
  have hlen := hu.1
  walk_at "sts"
  refine Call_ ?_
  refine nm_glob (v := .ref 603) S.ok rfl (by kernel_rfl) rfl (by kernel_rfl) (by kernel_rfl) ?_
  refine callWith_S S.ok.X (by kernel_rfl) ?_
  walk_at "nm"
  rcases ha with ha | ha
  · refine star_tup S ha (by omega) fun h2 S2 hk2 => ⟨S2.ok.X, ?_⟩
    exact mk_op (kk := true) S2.ok (R.deeper _) hts hu fun r I3 h3 g3 t3 k3 G3 z => hQ _ _ _ _ _ k3 (S2.G.trans G3) z
  · refine star_lst S ha (by omega) fun h2 S2 hk2 => ⟨S2.ok.X, ?_⟩
    exact mk_op (kk := true) S2.ok (R.deeper _) hts hu fun r I3 h3 g3 t3 k3 G3 z => hQ _ _ _ _ _ k3 (S2.G.trans G3) z

theorem omade_call {a : Addr} {self : Value} {ts : List T} {us : List Value} {Q : Value → Shared → Prop} (k : Ok w B I h g) (R : Room A 9) (ha : Tup I a us ∨ Lst I a us) (hts : ts.length = 2 ∨ ts.length = 3) (hu : Each (EIn I) ts us) (hQ : Gives w B d o h I (fun I' r => EIn I' (mkOp true ts) r) Q) :
    wpAny (model PR w) A (call (.ref 579) [self, .ref a]) Q E ⟨h, g, d, t, o⟩ := by
  refine enter0 [(n_args, .ref a), (n_self, self)] Mt k rfl (by kernel_rfl) R.d (by kernel_rfl) (by kernel_rfl) (by kernel_rfl) rfl rfl rfl fun h₁ t₁ E' S => ?_
  have hlen := hu.1
  walk_at "sts"
  refine Call_ ?_
  refine nm_glob (v := .ref 603) S.ok rfl (by kernel_rfl) rfl (by kernel_rfl) (by kernel_rfl) ?_
  refine callWith_S S.ok.X (by kernel_rfl) ?_
  walk_at "nm"
  rcases ha with ha | ha
  · refine star_tup S ha (by omega) fun h2 S2 hk2 => ⟨S2.ok.X, ?_⟩
    exact mk_op (kk := true) S2.ok (R.deeper _) hts hu fun r I3 h3 g3 t3 k3 G3 z => hQ _ _ _ _ _ k3 (S2.G.trans G3) z
  · refine star_lst S ha (by omega) fun h2 S2 hk2 => ⟨S2.ok.X, ?_⟩
    exact mk_op (kk := true) S2.ok (R.deeper _) hts hu fun r I3 h3 g3 t3 k3 G3 z => hQ _ _ _ _ _ k3 (S2.G.trans G3) z

theorem odual_call {a : Addr} {self : Value} {ts : List T} {us : List Value} {Q : Value → Shared → Prop} (k : Ok w B I h g) (R : Room A 9) (ha : Tup I a us ∨ Lst I a us) (hts : ts.length = 2 ∨ ts.length = 3) (hu : Each (EIn I) ts us) (hQ : Gives w B d o h I (fun I' r => EIn I' (mkOp false ts) r) Q) :
    wpAny (model PR w) A (call (.ref 586) [self, .ref a]) Q E ⟨h, g, d, t, o⟩ := by
  refine enter0 [(n_args, .ref a), (n_self, self)] Mt k rfl (by kernel_rfl) R.d (by kernel_rfl) (by kernel_rfl) (by kernel_rfl) rfl rfl rfl fun h₁ t₁ E' S => ?_
  have hlen := hu.1
  walk_at "sts"
  refine Call_ ?_
  refine nm_glob (v := .ref 554) S.ok rfl (by kernel_rfl) rfl (by kernel_rfl) (by kernel_rfl) ?_
  refine callWith_S S.ok.X (by kernel_rfl) ?_
  walk_at "nm"
  rcases ha with ha | ha
  · refine star_tup S ha (by omega) fun h2 S2 hk2 => ⟨S2.ok.X, ?_⟩
    exact mk_op (kk := false) S2.ok (R.deeper _) hts hu fun r I3 h3 g3 t3 k3 G3 z => hQ _ _ _ _ _ k3 (S2.G.trans G3) z
  · refine star_lst S ha (by omega) fun h2 S2 hk2 => ⟨S2.ok.X, ?_⟩
    exact mk_op (kk := false) S2.ok (R.deeper _) hts hu fun r I3 h3 g3 t3 k3 G3 z => hQ _ _ _ _ _ k3 (S2.G.trans G3) z

end
end Mine
namespace Mine
local macro_rules | `(tactic| walk_at "lk") => `(tactic| first | assumption | exact lk_hd (by decide +kernel) | exact lk_tl (by decide +kernel) (by assumption) | exact lk_tl (by decide +kernel) (lk_tl (by decide +kernel) (by assumption)) | exact lk_tl (by decide +kernel) (lk_hd (by decide +kernel)) | exact lk_tl (by decide +kernel) (lk_tl (by decide +kernel) (lk_hd (by decide +kernel))) | exact lk_tl (by decide +kernel) (lk_tl (by decide +kernel) (lk_tl (by decide +kernel) (lk_hd (by decide +kernel)))) | exact lk_tl (by decide +kernel) (lk_tl (by decide +kernel) (lk_tl (by decide +kernel) (lk_tl (by decide +kernel) (lk_hd (by decide +kernel))))))
local macro_rules | `(tactic| walk_at "ok") => `(tactic| first | assumption | exact St.ok (by assumption))
local macro_rules | `(tactic| walk_at "nm") => `(tactic| refine nm_loc (by assumption) rfl (by kernel_rfl) (by walk_at "lk") (by kernel_rfl) ?_)
local macro_rules | `(tactic| walk_at "s0") => `(tactic| refine sub0 (by walk_at "ok") (by assumption) (by with_unfolding_all rfl) ?_)
local macro_rules | `(tactic| walk_at "s1") => `(tactic| refine sub1 (by walk_at "ok") (by assumption) (by with_unfolding_all rfl) ?_)
local macro_rules | `(tactic| walk_at "eqt") => `(tactic| refine eq_str_is true (by kernel_rfl) ?_)
local macro_rules | `(tactic| walk_at "eqf") => `(tactic| refine eq_str_is false (by kernel_rfl) ?_)
local macro_rules | `(tactic| walk_at "st") => `(tactic| first
  | ((with_reducible show wpAny _ _ (eval (Expr.Constant (Const.str _) _ _) _) _ _ _); refine c_str ?_)
  | ((with_reducible show wpAny _ _ (eval (Expr.Constant (Const.int _) _ _) _) _ _ _); refine c_int ?_)
  | ((with_reducible show wpAny _ _ (eval (Expr.Constant (Const.bool _) _ _) _) _ _ _); refine wpAny_Constant_bool ?_)
  | ((with_reducible show wpAny _ _ (eval (Expr.Subscript _ (Expr.Constant _ _ _) _) _) _ _ _); refine Subscript_ ?_)
  | ((with_reducible show wpAny _ _ (eval (Expr.Compare _ _ _ _) _) _ _ _); refine wpAny_Compare1 ?_)
  | ((with_reducible show wpAny _ _ (eval (Expr.IfExp _ _ _ _) _) _ _ _); refine IfExp_ ?_)
  | ((with_reducible show wpAny _ _ (eval (Expr.Tuple _ _ _) _) _ _ _); refine Tuple_ ?_)
  | ((with_reducible show wpAny _ _ (eval (Expr.List _ _) _) _ _ _); refine List_ ?_)
  | ((with_reducible show wpAny _ _ (eval (Expr.BinOp _ _ _ _) _) _ _ _); refine wpAny_BinOp ?_)
  | ((with_reducible show wpAny _ _ (eval (Expr.UnaryOp _ _ _) _) _ _ _); refine UnaryOp_ ?_)
  | ((with_reducible show wpAny _ _ (isTrue (Expr.Compare _ _ _ _) _ _) _ _ _); refine wpAny_isTrue_Compare1 ?_)
  | ((with_reducible show wpAny _ _ (isTrue (Expr.UnaryOp UnaryOp.Not _ _) _ _) _ _ _); refine isTrue_not ?_)
  | ((with_reducible show wpAny _ _ (isTrue (Expr.BoolOp BoolOp.And (_ :: _) _) _ _) _ _ _); refine isTrue_and ?_)
  | ((with_reducible show wpAny _ _ (isTrue (Expr.BoolOp BoolOp.Or (_ :: _) _) _ _) _ _ _); refine isTrue_or ?_)
  | ((with_reducible show wpAny _ _ (isTrue (Expr.BoolOp BoolOp.Or [] _) _ _) _ _ _); refine isTrue_nil_or ?_)
  | ((with_reducible show wpAny _ _ (isTrue (Expr.BoolOp BoolOp.And [] _) _ _) _ _ _); refine isTrue_nil_and ?_)
  | ((with_reducible show wpAny _ _ (isTrue (Expr.Name _ _) _ _) _ _ _); refine isTrue_plain ?_)
  | ((with_reducible show wpAny _ _ (isTrue (Expr.Constant _ _ _) _ _) _ _ _); refine isTrue_plain ?_)
  | ((with_reducible show wpAny _ _ (isTrue (Expr.Call _ _ _ _) _ _) _ _ _); refine isTrue_plain ?_)
  | ((with_reducible show wpAny _ _ (isTrue (Expr.Attribute _ _ _) _ _) _ _ _); refine isTrue_plain ?_)
  | ((with_reducible show wpAny _ _ (unaryOp UnaryOp.Not _) _ _ _); refine not_of ?_)
  | ((with_reducible show wpAny _ _ (truthy (Value.bool _)) _ _ _); refine wpAny_truthy_bool ?_)
  | ((with_reducible show ite _ _ _); first | refine ite_t ?_ | refine ite_f ?_)
  | ((with_reducible show wpAny _ _ (execs (_ :: _) _) _ _ _); refine wpAny_execs_cons ?_)
  | ((with_reducible show wpAny _ _ (execs [] _) _ _ _); refine wpAny_execs_nil ?_)
  | ((with_reducible show wpAny _ _ (exec (Stmt.If _ _ _ _) _) _ _ _); refine wpAny_If ?_)
  | ((with_reducible show wpAny _ _ (exec (Stmt.Return (some _) _) _) _ _ _); refine wpAny_Return_some ?_)
  | ((with_reducible show wpAny _ _ (exec (Stmt.Assign [Expr.Attribute _ _ _] _ _) _) _ _ _); refine plainObj_wpAny_Assign_Attribute ?_)
  | ((with_reducible show wpAny _ _ (eval (Expr.Constant Const.none _ _) _) _ _ _); refine Constant_none ?_)
  | ((with_reducible show wpAny _ _ (spliced (backTo _ (starEach (_ :: _) _))) _ _ _); refine args_cons ?_)
  | ((with_reducible show wpAny _ _ (spliced (backTo _ (starEach [] _))) _ _ _); refine args_nil ?_))
local macro_rules | `(tactic| walk_at "sts") => `(tactic| repeat walk_at "st")
local macro_rules | `(tactic| walk_at "cw") => `(tactic| refine cw (by walk_at "ok") (by kernel_rfl) ?_ rfl rfl)
local macro_rules | `(tactic| walk_at "cwb") => `(tactic| refine cwb rfl ?_ rfl rfl)
local macro_rules | `(tactic| walk_at "mem") => `(tactic| simp [attrNames])
local macro_rules | `(tactic| walk_at "sl") => `(tactic| refine sub_lst (by walk_at "ok") (by assumption) (by decide) (by decide) rfl (by with_unfolding_all rfl) ?_)

section
variable {w : World} {B : Heap} {M : Addr → Prop} {h₀ : Heap} {I₀ I : Im} {L : Addr} {m : Str → Option Value} {h : Heap} {g : Array GenState} {d : Drawn} {t : Nat} {o : OsState} {A : Around} {E : Value → Shared → Prop} {env : Env}

theorem is_refs {x y : T} {v u : Value} {g' : Array GenState} {Q : Value → Shared → Prop} (k : Ok w B I h g) (hx : EIn I x v) (hy : EIn I y u) (hq : Q (.bool (decide (v = u))) ⟨h, g', d, t, o⟩) : wpAny (model PR w) A (compareOp .Is v u) Q E ⟨h, g', d, t, o⟩ := by
  obtain ⟨a, l, rfl, ii⟩ := hx.isI k
  obtain ⟨a', l', rfl, ii'⟩ := hy.isI k
  by_cases e : a = a'
  · subst e
    rw [decide_eq_true rfl] at hq
    exact wpAny_is_ref_self hq
  · rw [decide_eq_false (fun q => e (by injection q))] at hq
    obtain ⟨ox, od, i1, _⟩ := ii.inst k
    obtain ⟨oy, od', i2, _⟩ := ii'.inst k
    exact wpAny_is_ref_other (s := ⟨h, g', d, t, o⟩) e i1.at_ i2.at_ (by rw [i1.cls]; intro q; cases q) hq
def T.hop : T → Nat | .sym _ => 0 | .con _ => 0 | .not t => t.hop | .op2 _ a b => max a.hop b.hop + 1 | .op3 _ a b c => max a.hop (max b.hop c.hop) + 1
def LitSpec (w : World) (B : Heap) (d : Drawn) (o : OsState) (x : T) (n : Nat) : Prop := ∀ {A : Around} {I : Im} {h : Heap} {g : Array GenState} {tk : Nat} {v : Value} {Q : Value → Shared → Prop} {E : Value → Shared → Prop},
    Ok w B I h g → Room A n → EIn I x v → Gives w B d o h I (fun I' r => EIn I' (x.low false) r) Q → wpAny (model PR w) A (call (.ref (if x.isNot then 395 else 47)) [v]) Q E ⟨h, g, d, tk, o⟩
/-- Expression.literalize, its parts told -/
theorem elit_call {x : T} {n : Nat} (hn : x.isNot = false) (hk : ∀ (j : Nat) (u : T), x.kids[j]? = some u → LitSpec w B d o u (n + 9)) : LitSpec w B d o x (n + 10) := by
  intro A I h g tk v Q E k R hT hQ
  obtain ⟨a, l, e, us, V⟩ := hT.view k
  rw [hn]
  refine enter1 [(n_self, v)] [] [(n_self, h.objs.size + 1)] Mt k rfl (by kernel_rfl) R.d (by kernel_rfl) (by kernel_rfl) rfl (by kernel_rfl) (by decide +kernel) rfl rfl rfl fun h₁ t₁ I₁ E' S hle hc => ?_
  obtain ⟨qc, hc1, hc2⟩ := hc n_self (h.objs.size + 1) (by kernel_rfl)
  replace hc2 : qc.data = .cell (some v) := hc2.trans (by kernel_rfl)
  clear hc
  have hlen : us.length ≤ 3 := by rw [V.ks.1]; exact x.kids_len
  have V1 : View w I₁ x v a l e us := ⟨V.v, V.ii.le hle, V.la, V.ll, V.lm, V.lc, V.tu.le hle, V.ks.le fun _ _ z => z.le hle⟩
  walk_at "sts"
  refine Attribute_Name_ ?_
  refine nm_cell S.ok rfl (by kernel_rfl) (by kernel_rfl) hc1 hc2 (by kernel_rfl) ?_
  refine V1.lit S.ok ?_
  walk_at "sts"
  cases hl : x.isLit with
  | true =>
    walk_at "sts"
    refine nm_cell S.ok rfl (by kernel_rfl) (by kernel_rfl) hc1 hc2 (by kernel_rfl) ?_
    refine hQ _ _ _ _ _ S.ok S.G ?_
    cases x with
    | sym y => exact hT.le hle
    | not _ => cases hn
    | _ => simp [T.isLit] at hl
  | false =>
    walk_at "sts"
    refine wpAny_Assign_Name (Call_ ?_)
    refine nm_boot (v := .type "tuple") S.ok rfl (by kernel_rfl) rfl rfl (by kernel_rfl) (by kernel_rfl) (by decide +kernel) (by kernel_rfl) ?_
    walk_at "cwb"; walk_at "sts"
    refine comp_ev (B := B) (d := d) (o := o) R.hh (cl := []) rfl (by decide) rfl (by decide) (by kernel_rfl) (fun _ => rfl) ?_
    refine Attribute_Name_ ?_
    refine nm_cell S.ok rfl (by kernel_rfl) (by kernel_rfl) hc1 hc2 (by kernel_rfl) ?_
    refine V1.args S.ok ?_
    refine ⟨e, us, I₁, h₁, g, _, Mt, fun j I y => ∀ t', x.kids[j]? = some t' → EIn I (t'.low false) y, fun _ => True, rfl, rfl, S.ok, .inl V1.tu, V1.tu.nM S.ok, Nat.le_trans hlen (Nat.le_trans (by decide) sizeLine_big),
      { hM := S.ok.hM, hR := fun i I I' y hl hr t' e => (hr t' e).le hl, hV := fun _ _ _ _ => trivial, hV0 := trivial, helt := ?_ }, fun D5 h5 I5 g5 t5 ys k5 G5 hl5 hlen5 hr5 _ => ?_⟩
    · intro i v' C m I' h' g' t' Q' E' hi hP S' hm _ hK
      have hj : i < x.kids.length := by rw [← V.ks.1]; exact hi
      have hje := List.getElem?_eq_getElem hj
      have hev : EIn I' x.kids[i] v' := (V1.ks.2 i v' _ hP hje).le S'.G.le
      obtain ⟨a2, l2, e2, us2, V2⟩ := hev.view S'.ok
      refine MethodCall_ ?_
      walk_at "nm"
      refine V2.meth S'.ok (by simp) (methFacts w _).2.2 (by cases x.kids[i].isNot <;> kernel_rfl) ?_
      refine callWith_K0 S'.ok.X (by cases x.kids[i].isNot <;> kernel_rfl) ?_
      refine hk i _ hje S'.ok (R.deeper _) hev fun r I6 h6 g6 t6 k6 G6 z => ?_
      exact hK _ _ _ _ _ k6 G6 trivial fun t' e => by rw [hje] at e; cases e; exact z
    · have S5 := S.after k5 G5 fun _ q => q
      walk_at "sts"
      refine tup_of_lst S5 hl5 (by omega) fun h7 I7 D7 S7 hl7 ht7 => ?_
      have hle7 : Le I₁ I7 := G5.le.trans hl7
      have V7 : View w I7 x v a l e us := ⟨V1.v, V1.ii.le hle7, V1.la, V1.ll, V1.lm, V1.lc, V1.tu.le hle7, V1.ks.le fun _ _ z => z.le hle7⟩
      have hys : Each (EIn I7) (x.kids.map (·.low false)) ys := ⟨by rw [hlen5, V.ks.1, List.length_map], fun j u t' e e' => by
        rw [List.getElem?_map] at e'
        cases q : x.kids[j]? with
        | none => rw [q] at e'; cases e'
        | some t0 => rw [q] at e'; cases e'; exact (hr5 j u e t0 q).le hl7⟩
      have hc7 := hle7 _ _ hc1
      refine put S7 (by kernel_rfl) rfl fun h8 S8 _ => ?_
      walk_at "sts"
      refine Call_ ?_
      refine nm_boot (v := .builtin "all") S8.ok rfl (by kernel_rfl) rfl rfl (by kernel_rfl) (by kernel_rfl) (by decide +kernel) (by kernel_rfl) ?_
      walk_at "cwb"; walk_at "sts"
      refine gen_all2 (c := 46) (P := P2) (cl := [(n_self, h.objs.size + 1)]) (fun i => decide (ys[i]? = us[i]?)) S8.ok (.inr rfl) (fun h' X => ⟨_, _, _, _, _, _, _, _, _, X _ _ rfl, rfl, rfl, rfl, rfl, rfl, rfl, rfl, rfl, by decide⟩) rfl rfl rfl R.hh (R.deeper _).d ht7 rfl rfl (by decide) (by kernel_rfl) (by kernel_rfl) (by kernel_rfl) (by decide) rfl (fun _ => rfl)
        (fun Q' hq' => ?_) (fun A' E' i v' u s₂ C2 code m₂ hA' hv' k' hns hm' hm'' => ?_) fun ga s₅ hfin => ?_
      · refine Call_ ?_
        refine nm_boot (v := .type "enumerate") S8.ok rfl (by kernel_rfl) rfl rfl (by kernel_rfl) (by kernel_rfl) (by decide +kernel) (by kernel_rfl) ?_
        walk_at "cwb"; walk_at "sts"; walk_at "nm"; walk_at "sts"
        exact hq'
      · obtain ⟨h2', g2', d2', t2', o2'⟩ := s₂
        have hi : i < ys.length := (List.getElem?_eq_some_iff.mp hv').1
        have hik : i < x.kids.length := by rw [← V.ks.1, ← hlen5]; exact hi
        have hiu : i < us.length := by rw [← hlen5]; exact hi
        have hev : EIn I7 (x.kids[i].low false) v' := hys.2 i v' _ hv' (by rw [List.getElem?_map, List.getElem?_eq_getElem hik]; rfl)
        have heu : EIn I7 x.kids[i] us[i] := V7.ks.2 i _ _ (List.getElem?_eq_getElem hiu) (List.getElem?_eq_getElem hik)
        walk_at "sts"
        refine wpAny_Name (wpAny_loadName_local rfl (by kernel_rfl) hns hm'' ?_)
        refine Subscript_ (Attribute_Name_ ?_)
        refine nm_free k' rfl (by kernel_rfl) (by kernel_rfl) hc7 hc2 (by kernel_rfl) (by kernel_rfl) ?_
        refine V7.args k' ?_
        refine wpAny_Name (wpAny_loadName_local rfl (by kernel_rfl) hns hm' ?_)
        refine sub_tup (j := i) k' V7.tu (by omega) (by omega) (by rw [seqIndex_of (by omega) (by omega)]; simp) (List.getElem?_eq_getElem hiu) (by with_unfolding_all rfl) ?_
        refine is_refs k' hev heu ⟨?_, h2', _, rfl, fun _ _ e => e⟩
        rw [hv', List.getElem?_eq_getElem hiu]
        congr 1
        exact decide_eq_decide.mpr ⟨fun e => by rw [e], fun e => by injection e⟩
      · walk_at "sts"
        refine hfin _ _ fun h9 g9 t9 k9 G9 => ?_
        have S9 := S8.after k9 G9 fun _ q => q
        walk_at "sts"
        cases hb : (List.range ys.length).all (fun i => decide (ys[i]? = us[i]?)) with
        | true =>
          walk_at "sts"
          refine nm_cell S9.ok rfl (by kernel_rfl) (by kernel_rfl) hc7 hc2 (by kernel_rfl) ?_
          refine hQ _ _ _ _ _ S9.ok S9.G ?_
          have same : x.low false = x := by
            have hsame : x.kids.map (·.low false) = x.kids := by
              apply List.ext_getElem?
              intro j
              by_cases hj : j < x.kids.length
              · have hjy : j < ys.length := by rw [hlen5, V.ks.1]; exact hj
                have hju : j < us.length := by rw [V.ks.1]; exact hj
                have q := List.all_eq_true.mp hb j (List.mem_range.mpr hjy)
                have q2 : ys[j]? = us[j]? := of_decide_eq_true q
                have e1 : EIn I7 (x.kids[j].low false) ys[j] := hys.2 j _ _ (List.getElem?_eq_getElem hjy) (by rw [List.getElem?_map, List.getElem?_eq_getElem hj]; rfl)
                have e2 : EIn I7 x.kids[j] us[j] := V7.ks.2 j _ _ (List.getElem?_eq_getElem hju) (List.getElem?_eq_getElem hj)
                rw [List.getElem?_eq_getElem hjy, List.getElem?_eq_getElem hju] at q2
                have q3 := Option.some.inj q2
                rw [q3] at e1
                rw [List.getElem?_map, List.getElem?_eq_getElem hj, Option.map_some, EIn.det S9.ok e1 e2]
              · rw [List.getElem?_eq_none (by simpa using Nat.le_of_not_lt hj), List.getElem?_eq_none (by simpa using Nat.le_of_not_lt hj)]
            cases x with
            | sym y => rfl
            | con b => cases b <;> rfl
            | not _ => cases hn
            | op2 kk y z => simp only [T.kids, List.map_cons, List.map_nil, List.cons.injEq, and_true] at hsame; simp only [T.low, hsame.1, hsame.2]; cases kk <;> rfl
            | op3 kk y z q => simp only [T.kids, List.map_cons, List.map_nil, List.cons.injEq, and_true] at hsame; simp only [T.low, hsame.1, hsame.2.1, hsame.2.2]; cases kk <;> rfl
          rw [same]
          exact hT.le (hle.trans hle7)
        | false =>
          walk_at "sts"
          have hop : ∃ kk, x.op = some (kk, x.kids) := by
            cases x with
            | sym y => simp [T.isLit] at hl
            | not _ => cases hn
            | con b => exfalso; have : ys = [] := hys.done; subst this; simp at hb
            | op2 kk y z => exact ⟨kk, rfl⟩
            | op3 kk y z q => exact ⟨kk, rfl⟩
          obtain ⟨kk, hop⟩ := hop
          have hfin2 : x.low false = mkOp kk (x.kids.map (·.low false)) := by
            have := T.op_mk (T.low_op hop false)
            rw [this]; cases kk <;> rfl
          have hts : (x.kids.map (·.low false)).length = 2 ∨ (x.kids.map (·.low false)).length = 3 := by rw [List.length_map]; exact T.op_len hop
          rw [hfin2] at hQ
          have hcl := T.op_cls hop
          refine MethodCall_ ?_
          refine nm_cell S9.ok rfl (by kernel_rfl) (by kernel_rfl) hc7 hc2 (by kernel_rfl) ?_
          cases kk with
          | false =>
            refine V7.meth (f := 530) S9.ok (by simp) (by rw [hcl]; kernel_rfl) (by kernel_rfl) ?_
            refine callWith_K S9.ok.X (by kernel_rfl) ?_
            walk_at "sts"; walk_at "nm"; walk_at "sts"
            exact ⟨S9.ok.X, amade_call S9.ok ((R.deeper _).le (by omega)) (.inl ht7) hts hys fun r I2 h2 g2 t2 k2 G2 z => hQ _ _ _ _ _ k2 (S9.G.trans G2) z⟩
          | true =>
            refine V7.meth (f := 579) S9.ok (by simp) (by rw [hcl]; kernel_rfl) (by kernel_rfl) ?_
            refine callWith_K S9.ok.X (by kernel_rfl) ?_
            walk_at "sts"; walk_at "nm"; walk_at "sts"
            exact ⟨S9.ok.X, omade_call S9.ok ((R.deeper _).le (by omega)) (.inl ht7) hts hys fun r I2 h2 g2 t2 k2 G2 z => hQ _ _ _ _ _ k2 (S9.G.trans G2) z⟩

end
end Mine
namespace Mine
local macro_rules | `(tactic| walk_at "lk") => `(tactic| first | assumption | exact lk_hd (by decide +kernel) | exact lk_tl (by decide +kernel) (by assumption) | exact lk_tl (by decide +kernel) (lk_tl (by decide +kernel) (by assumption)) | exact lk_tl (by decide +kernel) (lk_hd (by decide +kernel)) | exact lk_tl (by decide +kernel) (lk_tl (by decide +kernel) (lk_hd (by decide +kernel))) | exact lk_tl (by decide +kernel) (lk_tl (by decide +kernel) (lk_tl (by decide +kernel) (lk_hd (by decide +kernel)))) | exact lk_tl (by decide +kernel) (lk_tl (by decide +kernel) (lk_tl (by decide +kernel) (lk_tl (by decide +kernel) (lk_hd (by decide +kernel))))))
local macro_rules | `(tactic| walk_at "ok") => `(tactic| first | assumption | exact St.ok (by assumption))
local macro_rules | `(tactic| walk_at "nm") => `(tactic| refine nm_loc (by assumption) rfl (by kernel_rfl) (by walk_at "lk") (by kernel_rfl) ?_)
local macro_rules | `(tactic| walk_at "s0") => `(tactic| refine sub0 (by walk_at "ok") (by assumption) (by with_unfolding_all rfl) ?_)
local macro_rules | `(tactic| walk_at "s1") => `(tactic| refine sub1 (by walk_at "ok") (by assumption) (by with_unfolding_all rfl) ?_)
local macro_rules | `(tactic| walk_at "eqt") => `(tactic| refine eq_str_is true (by kernel_rfl) ?_)
local macro_rules | `(tactic| walk_at "eqf") => `(tactic| refine eq_str_is false (by kernel_rfl) ?_)
local macro_rules | `(tactic| walk_at "st") => `(tactic| first
  | ((with_reducible show wpAny _ _ (eval (Expr.Constant (Const.str _) _ _) _) _ _ _); refine c_str ?_)
  | ((with_reducible show wpAny _ _ (eval (Expr.Constant (Const.int _) _ _) _) _ _ _); refine c_int ?_)
  | ((with_reducible show wpAny _ _ (eval (Expr.Constant (Const.bool _) _ _) _) _ _ _); refine wpAny_Constant_bool ?_)
  | ((with_reducible show wpAny _ _ (eval (Expr.Subscript _ (Expr.Constant _ _ _) _) _) _ _ _); refine Subscript_ ?_)
  | ((with_reducible show wpAny _ _ (eval (Expr.Compare _ _ _ _) _) _ _ _); refine wpAny_Compare1 ?_)
  | ((with_reducible show wpAny _ _ (eval (Expr.IfExp _ _ _ _) _) _ _ _); refine IfExp_ ?_)
  | ((with_reducible show wpAny _ _ (eval (Expr.Tuple _ _ _) _) _ _ _); refine Tuple_ ?_)
  | ((with_reducible show wpAny _ _ (eval (Expr.List _ _) _) _ _ _); refine List_ ?_)
  | ((with_reducible show wpAny _ _ (eval (Expr.BinOp _ _ _ _) _) _ _ _); refine wpAny_BinOp ?_)
  | ((with_reducible show wpAny _ _ (eval (Expr.UnaryOp _ _ _) _) _ _ _); refine UnaryOp_ ?_)
  | ((with_reducible show wpAny _ _ (isTrue (Expr.Compare _ _ _ _) _ _) _ _ _); refine wpAny_isTrue_Compare1 ?_)
  | ((with_reducible show wpAny _ _ (isTrue (Expr.UnaryOp UnaryOp.Not _ _) _ _) _ _ _); refine isTrue_not ?_)
  | ((with_reducible show wpAny _ _ (isTrue (Expr.BoolOp BoolOp.And (_ :: _) _) _ _) _ _ _); refine isTrue_and ?_)
  | ((with_reducible show wpAny _ _ (isTrue (Expr.BoolOp BoolOp.Or (_ :: _) _) _ _) _ _ _); refine isTrue_or ?_)
  | ((with_reducible show wpAny _ _ (isTrue (Expr.BoolOp BoolOp.Or [] _) _ _) _ _ _); refine isTrue_nil_or ?_)
  | ((with_reducible show wpAny _ _ (isTrue (Expr.BoolOp BoolOp.And [] _) _ _) _ _ _); refine isTrue_nil_and ?_)
  | ((with_reducible show wpAny _ _ (isTrue (Expr.Name _ _) _ _) _ _ _); refine isTrue_plain ?_)
  | ((with_reducible show wpAny _ _ (isTrue (Expr.Constant _ _ _) _ _) _ _ _); refine isTrue_plain ?_)
  | ((with_reducible show wpAny _ _ (isTrue (Expr.Call _ _ _ _) _ _) _ _ _); refine isTrue_plain ?_)
  | ((with_reducible show wpAny _ _ (isTrue (Expr.Attribute _ _ _) _ _) _ _ _); refine isTrue_plain ?_)
  | ((with_reducible show wpAny _ _ (unaryOp UnaryOp.Not _) _ _ _); refine not_of ?_)
  | ((with_reducible show wpAny _ _ (truthy (Value.bool _)) _ _ _); refine wpAny_truthy_bool ?_)
  | ((with_reducible show ite _ _ _); first | refine ite_t ?_ | refine ite_f ?_)
  | ((with_reducible show wpAny _ _ (execs (_ :: _) _) _ _ _); refine wpAny_execs_cons ?_)
  | ((with_reducible show wpAny _ _ (execs [] _) _ _ _); refine wpAny_execs_nil ?_)
  | ((with_reducible show wpAny _ _ (exec (Stmt.If _ _ _ _) _) _ _ _); refine wpAny_If ?_)
  | ((with_reducible show wpAny _ _ (exec (Stmt.Return (some _) _) _) _ _ _); refine wpAny_Return_some ?_)
  | ((with_reducible show wpAny _ _ (exec (Stmt.Assign [Expr.Attribute _ _ _] _ _) _) _ _ _); refine plainObj_wpAny_Assign_Attribute ?_)
  | ((with_reducible show wpAny _ _ (eval (Expr.Constant Const.none _ _) _) _ _ _); refine Constant_none ?_)
  | ((with_reducible show wpAny _ _ (spliced (backTo _ (starEach (_ :: _) _))) _ _ _); refine args_cons ?_)
  | ((with_reducible show wpAny _ _ (spliced (backTo _ (starEach [] _))) _ _ _); refine args_nil ?_))
local macro_rules | `(tactic| walk_at "sts") => `(tactic| repeat walk_at "st")
local macro_rules | `(tactic| walk_at "cw") => `(tactic| refine cw (by walk_at "ok") (by kernel_rfl) ?_ rfl rfl)
local macro_rules | `(tactic| walk_at "cwb") => `(tactic| refine cwb rfl ?_ rfl rfl)
local macro_rules | `(tactic| walk_at "mem") => `(tactic| simp [attrNames])
local macro_rules | `(tactic| walk_at "sl") => `(tactic| refine sub_lst (by walk_at "ok") (by assumption) (by decide) (by decide) rfl (by with_unfolding_all rfl) ?_)

section
variable {w : World} {B : Heap} {M : Addr → Prop} {h₀ : Heap} {I₀ I : Im} {L : Addr} {m : Str → Option Value} {h : Heap} {g : Array GenState} {d : Drawn} {t : Nat} {o : OsState} {A : Around} {E : Value → Shared → Prop} {env : Env}

theorem dual_call {b : Bool} {y : Value} {Q : Value → Shared → Prop} (k : Ok w B I h g) (R : Room A 2) (hQ : Gives w B d o h I (fun _ r => r = .ref (cona (!b))) Q) : wpAny (model PR w) A (call (.ref 165) [.ref (cona b), y]) Q E ⟨h, g, d, t, o⟩ := by
  refine enter0 [(n_args, y), (n_self, .ref (cona b))] Mt k rfl (by kernel_rfl) R.d (by kernel_rfl) (by kernel_rfl) (by kernel_rfl) rfl rfl rfl fun h₁ t₁ E' S => ?_
  walk_at "sts"
  refine Attribute_Name_ ?_
  walk_at "nm"
  obtain ⟨u, ii, _⟩ := conI S.ok b
  obtain ⟨ox, od, i, D⟩ := ii.inst S.ok
  cases b with
  | true =>
    refine get_bind (s := ⟨h₁, g, d, _, o⟩) (g := .builtin "property.__get__") (a := .ref 192) S.ok.X i (by kernel_rfl) (findObj_data (by kernel_rfl) (by kernel_rfl) (by kernel_rfl) (by kernel_rfl)) (by kernel_rfl) (wpAny_call (prop_get (s := ⟨h₁, g, d, _, o⟩) (fget := 191) (rest := _) S.ok.X rfl ?_))
    refine enterAt [(n_self, .ref 275)] Mt S.ok rfl (by kernel_rfl) (R.deeper _).in1.d (by kernel_rfl) (by kernel_rfl) (by kernel_rfl) rfl rfl rfl fun h2 t2 E2 S2 => wpAt_of_wpAny ?_
    walk_at "sts"
    refine nm_glob (v := .ref 279) S2.ok rfl (by kernel_rfl) rfl (by kernel_rfl) (by kernel_rfl) ?_
    exact handed_on rfl (hQ _ _ _ _ _ S2.ok (S.G.trans S2.G) rfl)
  | false =>
    refine get_bind (s := ⟨h₁, g, d, _, o⟩) (g := .builtin "property.__get__") (a := .ref 240) S.ok.X i (by kernel_rfl) (findObj_data (by kernel_rfl) (by kernel_rfl) (by kernel_rfl) (by kernel_rfl)) (by kernel_rfl) (wpAny_call (prop_get (s := ⟨h₁, g, d, _, o⟩) (fget := 239) (rest := _) S.ok.X rfl ?_))
    refine enterAt [(n_self, .ref 279)] Mt S.ok rfl (by kernel_rfl) (R.deeper _).in1.d (by kernel_rfl) (by kernel_rfl) (by kernel_rfl) rfl rfl rfl fun h2 t2 E2 S2 => wpAt_of_wpAny ?_
    walk_at "sts"
    refine nm_glob (v := .ref 275) S2.ok rfl (by kernel_rfl) rfl (by kernel_rfl) (by kernel_rfl) ?_
    exact handed_on rfl (hQ _ _ _ _ _ S2.ok (S.G.trans S2.G) rfl)

def T.morganN : T → T
  | .con b => .con (!b) | .op2 k a b => .op2 (!k) (T.not a).strip (T.not b).strip | .op3 k a b c => .op3 (!k) (T.not a).strip (T.not b).strip (T.not c).strip | t => .not t
def T.morgan (x : T) : T := match x.strip with | .not z => z.morganN | y => y
theorem strip_low : ∀ {x : T} {b : Bool}, x.strip.low b = x.low b := by
  intro x
  induction x using T.strip.induct with
  | case1 t ih => intro b; simp only [T.strip, T.low, Bool.not_not]; exact ih
  | case2 t h => intro b; rw [T.strip]; exact h
theorem strip_hop : ∀ {x : T}, x.strip.hop = x.hop := by
  intro x
  induction x using T.strip.induct with
  | case1 t ih => simp only [T.strip, T.hop]; exact ih
  | case2 t h => rw [T.strip]; exact h
theorem strip_not {x z : T} (h : x.strip = .not z) : z.isNot = false := by
  induction x using T.strip.induct with
  | case1 t ih => simp only [T.strip] at h; exact ih h
  | case2 t hx =>
    rw [T.strip] at h
    · subst h
      cases z with
      | not y => exact absurd rfl (hx y)
      | _ => rfl
    · exact hx
theorem morgan_low {x : T} : x.morgan.low false = x.low false := by
  rw [← strip_low (x := x)]
  unfold T.morgan
  cases hx : x.strip with
  | not z =>
    simp only
    cases z with
    | sym y => rfl
    | con b => cases b <;> rfl
    | not z => exact absurd (strip_not hx) (by simp [T.isNot])
    | op2 k a b => simp only [T.morganN, T.low, strip_low]; cases k <;> rfl
    | op3 k a b c => simp only [T.morganN, T.low, strip_low]; cases k <;> rfl
  | _ => rfl
theorem morgan_hop {x : T} : x.morgan.hop = x.hop := by
  rw [← strip_hop (x := x)]
  unfold T.morgan
  cases hx : x.strip with
  | not z =>
    simp only
    cases z with
    | op2 k a b => simp only [T.morganN, T.hop, strip_hop]
    | op3 k a b c => simp only [T.morganN, T.hop, strip_hop]
    | _ => rfl
  | _ => rfl

end
end Mine
namespace Mine
local macro_rules | `(tactic| walk_at "lk") => `(tactic| first | assumption | exact lk_hd (by decide +kernel) | exact lk_tl (by decide +kernel) (by assumption) | exact lk_tl (by decide +kernel) (lk_tl (by decide +kernel) (by assumption)) | exact lk_tl (by decide +kernel) (lk_hd (by decide +kernel)) | exact lk_tl (by decide +kernel) (lk_tl (by decide +kernel) (lk_hd (by decide +kernel))) | exact lk_tl (by decide +kernel) (lk_tl (by decide +kernel) (lk_tl (by decide +kernel) (lk_hd (by decide +kernel)))) | exact lk_tl (by decide +kernel) (lk_tl (by decide +kernel) (lk_tl (by decide +kernel) (lk_tl (by decide +kernel) (lk_hd (by decide +kernel))))))
local macro_rules | `(tactic| walk_at "ok") => `(tactic| first | assumption | exact St.ok (by assumption))
local macro_rules | `(tactic| walk_at "nm") => `(tactic| refine nm_loc (by assumption) rfl (by kernel_rfl) (by walk_at "lk") (by kernel_rfl) ?_)
local macro_rules | `(tactic| walk_at "s0") => `(tactic| refine sub0 (by walk_at "ok") (by assumption) (by with_unfolding_all rfl) ?_)
local macro_rules | `(tactic| walk_at "s1") => `(tactic| refine sub1 (by walk_at "ok") (by assumption) (by with_unfolding_all rfl) ?_)
local macro_rules | `(tactic| walk_at "eqt") => `(tactic| refine eq_str_is true (by kernel_rfl) ?_)
local macro_rules | `(tactic| walk_at "eqf") => `(tactic| refine eq_str_is false (by kernel_rfl) ?_)
local macro_rules | `(tactic| walk_at "st") => `(tactic| first
  | ((with_reducible show wpAny _ _ (eval (Expr.Constant (Const.str _) _ _) _) _ _ _); refine c_str ?_)
  | ((with_reducible show wpAny _ _ (eval (Expr.Constant (Const.int _) _ _) _) _ _ _); refine c_int ?_)
  | ((with_reducible show wpAny _ _ (eval (Expr.Constant (Const.bool _) _ _) _) _ _ _); refine wpAny_Constant_bool ?_)
  | ((with_reducible show wpAny _ _ (eval (Expr.Subscript _ (Expr.Constant _ _ _) _) _) _ _ _); refine Subscript_ ?_)
  | ((with_reducible show wpAny _ _ (eval (Expr.Compare _ _ _ _) _) _ _ _); refine wpAny_Compare1 ?_)
  | ((with_reducible show wpAny _ _ (eval (Expr.IfExp _ _ _ _) _) _ _ _); refine IfExp_ ?_)
  | ((with_reducible show wpAny _ _ (eval (Expr.Tuple _ _ _) _) _ _ _); refine Tuple_ ?_)
  | ((with_reducible show wpAny _ _ (eval (Expr.List _ _) _) _ _ _); refine List_ ?_)
  | ((with_reducible show wpAny _ _ (eval (Expr.BinOp _ _ _ _) _) _ _ _); refine wpAny_BinOp ?_)
  | ((with_reducible show wpAny _ _ (eval (Expr.UnaryOp _ _ _) _) _ _ _); refine UnaryOp_ ?_)
  | ((with_reducible show wpAny _ _ (isTrue (Expr.Compare _ _ _ _) _ _) _ _ _); refine wpAny_isTrue_Compare1 ?_)
  | ((with_reducible show wpAny _ _ (isTrue (Expr.UnaryOp UnaryOp.Not _ _) _ _) _ _ _); refine isTrue_not ?_)
  | ((with_reducible show wpAny _ _ (isTrue (Expr.BoolOp BoolOp.And (_ :: _) _) _ _) _ _ _); refine isTrue_and ?_)
  | ((with_reducible show wpAny _ _ (isTrue (Expr.BoolOp BoolOp.Or (_ :: _) _) _ _) _ _ _); refine isTrue_or ?_)
  | ((with_reducible show wpAny _ _ (isTrue (Expr.BoolOp BoolOp.Or [] _) _ _) _ _ _); refine isTrue_nil_or ?_)
  | ((with_reducible show wpAny _ _ (isTrue (Expr.BoolOp BoolOp.And [] _) _ _) _ _ _); refine isTrue_nil_and ?_)
  | ((with_reducible show wpAny _ _ (isTrue (Expr.Name _ _) _ _) _ _ _); refine isTrue_plain ?_)
  | ((with_reducible show wpAny _ _ (isTrue (Expr.Constant _ _ _) _ _) _ _ _); refine isTrue_plain ?_)
  | ((with_reducible show wpAny _ _ (isTrue (Expr.Call _ _ _ _) _ _) _ _ _); refine isTrue_plain ?_)
  | ((with_reducible show wpAny _ _ (isTrue (Expr.Attribute _ _ _) _ _) _ _ _); refine isTrue_plain ?_)
  | ((with_reducible show wpAny _ _ (unaryOp UnaryOp.Not _) _ _ _); refine not_of ?_)
  | ((with_reducible show wpAny _ _ (truthy (Value.bool _)) _ _ _); refine wpAny_truthy_bool ?_)
  | ((with_reducible show ite _ _ _); first | refine ite_t ?_ | refine ite_f ?_)
  | ((with_reducible show wpAny _ _ (execs (_ :: _) _) _ _ _); refine wpAny_execs_cons ?_)
  | ((with_reducible show wpAny _ _ (execs [] _) _ _ _); refine wpAny_execs_nil ?_)
  | ((with_reducible show wpAny _ _ (exec (Stmt.If _ _ _ _) _) _ _ _); refine wpAny_If ?_)
  | ((with_reducible show wpAny _ _ (exec (Stmt.Return (some _) _) _) _ _ _); refine wpAny_Return_some ?_)
  | ((with_reducible show wpAny _ _ (exec (Stmt.Assign [Expr.Attribute _ _ _] _ _) _) _ _ _); refine plainObj_wpAny_Assign_Attribute ?_)
  | ((with_reducible show wpAny _ _ (eval (Expr.Constant Const.none _ _) _) _ _ _); refine Constant_none ?_)
  | ((with_reducible show wpAny _ _ (spliced (backTo _ (starEach (_ :: _) _))) _ _ _); refine args_cons ?_)
  | ((with_reducible show wpAny _ _ (spliced (backTo _ (starEach [] _))) _ _ _); refine args_nil ?_))
local macro_rules | `(tactic| walk_at "sts") => `(tactic| repeat walk_at "st")
local macro_rules | `(tactic| walk_at "cw") => `(tactic| refine cw (by walk_at "ok") (by kernel_rfl) ?_ rfl rfl)
local macro_rules | `(tactic| walk_at "cwb") => `(tactic| refine cwb rfl ?_ rfl rfl)
local macro_rules | `(tactic| walk_at "mem") => `(tactic| simp [attrNames])
local macro_rules | `(tactic| walk_at "sl") => `(tactic| refine sub_lst (by walk_at "ok") (by assumption) (by decide) (by decide) rfl (by with_unfolding_all rfl) ?_)

section
variable {w : World} {B : Heap} {M : Addr → Prop} {h₀ : Heap} {I₀ I : Im} {L : Addr} {m : Str → Option Value} {h : Heap} {g : Array GenState} {d : Drawn} {t : Nat} {o : OsState} {A : Around} {E : Value → Shared → Prop} {env : Env}

theorem can_meth (w : World) {x : T} (h : x.isNot = true) : findIn (K w) (.ref x.cls) n_cancel = some (some (.ref 409)) ∧ findIn (K w) (.ref x.cls) n_demorgan = some (some (.ref 414)) := by
  cases x with
  | not _ => exact ⟨by kernel_rfl, by kernel_rfl⟩
  | _ => cases h
theorem morgan_op {x z : T} {k : Bool} {ts : List T} (hx : x.strip = .not z) (ho : z.op = some (k, ts)) : x.morgan = mkOp (!k) (ts.map fun t => (T.not t).strip) := by
  unfold T.morgan
  rw [hx]
  cases z <;> simp only [T.op, Option.some.injEq, Prod.mk.injEq, reduceCtorEq] at ho
  · obtain ⟨rfl, rfl⟩ := ho; rfl
  · obtain ⟨rfl, rfl⟩ := ho; rfl
theorem demorgan_call {x : T} {v : Value} {Q : Value → Shared → Prop} (k : Ok w B I h g) (R : Room A 11) (hT : EIn I x v) (hn : x.isNot = true) (hQ : Gives w B d o h I (fun I' r => EIn I' x.morgan r) Q) : wpAny (model PR w) A (call (.ref 414) [v]) Q E ⟨h, g, d, t, o⟩ := by
  obtain ⟨a, l, e, us, V⟩ := hT.view k
  refine enter0 [(n_self, v)] Mt k rfl (by kernel_rfl) R.d (by kernel_rfl) (by kernel_rfl) (by kernel_rfl) rfl rfl rfl fun h₁ t₁ E' S => ?_
  walk_at "sts"
  refine wpAny_Assign_Name (MethodCall_ ?_)
  walk_at "nm"
  refine V.meth S.ok (by simp) (can_meth w hn).1 (by kernel_rfl) ?_
  refine callWith_K0 S.ok.X (by kernel_rfl) ?_
  refine cancel_call S.ok ((R.deeper _).le (by omega)) hT hn fun r I2 h2 g2 t2 k2 G2 hy => ?_
  have S2 := S.after k2 G2 fun _ q => q
  refine put S2 (by kernel_rfl) rfl fun h3 S3 _ => ?_
  generalize hxs : x.strip = y at hy
  obtain ⟨ay, ly, ey, uy, Vy⟩ := hy.view S3.ok
  walk_at "sts"
  refine Attribute_Name_ ?_
  walk_at "nm"
  refine Vy.lit S3.ok ?_
  walk_at "sts"
  cases hl : y.isLit with
  | true =>
    show wpAny _ _ _ _ _ _
    walk_at "sts"; walk_at "nm"
    refine hQ _ _ _ _ _ S3.ok S3.G ?_
    have : x.morgan = y := by
      unfold T.morgan
      rw [hxs]
      cases y with
      | not z => cases z <;> first | rfl | (simp [T.isLit] at hl)
      | _ => rfl
    rw [this]; exact hy
  | false =>
    show wpAny _ _ _ _ _ _
    walk_at "sts"
    refine Call_ ?_
    refine nm_boot (v := .builtin "isinstance") S3.ok rfl (by kernel_rfl) rfl rfl (by kernel_rfl) (by kernel_rfl) (by decide +kernel) (by kernel_rfl) ?_
    walk_at "cwb"; walk_at "sts"; walk_at "nm"; walk_at "sts"
    refine nm_glob (v := .ref 431) S3.ok rfl (by kernel_rfl) rfl (by kernel_rfl) (by kernel_rfl) ?_
    walk_at "sts"
    refine isi S3.ok hy (is_not w y) fun t4 => ?_
    walk_at "sts"
    cases hyn : y.isNot with
    | false =>
      show wpAny _ _ _ _ _ _
      walk_at "sts"; walk_at "nm"
      refine hQ _ _ _ _ _ S3.ok S3.G ?_
      have : x.morgan = y := by
        unfold T.morgan
        rw [hxs]
        cases y <;> first | rfl | cases hyn
      rw [this]; exact hy
    | true =>
      cases y with
      | not z =>
        have hzn := strip_not hxs
        obtain ⟨u1, r1, rfl, hz, e1⟩ := Vy.ks.hd
        cases e1.done
        obtain ⟨az, lz, ez, uz, Vz⟩ := hz.view S3.ok
        show wpAny _ _ _ _ _ _
        walk_at "sts"
        refine wpAny_Assign_Name ?_
        walk_at "sts"
        refine Attribute_Name_ ?_
        walk_at "nm"
        refine Vy.args S3.ok ?_
        have htu := Vy.tu
        walk_at "sts"; walk_at "s0"
        refine put S3 (by kernel_rfl) rfl fun h5 S5 _ => ?_
        walk_at "sts"
        have hlen : uz.length ≤ 3 := by rw [Vz.ks.1]; exact z.kids_len
        have hf : ∃ f, findIn (K w) (.ref z.cls) n_made_dual = some (some (.ref f)) ∧ typeIn (K w) (.ref f) = some (.type "function") ∧ keepIn (K w) (.ref f) = true ∧
            ∀ {A : Around} {I : Im} {h : Heap} {g : Array GenState} {t : Nat} {D : Addr} {ys : List Value} {Q : Value → Shared → Prop} {E : Value → Shared → Prop}, Ok w B I h g → Room A 9 → Lst I D ys → Each (EIn I) (z.kids.map fun t => (T.not t).strip) ys → EIn I z u1 →
              Gives w B d o h I (fun I' r => EIn I' x.morgan r) Q → wpAny (model PR w) A (call (.ref f) [u1, .ref D]) Q E ⟨h, g, d, t, o⟩ := by
          rcases z.four with ⟨y, rfl⟩ | ⟨b, rfl⟩ | ⟨y, rfl⟩ | ⟨kk, ts, hop⟩
          · simp [T.isLit] at hl
          · refine ⟨165, by cases b <;> kernel_rfl, by kernel_rfl, by kernel_rfl, fun k R _ _ hu hQ => ?_⟩
            cases (show u1 = .ref (cona b) from hu)
            refine dual_call k (R.le (by omega)) fun r I' h' g' t' k' G e => hQ _ _ _ _ _ k' G ?_
            subst e
            unfold T.morgan
            rw [hxs]
            rfl
          · cases hzn
          · have hcl := T.op_cls hop
            have hm := morgan_op hxs hop
            have hkids : z.kids = ts := by cases z <;> simp only [T.op, Option.some.injEq, Prod.mk.injEq, reduceCtorEq] at hop <;> (obtain ⟨_, rfl⟩ := hop; rfl)
            have hts : (ts.map fun t => (T.not t).strip).length = 2 ∨ (ts.map fun t => (T.not t).strip).length = 3 := by rw [List.length_map]; exact T.op_len hop
            rw [hm, hkids]
            cases kk with
            | false => exact ⟨537, by rw [hcl]; kernel_rfl, by kernel_rfl, by kernel_rfl, fun k R hD hys _ hQ => adual_call k R (.inr hD) hts hys hQ⟩
            | true => exact ⟨586, by rw [hcl]; kernel_rfl, by kernel_rfl, by kernel_rfl, fun k R hD hys _ hQ => odual_call k R (.inr hD) hts hys hQ⟩
        obtain ⟨f, hf1, hf2, hf3, hf4⟩ := hf
        refine MethodCall_ ?_
        walk_at "nm"
        refine Vz.meth S5.ok (by simp) hf1 hf2 ?_
        refine callWith_K S5.ok.X hf3 ?_
        walk_at "sts"
        refine comp_ev (B := B) (d := d) (o := o) R.hh (cl := []) rfl (by decide) rfl (by decide) (by kernel_rfl) (fun _ => rfl) ?_
        refine Attribute_Name_ ?_
        walk_at "nm"
        refine Vz.args S5.ok ?_
        refine ⟨ez, uz, I2, h5, g2, _, Mt, fun j I y => ∀ t', z.kids[j]? = some t' → EIn I (T.not t').strip y, fun _ => True, rfl, rfl, S5.ok, .inl Vz.tu, Vz.tu.nM S5.ok, Nat.le_trans hlen (Nat.le_trans (by decide) sizeLine_big),
          { hM := S5.ok.hM, hR := fun i I I' y hl hr t' e => (hr t' e).le hl, hV := fun _ _ _ _ => trivial, hV0 := trivial, helt := ?_ }, fun D6 h6 I6 g6 t6 ys k6 G6 hl6 hlen6 hr6 _ => ?_⟩
        · intro i v' C m I' h' g' t' Q' E' hi hP S' hm _ hK
          have hj : i < z.kids.length := by rw [← Vz.ks.1]; exact hi
          have hje := List.getElem?_eq_getElem hj
          have hev : EIn I' z.kids[i] v' := (Vz.ks.2 i v' _ hP hje).le S'.G.le
          refine MethodCall_ (Call_ ?_)
          refine nm_glob (v := .ref 431) S'.ok rfl (by kernel_rfl) rfl (by kernel_rfl) (by kernel_rfl) ?_
          walk_at "cw"; walk_at "sts"; walk_at "nm"; walk_at "sts"
          refine ⟨S'.ok.X, mk_not S'.ok ((R.deeper _).le (by omega)) hev fun r7 I7 h7 g7 t7 k7 G7 hr7 => ?_⟩
          obtain ⟨a8, l8, e8, u8, V8⟩ := hr7.view k7
          refine V8.meth k7 (by simp) (can_meth w rfl).1 (by kernel_rfl) ?_
          refine callWith_K0 k7.X (by kernel_rfl) ?_
          refine cancel_call k7 ((R.deeper _).le (by omega)) hr7 rfl fun r9 I9 h9 g9 t9 k9 G9 hr9 => ?_
          exact hK _ _ _ _ _ k9 (G7.trans G9) trivial fun t' e => by rw [hje] at e; cases e; exact hr9
        · have S6 := S5.after k6 G6 fun _ q => q
          walk_at "sts"
          have hys : Each (EIn I6) (z.kids.map fun t => (T.not t).strip) ys := ⟨by rw [hlen6, Vz.ks.1, List.length_map], fun j u t' e e' => by
            rw [List.getElem?_map] at e'
            cases q : z.kids[j]? with
            | none => rw [q] at e'; cases e'
            | some t0 => rw [q] at e'; cases e'; exact hr6 j u e t0 q⟩
          exact ⟨k6.X, hf4 k6 ((R.deeper _).le (by omega)) hl6 hys (hz.le G6.le) fun r I7 h7 g7 t7 k7 G7 q => hQ _ _ _ _ _ k7 (S6.G.trans G7) q⟩
      | _ => cases hyn
theorem nlit_call {x : T} {n : Nat} (hn : x.isNot = true) (hk : x.morgan.isNot = false → LitSpec w B d o x.morgan (n + 10)) : LitSpec w B d o x (n + 12) := by
  intro A I h g tk v Q E k R hT hQ
  obtain ⟨a, l, e, us, V⟩ := hT.view k
  have hcx : x.cls = 431 := by cases x <;> first | rfl | cases hn
  rw [hn]
  refine enter0 [(n_self, v)] Mt k rfl (by kernel_rfl) R.d (by kernel_rfl) (by kernel_rfl) (by kernel_rfl) rfl rfl rfl fun h₁ t₁ E' S => ?_
  walk_at "sts"
  refine wpAny_Assign_Name (MethodCall_ ?_)
  walk_at "nm"
  refine V.meth S.ok (by simp) (can_meth w hn).2 (by kernel_rfl) ?_
  refine callWith_K0 S.ok.X (by kernel_rfl) ?_
  refine demorgan_call S.ok ((R.deeper _).le (by omega)) hT hn fun r I2 h2 g2 t2 k2 G2 hy => ?_
  have S2 := S.after k2 G2 fun _ q => q
  refine put S2 (by kernel_rfl) rfl fun h3 S3 _ => ?_
  have V3 : View w I2 x v a l e us := ⟨V.v, V.ii.le G2.le, V.la, V.ll, V.lm, V.lc, V.tu.le G2.le, V.ks.le fun _ _ z => z.le G2.le⟩
  obtain ⟨ay, ly, ey, uy, Vy⟩ := hy.view S3.ok
  walk_at "sts"
  refine Call_ ?_
  refine nm_boot (v := .builtin "isinstance") S3.ok rfl (by kernel_rfl) rfl rfl (by kernel_rfl) (by kernel_rfl) (by decide +kernel) (by kernel_rfl) ?_
  walk_at "cwb"; walk_at "sts"; walk_at "nm"; walk_at "sts"
  refine Attribute_Name_ ?_
  walk_at "nm"
  refine V3.cls S3.ok (by kernel_rfl) ?_
  rw [hcx]
  walk_at "sts"
  refine isi S3.ok hy (is_not w _) fun t4 => ?_
  walk_at "sts"
  cases hyn : x.morgan.isNot with
  | true =>
    walk_at "sts"; walk_at "nm"
    refine hQ _ _ _ _ _ S3.ok S3.G ?_
    have : x.low false = x.morgan := by
      rw [← morgan_low]
      unfold T.morgan at hyn ⊢
      cases hs : x.strip with
      | not z =>
        rw [hs] at hyn
        simp only at hyn ⊢
        cases z with
        | not z => exact absurd (strip_not hs) (by simp [T.isNot])
        | sym z => rfl
        | _ => cases hyn
      | _ => rw [hs] at hyn; cases hyn
    rw [this]; exact hy
  | false =>
    walk_at "sts"
    refine MethodCall_ ?_
    walk_at "nm"
    refine Vy.meth S3.ok (by simp) (methFacts w _).2.2 (by rw [hyn]; kernel_rfl) ?_
    refine callWith_K0 S3.ok.X (by rw [hyn]; kernel_rfl) ?_
    refine hk hyn S3.ok ((R.deeper _).le (by omega)) hy fun r I7 h7 g7 t7 k7 G7 q => ?_
    rw [morgan_low] at q
    exact hQ _ _ _ _ _ k7 (S3.G.trans G7) q
theorem LitSpec.le {x : T} {n m : Nat} (s : LitSpec w B d o x n) (hnm : n ≤ m) : LitSpec w B d o x m := by
  intro A I h g tk v Q E k R hT hQ
  exact s k (R.le hnm) hT hQ
theorem kids_hop {x u : T} {j : Nat} (hn : x.isNot = false) (e : x.kids[j]? = some u) : u.hop < x.hop := by
  have hm := List.mem_of_getElem? e
  cases x <;> simp only [T.kids, List.mem_cons, List.not_mem_nil, or_false] at hm
  · cases hn
  · rcases hm with rfl | rfl <;> simp only [T.hop] <;> omega
  · rcases hm with rfl | rfl | rfl <;> simp only [T.hop] <;> omega
theorem lit_call : ∀ (n : Nat) (x : T), x.hop ≤ n → LitSpec w B d o x (3 * n + 12) := by
  intro n
  induction n with
  | zero =>
    intro x hx
    have base : ∀ y : T, y.hop ≤ 0 → y.isNot = false → LitSpec w B d o y 10 := fun y hy hn => elit_call (n := 0) hn fun j u e => absurd (kids_hop hn e) (by omega)
    cases hn : x.isNot with
    | false => intro A I h g tk v Q E k R hT hQ; exact base x hx hn k (R.le (by omega)) hT hQ
    | true => intro A I h g tk v Q E k R hT hQ; exact nlit_call (n := 0) hn (fun h => base _ (by rw [morgan_hop]; exact hx) h) k (R.le (by omega)) hT hQ
  | succ n ih =>
    intro x hx
    have base : ∀ y : T, y.hop ≤ n + 1 → y.isNot = false → LitSpec w B d o y (3 * n + 3 + 10) := fun y hy hn => elit_call (n := 3 * n + 3) hn fun j u e => ih u (by have := kids_hop hn e; omega)
    cases hn : x.isNot with
    | false => intro A I h g tk v Q E k R hT hQ; exact base x hx hn k (R.le (by omega)) hT hQ
    | true => intro A I h g tk v Q E k R hT hQ; exact nlit_call (n := 3 * n + 3) hn (fun h => base _ (by rw [morgan_hop]; exact hx) h) k (R.le (by omega)) hT hQ

end
end Mine
namespace Mine
local macro_rules | `(tactic| walk_at "lk") => `(tactic| first | assumption | exact lk_hd (by decide +kernel) | exact lk_tl (by decide +kernel) (by assumption) | exact lk_tl (by decide +kernel) (lk_tl (by decide +kernel) (by assumption)) | exact lk_tl (by decide +kernel) (lk_hd (by decide +kernel)) | exact lk_tl (by decide +kernel) (lk_tl (by decide +kernel) (lk_hd (by decide +kernel))) | exact lk_tl (by decide +kernel) (lk_tl (by decide +kernel) (lk_tl (by decide +kernel) (lk_hd (by decide +kernel)))) | exact lk_tl (by decide +kernel) (lk_tl (by decide +kernel) (lk_tl (by decide +kernel) (lk_tl (by decide +kernel) (lk_hd (by decide +kernel))))))
local macro_rules | `(tactic| walk_at "ok") => `(tactic| first | assumption | exact St.ok (by assumption))
local macro_rules | `(tactic| walk_at "nm") => `(tactic| refine nm_loc (by assumption) rfl (by kernel_rfl) (by walk_at "lk") (by kernel_rfl) ?_)
local macro_rules | `(tactic| walk_at "s0") => `(tactic| refine sub0 (by walk_at "ok") (by assumption) (by with_unfolding_all rfl) ?_)
local macro_rules | `(tactic| walk_at "s1") => `(tactic| refine sub1 (by walk_at "ok") (by assumption) (by with_unfolding_all rfl) ?_)
local macro_rules | `(tactic| walk_at "eqt") => `(tactic| refine eq_str_is true (by kernel_rfl) ?_)
local macro_rules | `(tactic| walk_at "eqf") => `(tactic| refine eq_str_is false (by kernel_rfl) ?_)
local macro_rules | `(tactic| walk_at "st") => `(tactic| first
  | ((with_reducible show wpAny _ _ (eval (Expr.Constant (Const.str _) _ _) _) _ _ _); refine c_str ?_)
  | ((with_reducible show wpAny _ _ (eval (Expr.Constant (Const.int _) _ _) _) _ _ _); refine c_int ?_)
  | ((with_reducible show wpAny _ _ (eval (Expr.Constant (Const.bool _) _ _) _) _ _ _); refine wpAny_Constant_bool ?_)
  | ((with_reducible show wpAny _ _ (eval (Expr.Subscript _ (Expr.Constant _ _ _) _) _) _ _ _); refine Subscript_ ?_)
  | ((with_reducible show wpAny _ _ (eval (Expr.Compare _ _ _ _) _) _ _ _); refine wpAny_Compare1 ?_)
  | ((with_reducible show wpAny _ _ (eval (Expr.IfExp _ _ _ _) _) _ _ _); refine IfExp_ ?_)
  | ((with_reducible show wpAny _ _ (eval (Expr.Tuple _ _ _) _) _ _ _); refine Tuple_ ?_)
  | ((with_reducible show wpAny _ _ (eval (Expr.List _ _) _) _ _ _); refine List_ ?_)
  | ((with_reducible show wpAny _ _ (eval (Expr.BinOp _ _ _ _) _) _ _ _); refine wpAny_BinOp ?_)
  | ((with_reducible show wpAny _ _ (eval (Expr.UnaryOp _ _ _) _) _ _ _); refine UnaryOp_ ?_)
  | ((with_reducible show wpAny _ _ (isTrue (Expr.Compare _ _ _ _) _ _) _ _ _); refine wpAny_isTrue_Compare1 ?_)
  | ((with_reducible show wpAny _ _ (isTrue (Expr.UnaryOp UnaryOp.Not _ _) _ _) _ _ _); refine isTrue_not ?_)
  | ((with_reducible show wpAny _ _ (isTrue (Expr.BoolOp BoolOp.And (_ :: _) _) _ _) _ _ _); refine isTrue_and ?_)
  | ((with_reducible show wpAny _ _ (isTrue (Expr.BoolOp BoolOp.Or (_ :: _) _) _ _) _ _ _); refine isTrue_or ?_)
  | ((with_reducible show wpAny _ _ (isTrue (Expr.BoolOp BoolOp.Or [] _) _ _) _ _ _); refine isTrue_nil_or ?_)
  | ((with_reducible show wpAny _ _ (isTrue (Expr.BoolOp BoolOp.And [] _) _ _) _ _ _); refine isTrue_nil_and ?_)
  | ((with_reducible show wpAny _ _ (isTrue (Expr.Name _ _) _ _) _ _ _); refine isTrue_plain ?_)
  | ((with_reducible show wpAny _ _ (isTrue (Expr.Constant _ _ _) _ _) _ _ _); refine isTrue_plain ?_)
  | ((with_reducible show wpAny _ _ (isTrue (Expr.Call _ _ _ _) _ _) _ _ _); refine isTrue_plain ?_)
  | ((with_reducible show wpAny _ _ (isTrue (Expr.Attribute _ _ _) _ _) _ _ _); refine isTrue_plain ?_)
  | ((with_reducible show wpAny _ _ (unaryOp UnaryOp.Not _) _ _ _); refine not_of ?_)
  | ((with_reducible show wpAny _ _ (truthy (Value.bool _)) _ _ _); refine wpAny_truthy_bool ?_)
  | ((with_reducible show ite _ _ _); first | refine ite_t ?_ | refine ite_f ?_)
  | ((with_reducible show wpAny _ _ (execs (_ :: _) _) _ _ _); refine wpAny_execs_cons ?_)
  | ((with_reducible show wpAny _ _ (execs [] _) _ _ _); refine wpAny_execs_nil ?_)
  | ((with_reducible show wpAny _ _ (exec (Stmt.If _ _ _ _) _) _ _ _); refine wpAny_If ?_)
  | ((with_reducible show wpAny _ _ (exec (Stmt.Return (some _) _) _) _ _ _); refine wpAny_Return_some ?_)
  | ((with_reducible show wpAny _ _ (exec (Stmt.Assign [Expr.Attribute _ _ _] _ _) _) _ _ _); refine plainObj_wpAny_Assign_Attribute ?_)
  | ((with_reducible show wpAny _ _ (eval (Expr.Constant Const.none _ _) _) _ _ _); refine Constant_none ?_)
  | ((with_reducible show wpAny _ _ (spliced (backTo _ (starEach (_ :: _) _))) _ _ _); refine args_cons ?_)
  | ((with_reducible show wpAny _ _ (spliced (backTo _ (starEach [] _))) _ _ _); refine args_nil ?_))
local macro_rules | `(tactic| walk_at "sts") => `(tactic| repeat walk_at "st")
local macro_rules | `(tactic| walk_at "cw") => `(tactic| refine cw (by walk_at "ok") (by kernel_rfl) ?_ rfl rfl)
local macro_rules | `(tactic| walk_at "cwb") => `(tactic| refine cwb rfl ?_ rfl rfl)
local macro_rules | `(tactic| walk_at "mem") => `(tactic| simp [attrNames])
local macro_rules | `(tactic| walk_at "sl") => `(tactic| refine sub_lst (by walk_at "ok") (by assumption) (by decide) (by decide) rfl (by with_unfolding_all rfl) ?_)

section
variable {w : World} {B : Heap} {M : Addr → Prop} {h₀ : Heap} {I₀ I : Im} {L : Addr} {m : Str → Option Value} {h : Heap} {g : Array GenState} {d : Drawn} {t : Nat} {o : OsState} {A : Around} {E : Value → Shared → Prop} {env : Env}

/-- «a == b» of objects whose class answers in the text; an answer may be NotImplemented -/
theorem eq_gen {a C f : Addr} {l : List (Str × Value)} {b tb : Value} {Q : Value → Shared → Prop} (hu : A.units < cLine) (k : Ok w B I h g) (ii : IsI I a C l) (hb : ∀ h', (∀ c q, I c = some q → h'.get? c = some q) → Looks (model PR w) h' (typeOf b) tb) (hn : notFirst (K w) C tb = true)
    (hs : findIn (K w) (.ref C) (Str.ofString "__eq__") = some (some (.ref f))) (hf : isFn (K w) (.ref f) = true)
    (hq : wpAny (model PR w) A (call (.ref f) [.ref a, b]) (fun v s' => match v with | .notImplemented => wpAny (model PR w) A (callSpecialIfBound? b (Str.ofString "__eq__") [.ref a]) (fun r s'' => match r with | some .notImplemented => False | none => False | some v => Q v s'') E s' | v => Q v s') E ⟨h, g, d, t, o⟩) :
    wpAny (model PR w) A (compareOp .Eq (.ref a) b) Q E ⟨h, g, d, t, o⟩ := by
  refine cmp_ofEq ?_
  obtain ⟨ox, od, i, D⟩ := ii.inst k
  have X := k.X
  have hb' := hb h (fun c q e => k.sub c q e)
  have one : wpAny (model PR w) A (tryCompare (.ref a) (cmpInfo .Eq).2.1 b) (fun r s' => (∃ v, r = some v ∧ Q v s') ∨ (r = none ∧ wpAny (model PR w) A (callSpecialIfBound? b (Str.ofString "__eq__") [.ref a]) (fun r s'' => match r with | some .notImplemented => False | none => False | some v => Q v s'') E s')) E ⟨h, g, d, t, o⟩ := by
    unfold tryCompare
    refine wpAny_bind (ifBound_K (s := ⟨h, g, d, t, o⟩) X i hs hf (wpAny_mono hq (fun v s' hv => ?_) fun _ _ e => e))
    cases v <;> first | exact wpAny_pure (.inr ⟨rfl, hv⟩) | exact wpAny_pure (.inl ⟨_, rfl, hv⟩)
  have two : ∀ {s'}, wpAny (model PR w) A (callSpecialIfBound? b (Str.ofString "__eq__") [.ref a]) (fun r s'' => match r with | some .notImplemented => False | none => False | some v => Q v s'') E s' → wpAny (model PR w) A (tryCompare b (cmpInfo .Eq).2.2 (.ref a)) (fun r s'' => ∃ v, r = some v ∧ Q v s'') E s' := by
    intro s' hv
    unfold tryCompare
    refine wpAny_bind (wpAny_mono hv (fun r s'' z => ?_) fun _ _ e => e)
    cases r with
    | none => exact z.elim
    | some v => cases v <;> first | exact z.elim | exact wpAny_pure ⟨_, rfl, z⟩
  unfold richCompare
  simp only [oneThing_ref]
  refine wpAny_holding (wpAny_bind (wpAny_cRoomFor hu ?_))
  refine wpAny_bind (i.type.here (wpAny_bind (hb'.here ?_)))
  have fin : wpAny (model PR w) A (do
      if let some v ← tryCompare (.ref a) (cmpInfo .Eq).2.1 b then return v
      if let some v ← tryCompare b (cmpInfo .Eq).2.2 (.ref a) then return v
      rule "compare.eq-identity"; return .bool (← isSame (.ref a) b)) Q E ⟨h, g, d, t, o⟩ := by
    refine wpAny_bind (wpAny_mono one (fun r s' z => ?_) fun _ _ e => e)
    rcases z with ⟨v, rfl, hq⟩ | ⟨rfl, hq⟩
    · exact wpAny_pure hq
    · refine wpAny_bind (wpAny_mono (two hq) (fun r s'' z => ?_) fun _ _ e => e)
      obtain ⟨v, rfl, hq⟩ := z
      exact wpAny_pure hq
  split
  · rename_i q
    have e : subIn (K w) tb (.ref C) = some false := by
      rcases Bool.or_eq_true_iff.mp hn with e | e
      · rw [beq_iff_eq.mp e] at q; simp at q
      · exact beq_iff_eq.mp e
    refine wpAny_bind ((looks_subIn X e).here ?_)
    simp only [Bool.false_eq_true, if_false, Bool.not_false, if_true]
    exact fin
  · refine wpAny_bind (wpAny_pure ?_)
    simp only [Bool.false_eq_true, if_false, Bool.not_false, if_true]
    exact fin

end
end Mine
namespace Mine
local macro_rules | `(tactic| walk_at "lk") => `(tactic| first | assumption | exact lk_hd (by decide +kernel) | exact lk_tl (by decide +kernel) (by assumption) | exact lk_tl (by decide +kernel) (lk_tl (by decide +kernel) (by assumption)) | exact lk_tl (by decide +kernel) (lk_hd (by decide +kernel)) | exact lk_tl (by decide +kernel) (lk_tl (by decide +kernel) (lk_hd (by decide +kernel))) | exact lk_tl (by decide +kernel) (lk_tl (by decide +kernel) (lk_tl (by decide +kernel) (lk_hd (by decide +kernel)))) | exact lk_tl (by decide +kernel) (lk_tl (by decide +kernel) (lk_tl (by decide +kernel) (lk_tl (by decide +kernel) (lk_hd (by decide +kernel))))))
local macro_rules | `(tactic| walk_at "ok") => `(tactic| first | assumption | exact St.ok (by assumption))
local macro_rules | `(tactic| walk_at "nm") => `(tactic| refine nm_loc (by assumption) rfl (by kernel_rfl) (by walk_at "lk") (by kernel_rfl) ?_)
local macro_rules | `(tactic| walk_at "s0") => `(tactic| refine sub0 (by walk_at "ok") (by assumption) (by with_unfolding_all rfl) ?_)
local macro_rules | `(tactic| walk_at "s1") => `(tactic| refine sub1 (by walk_at "ok") (by assumption) (by with_unfolding_all rfl) ?_)
local macro_rules | `(tactic| walk_at "eqt") => `(tactic| refine eq_str_is true (by kernel_rfl) ?_)
local macro_rules | `(tactic| walk_at "eqf") => `(tactic| refine eq_str_is false (by kernel_rfl) ?_)
local macro_rules | `(tactic| walk_at "st") => `(tactic| first
  | ((with_reducible show wpAny _ _ (eval (Expr.Constant (Const.str _) _ _) _) _ _ _); refine c_str ?_)
  | ((with_reducible show wpAny _ _ (eval (Expr.Constant (Const.int _) _ _) _) _ _ _); refine c_int ?_)
  | ((with_reducible show wpAny _ _ (eval (Expr.Constant (Const.bool _) _ _) _) _ _ _); refine wpAny_Constant_bool ?_)
  | ((with_reducible show wpAny _ _ (eval (Expr.Subscript _ (Expr.Constant _ _ _) _) _) _ _ _); refine Subscript_ ?_)
  | ((with_reducible show wpAny _ _ (eval (Expr.Compare _ _ _ _) _) _ _ _); refine wpAny_Compare1 ?_)
  | ((with_reducible show wpAny _ _ (eval (Expr.IfExp _ _ _ _) _) _ _ _); refine IfExp_ ?_)
  | ((with_reducible show wpAny _ _ (eval (Expr.Tuple _ _ _) _) _ _ _); refine Tuple_ ?_)
  | ((with_reducible show wpAny _ _ (eval (Expr.List _ _) _) _ _ _); refine List_ ?_)
  | ((with_reducible show wpAny _ _ (eval (Expr.BinOp _ _ _ _) _) _ _ _); refine wpAny_BinOp ?_)
  | ((with_reducible show wpAny _ _ (eval (Expr.UnaryOp _ _ _) _) _ _ _); refine UnaryOp_ ?_)
  | ((with_reducible show wpAny _ _ (isTrue (Expr.Compare _ _ _ _) _ _) _ _ _); refine wpAny_isTrue_Compare1 ?_)
  | ((with_reducible show wpAny _ _ (isTrue (Expr.UnaryOp UnaryOp.Not _ _) _ _) _ _ _); refine isTrue_not ?_)
  | ((with_reducible show wpAny _ _ (isTrue (Expr.BoolOp BoolOp.And (_ :: _) _) _ _) _ _ _); refine isTrue_and ?_)
  | ((with_reducible show wpAny _ _ (isTrue (Expr.BoolOp BoolOp.Or (_ :: _) _) _ _) _ _ _); refine isTrue_or ?_)
  | ((with_reducible show wpAny _ _ (isTrue (Expr.BoolOp BoolOp.Or [] _) _ _) _ _ _); refine isTrue_nil_or ?_)
  | ((with_reducible show wpAny _ _ (isTrue (Expr.BoolOp BoolOp.And [] _) _ _) _ _ _); refine isTrue_nil_and ?_)
  | ((with_reducible show wpAny _ _ (isTrue (Expr.Name _ _) _ _) _ _ _); refine isTrue_plain ?_)
  | ((with_reducible show wpAny _ _ (isTrue (Expr.Constant _ _ _) _ _) _ _ _); refine isTrue_plain ?_)
  | ((with_reducible show wpAny _ _ (isTrue (Expr.Call _ _ _ _) _ _) _ _ _); refine isTrue_plain ?_)
  | ((with_reducible show wpAny _ _ (isTrue (Expr.Attribute _ _ _) _ _) _ _ _); refine isTrue_plain ?_)
  | ((with_reducible show wpAny _ _ (unaryOp UnaryOp.Not _) _ _ _); refine not_of ?_)
  | ((with_reducible show wpAny _ _ (truthy (Value.bool _)) _ _ _); refine wpAny_truthy_bool ?_)
  | ((with_reducible show ite _ _ _); first | refine ite_t ?_ | refine ite_f ?_)
  | ((with_reducible show wpAny _ _ (execs (_ :: _) _) _ _ _); refine wpAny_execs_cons ?_)
  | ((with_reducible show wpAny _ _ (execs [] _) _ _ _); refine wpAny_execs_nil ?_)
  | ((with_reducible show wpAny _ _ (exec (Stmt.If _ _ _ _) _) _ _ _); refine wpAny_If ?_)
  | ((with_reducible show wpAny _ _ (exec (Stmt.Return (some _) _) _) _ _ _); refine wpAny_Return_some ?_)
  | ((with_reducible show wpAny _ _ (exec (Stmt.Assign [Expr.Attribute _ _ _] _ _) _) _ _ _); refine plainObj_wpAny_Assign_Attribute ?_)
  | ((with_reducible show wpAny _ _ (eval (Expr.Constant Const.none _ _) _) _ _ _); refine Constant_none ?_)
  | ((with_reducible show wpAny _ _ (spliced (backTo _ (starEach (_ :: _) _))) _ _ _); refine args_cons ?_)
  | ((with_reducible show wpAny _ _ (spliced (backTo _ (starEach [] _))) _ _ _); refine args_nil ?_))
local macro_rules | `(tactic| walk_at "sts") => `(tactic| repeat walk_at "st")
local macro_rules | `(tactic| walk_at "cw") => `(tactic| refine cw (by walk_at "ok") (by kernel_rfl) ?_ rfl rfl)
local macro_rules | `(tactic| walk_at "cwb") => `(tactic| refine cwb rfl ?_ rfl rfl)
local macro_rules | `(tactic| walk_at "mem") => `(tactic| simp [attrNames])
local macro_rules | `(tactic| walk_at "sl") => `(tactic| refine sub_lst (by walk_at "ok") (by assumption) (by decide) (by decide) rfl (by with_unfolding_all rfl) ?_)

section
variable {w : World} {B : Heap} {M : Addr → Prop} {h₀ : Heap} {I₀ I : Im} {L : Addr} {m : Str → Option Value} {h : Heap} {g : Array GenState} {d : Drawn} {t : Nat} {o : OsState} {A : Around} {E : Value → Shared → Prop} {env : Env}

def T.isCon (b : Bool) : T → Bool | .con c => c == b | _ => false
theorem is_con (w : World) (x : T) (b : Bool) : kitOne (K w) (.ref x.cls) (.ref (conc b)) = some (x.isCon b) := by
  cases b <;> cases x with
  | sym _ => kernel_rfl
  | con c => cases c <;> kernel_rfl
  | not _ => kernel_rfl
  | op2 c _ _ => cases c <;> kernel_rfl
  | op3 c _ _ _ => cases c <;> kernel_rfl
theorem is_refs' {x y : T} {v u : Value} {g' : Array GenState} {Q : Value → Shared → Prop} (k : Ok w B I h g) (hx : EIn I x v) (hy : EIn I y u) (hq : ∀ b : Bool, (b = true ↔ v = u) → Q (.bool b) ⟨h, g', d, t, o⟩) : wpAny (model PR w) A (compareOp .Is v u) Q E ⟨h, g', d, t, o⟩ :=
  is_refs k hx hy (hq _ ⟨fun e => of_decide_eq_true e, fun e => decide_eq_true e⟩)
theorem tf_call {b : Bool} {x : T} {v : Value} {Q : Value → Shared → Prop} (k : Ok w B I h g) (R : Room A 1) (hx : EIn I x v) (hQ : Gives w B d o h I (fun _ r => r = .bool (x.isCon b)) Q) :
    wpAny (model PR w) A (call (.ref (if b then 199 else 247)) [.ref (cona b), v]) Q E ⟨h, g, d, t, o⟩ := by
  have hself : EIn I (.con b) (.ref (cona b)) := rfl
  cases b with
  | true =>
    refine enter0 [(n_other, v), (n_self, .ref 275)] Mt k rfl (by kernel_rfl) R.d (by kernel_rfl) (by kernel_rfl) (by kernel_rfl) rfl rfl rfl fun h₁ t₁ E' S => ?_
    walk_at "sts"
    refine BoolOp_or ?_
    walk_at "sts"; walk_at "nm"; walk_at "nm"
    refine is_refs' S.ok hself hx fun bb hd => ?_
    walk_at "sts"
    cases bb with
    | true =>
      have e := hd.mp rfl
      walk_at "sts"
      refine hQ _ _ _ _ _ S.ok S.G ?_
      subst e
      cases EIn.det S.ok hx hself
      rfl
    | false =>
      walk_at "sts"
      refine BoolOp_or ?_
      walk_at "sts"; walk_at "nm"; walk_at "sts"
      obtain ⟨ax, lx, rfl, iix⟩ := hx.isI k
      refine wpAny_is_plain rfl ?_
      rw [show (Value.ref ax == Value.bool true) = false from rfl]
      walk_at "sts"
      refine BoolOp_one (Call_ ?_)
      refine nm_boot (v := .builtin "isinstance") S.ok rfl (by kernel_rfl) rfl rfl (by kernel_rfl) (by kernel_rfl) (by decide +kernel) (by kernel_rfl) ?_
      walk_at "cwb"; walk_at "sts"; walk_at "nm"; walk_at "sts"
      refine nm_glob (v := .ref 223) S.ok rfl (by kernel_rfl) rfl (by kernel_rfl) (by kernel_rfl) ?_
      walk_at "sts"
      refine isi (b := x.isCon true) S.ok hx (is_con w x true) fun t4 => ?_
      exact hQ _ _ _ _ _ S.ok S.G rfl
  | false =>
    refine enter0 [(n_other, v), (n_self, .ref 279)] Mt k rfl (by kernel_rfl) R.d (by kernel_rfl) (by kernel_rfl) (by kernel_rfl) rfl rfl rfl fun h₁ t₁ E' S => ?_
    walk_at "sts"
    refine BoolOp_or ?_
    walk_at "sts"; walk_at "nm"; walk_at "nm"
    refine is_refs' S.ok hself hx fun bb hd => ?_
    walk_at "sts"
    cases bb with
    | true =>
      have e := hd.mp rfl
      walk_at "sts"
      refine hQ _ _ _ _ _ S.ok S.G ?_
      subst e
      cases EIn.det S.ok hx hself
      rfl
    | false =>
      walk_at "sts"
      refine BoolOp_or ?_
      walk_at "sts"; walk_at "nm"; walk_at "sts"
      obtain ⟨ax, lx, rfl, iix⟩ := hx.isI k
      refine wpAny_is_plain rfl ?_
      rw [show (Value.ref ax == Value.bool false) = false from rfl]
      walk_at "sts"
      refine BoolOp_one (Call_ ?_)
      refine nm_boot (v := .builtin "isinstance") S.ok rfl (by kernel_rfl) rfl rfl (by kernel_rfl) (by kernel_rfl) (by decide +kernel) (by kernel_rfl) ?_
      walk_at "cwb"; walk_at "sts"; walk_at "nm"; walk_at "sts"
      refine nm_glob (v := .ref 271) S.ok rfl (by kernel_rfl) rfl (by kernel_rfl) (by kernel_rfl) ?_
      walk_at "sts"
      refine isi (b := x.isCon false) S.ok hx (is_con w x false) fun t4 => ?_
      exact hQ _ _ _ _ _ S.ok S.G rfl

theorem seq_call {s : Str} {v u : Value} {Q : Value → Shared → Prop} (k : Ok w B I h g) (R : Room A 1) (hv : EIn I (.sym s) v) (hu : EIn I (.sym s) u) (hQ : Gives w B d o h I (fun _ r => r = .bool true) Q) :
    wpAny (model PR w) A (call (.ref 318) [v, u]) Q E ⟨h, g, d, t, o⟩ := by
  refine enter0 [(n_other, u), (n_self, v)] Mt k rfl (by kernel_rfl) R.d (by kernel_rfl) (by kernel_rfl) (by kernel_rfl) rfl rfl rfl fun h₁ t₁ E' S => ?_
  obtain ⟨a, l, e, us, V⟩ := hv.view k
  have hv0 := hv
  have hu0 := hu
  obtain ⟨a1, u1, e1, k1, rfl, ii1, _⟩ := hv
  obtain ⟨a2, u2, e2, k2, rfl, ii2, _⟩ := hu
  walk_at "sts"; walk_at "nm"; walk_at "nm"
  refine is_refs' S.ok hv0 hu0 fun bb hd => ?_
  walk_at "sts"
  cases bb with
  | true => walk_at "sts"; exact hQ _ _ _ _ _ S.ok S.G rfl
  | false =>
    walk_at "sts"
    refine Call_ ?_
    refine nm_boot (v := .builtin "isinstance") S.ok rfl (by kernel_rfl) rfl rfl (by kernel_rfl) (by kernel_rfl) (by decide +kernel) (by kernel_rfl) ?_
    walk_at "cwb"; walk_at "sts"; walk_at "nm"; walk_at "sts"
    refine Attribute_Name_ ?_
    walk_at "nm"
    refine V.cls S.ok (by kernel_rfl) ?_
    walk_at "sts"
    refine isi (b := true) S.ok hu0 (by kernel_rfl) fun t4 => ?_
    walk_at "sts"
    refine Attribute_Name_ ?_
    walk_at "nm"
    refine at_val (v := .str s k1) S.ok ii1 (by kernel_rfl) (by kernel_rfl) (by kernel_rfl) (by kernel_rfl) rfl ?_
    refine Attribute_Name_ ?_
    walk_at "nm"
    refine at_val (v := .str s k2) S.ok ii2 (by kernel_rfl) (by kernel_rfl) (by kernel_rfl) (by kernel_rfl) rfl ?_
    refine eq_str_is true (by simp) ?_
    exact hQ _ _ _ _ _ S.ok S.G rfl
theorem xeq_call {x : T} {b : Bool} {v : Value} {Q : Value → Shared → Prop} (k : Ok w B I h g) (R : Room A 1) (hx : EIn I x v) (hs : x.isSym = false) (hc : ∀ c, x ≠ .con c) (hQ : Gives w B d o h I (fun _ r => r = .notImplemented) Q) :
    wpAny (model PR w) A (call (.ref 81) [v, .ref (cona b)]) Q E ⟨h, g, d, t, o⟩ := by
  have hb : EIn I (.con b) (.ref (cona b)) := rfl
  refine enter1 [(n_self, v), (n_other, .ref (cona b))] [] [(n_other, h.objs.size + 2), (n_self, h.objs.size + 1)] Mt k rfl (by kernel_rfl) R.d (by kernel_rfl) (by kernel_rfl) rfl (by kernel_rfl) (by decide +kernel) rfl rfl rfl fun h₁ t₁ I₁ E' S hle hcl => ?_
  obtain ⟨q1, hc1, hd1⟩ := hcl n_self (h.objs.size + 1) (by kernel_rfl)
  replace hd1 : q1.data = .cell (some v) := hd1.trans (by kernel_rfl)
  obtain ⟨q2, hc2, hd2⟩ := hcl n_other (h.objs.size + 2) (by kernel_rfl)
  replace hd2 : q2.data = .cell (some (.ref (cona b))) := hd2.trans (by kernel_rfl)
  have hx1 := hx.le hle
  have hb1 : EIn I₁ (.con b) (.ref (cona b)) := rfl
  obtain ⟨a, l, e, us, V⟩ := hx1.view S.ok
  walk_at "sts"
  refine nm_cell S.ok rfl (by kernel_rfl) (by kernel_rfl) hc1 hd1 (by kernel_rfl) ?_
  refine nm_cell S.ok rfl (by kernel_rfl) (by kernel_rfl) hc2 hd2 (by kernel_rfl) ?_
  refine is_refs' S.ok hx1 hb1 fun bb hbb => ?_
  walk_at "sts"
  cases bb with
  | true =>
    exfalso
    have := hbb.mp rfl
    rw [this] at hx1
    exact hc b (EIn.det S.ok hx1 hb1)
  | false =>
    walk_at "sts"
    refine Call_ ?_
    refine nm_boot (v := .builtin "isinstance") S.ok rfl (by kernel_rfl) rfl rfl (by kernel_rfl) (by kernel_rfl) (by decide +kernel) (by kernel_rfl) ?_
    walk_at "cwb"; walk_at "sts"
    refine nm_cell S.ok rfl (by kernel_rfl) (by kernel_rfl) hc2 hd2 (by kernel_rfl) ?_
    walk_at "sts"
    refine Attribute_Name_ ?_
    refine nm_cell S.ok rfl (by kernel_rfl) (by kernel_rfl) hc1 hd1 (by kernel_rfl) ?_
    refine V.cls S.ok (by kernel_rfl) ?_
    walk_at "sts"
    refine isi (b := false) S.ok hb1 (by
      cases x with
      | sym _ => cases hs
      | con c => exact absurd rfl (hc c)
      | not _ => cases b <;> kernel_rfl
      | op2 k _ _ => cases b <;> cases k <;> kernel_rfl
      | op3 k _ _ _ => cases b <;> cases k <;> kernel_rfl) fun t4 => ?_
    walk_at "sts"
    refine nm_boot (v := .notImplemented) S.ok rfl (by kernel_rfl) rfl rfl (by kernel_rfl) (by kernel_rfl) (by decide +kernel) (by kernel_rfl) ?_
    exact hQ _ _ _ _ _ S.ok S.G rfl
theorem IsI.looks {a C : Addr} {l : List (Str × Value)} (ii : IsI I a C l) : ∀ h', (∀ c q, I c = some q → h'.get? c = some q) → Looks (model PR w) h' (typeOf (.ref a)) (.ref C) := fun h' kk => by
  obtain ⟨dx, od, e, _, _⟩ := ii.ex
  exact (Looks.ld (kk _ _ e)).andThen .now
theorem eq_sym {s : Str} {v u : Value} {Q : Value → Shared → Prop} (k : Ok w B I h g) (R : Room A 1) (hv : EIn I (.sym s) v) (hu : EIn I (.sym s) u) (hQ : Gives w B d o h I (fun _ r => r = .bool true) Q) :
    wpAny (model PR w) A (compareOp .Eq v u) Q E ⟨h, g, d, t, o⟩ := by
  obtain ⟨a, l, rfl, ii⟩ := hv.isI k
  obtain ⟨a', l', rfl, ii'⟩ := hu.isI k
  refine eq_gen R.u k ii ii'.looks (by kernel_rfl) (f := 318) (by kernel_rfl) (by kernel_rfl) (seq_call k R hv hu fun r I' h' g' t' k' G e => ?_)
  subst e
  exact hQ _ _ _ _ _ k' G rfl
theorem eq_con {x : T} {b : Bool} {v : Value} {Q : Value → Shared → Prop} (k : Ok w B I h g) (R : Room A 1) (hx : EIn I x v) (hs : x.isSym = false) (hQ : Gives w B d o h I (fun _ r => r = .bool (x.isCon b)) Q) :
    wpAny (model PR w) A (compareOp .Eq v (.ref (cona b))) Q E ⟨h, g, d, t, o⟩ := by
  have hb : EIn I (.con b) (.ref (cona b)) := rfl
  obtain ⟨a, l, rfl, ii⟩ := hx.isI k
  obtain ⟨ub, iib, _⟩ := conI k b
  by_cases hc : ∃ c, x = .con c
  · obtain ⟨c, rfl⟩ := hc
    cases (show a = cona c by injection (show Value.ref a = .ref (cona c) from hx))
    refine eq_gen R.u k ii iib.looks (by cases b <;> cases c <;> kernel_rfl) (f := if c then 199 else 247) (by cases c <;> kernel_rfl) (by cases c <;> kernel_rfl) (tf_call k R hb fun r I' h' g' t' k' G e => ?_)
    subst e
    exact hQ _ _ _ _ _ k' G (by cases b <;> cases c <;> rfl)
  · have hc' : ∀ c, x ≠ .con c := fun c e => hc ⟨c, e⟩
    refine eq_gen R.u k ii iib.looks (by
        cases x with
        | sym _ => cases hs
        | con c => exact absurd rfl (hc' c)
        | not _ => cases b <;> kernel_rfl
        | op2 k _ _ => cases b <;> cases k <;> kernel_rfl
        | op3 k _ _ _ => cases b <;> cases k <;> kernel_rfl) (f := 81) (by
        cases x with
        | sym _ => cases hs
        | con c => exact absurd rfl (hc' c)
        | not _ => kernel_rfl
        | op2 k _ _ => cases k <;> kernel_rfl
        | op3 k _ _ _ => cases k <;> kernel_rfl) (by kernel_rfl) (xeq_call k R hx hs hc' fun r I' h' g' t' k' G e => ?_)
    subst e
    show wpAny _ _ _ _ _ _
    have iib' := iib.le G.le
    obtain ⟨ox, od, i, D⟩ := iib'.inst k'
    refine ifBound_K (s := ⟨h', g', d, t', o⟩) (f := if b then 199 else 247) k'.X i (by cases b <;> kernel_rfl) (by cases b <;> kernel_rfl) (tf_call k' R (hx.le G.le) fun r I2 h2 g2 t2 k2 G2 e => ?_)
    subst e
    exact hQ _ _ _ _ _ k2 (G.trans G2) rfl
theorem str_sym {s : Str} {v : Value} {Q : Value → Shared → Prop} (k : Ok w B I h g) (R : Room A 3) (hv : EIn I (.sym s) v) (hQ : Gives w B d o h I (fun _ r => ∃ u, r = .str s u) Q) : wpAny (model PR w) A (call (.type "str") [v]) Q E ⟨h, g, d, t, o⟩ := by
  obtain ⟨a1, u1, e1, k1, rfl, ii1, _⟩ := hv
  obtain ⟨ox, od, i, D⟩ := ii1.inst k
  refine kso_call (s := ⟨h, g, d, t, o⟩) (f := 332) R.in1.in1.u k.X i (by kernel_rfl) (by kernel_rfl) ?_
  refine enter0 [(n_self, .ref a1)] Mt k rfl (by kernel_rfl) R.in1.in1.d (by kernel_rfl) (by kernel_rfl) (by kernel_rfl) rfl rfl rfl fun h₁ t₁ E' S => ?_
  walk_at "sts"
  refine Call_ ?_
  refine nm_boot (v := .type "str") S.ok rfl (by kernel_rfl) rfl rfl (by kernel_rfl) (by kernel_rfl) (by decide +kernel) (by kernel_rfl) ?_
  walk_at "cwb"; walk_at "sts"
  refine Attribute_Name_ ?_
  walk_at "nm"
  refine at_val (v := .str s k1) S.ok ii1 (by kernel_rfl) (by kernel_rfl) (by kernel_rfl) (by kernel_rfl) rfl ?_
  walk_at "sts"
  refine P.str_of_str ?_
  exact hQ _ _ _ _ _ S.ok S.G ⟨_, rfl⟩

end
end Mine
namespace Mine
local macro_rules | `(tactic| walk_at "lk") => `(tactic| first | assumption | exact lk_hd (by decide +kernel) | exact lk_tl (by decide +kernel) (by assumption) | exact lk_tl (by decide +kernel) (lk_tl (by decide +kernel) (by assumption)) | exact lk_tl (by decide +kernel) (lk_hd (by decide +kernel)) | exact lk_tl (by decide +kernel) (lk_tl (by decide +kernel) (lk_hd (by decide +kernel))) | exact lk_tl (by decide +kernel) (lk_tl (by decide +kernel) (lk_tl (by decide +kernel) (lk_hd (by decide +kernel)))) | exact lk_tl (by decide +kernel) (lk_tl (by decide +kernel) (lk_tl (by decide +kernel) (lk_tl (by decide +kernel) (lk_hd (by decide +kernel))))))
local macro_rules | `(tactic| walk_at "ok") => `(tactic| first | assumption | exact St.ok (by assumption))
local macro_rules | `(tactic| walk_at "nm") => `(tactic| refine nm_loc (by assumption) rfl (by kernel_rfl) (by walk_at "lk") (by kernel_rfl) ?_)
local macro_rules | `(tactic| walk_at "s0") => `(tactic| refine sub0 (by walk_at "ok") (by assumption) (by with_unfolding_all rfl) ?_)
local macro_rules | `(tactic| walk_at "s1") => `(tactic| refine sub1 (by walk_at "ok") (by assumption) (by with_unfolding_all rfl) ?_)
local macro_rules | `(tactic| walk_at "eqt") => `(tactic| refine eq_str_is true (by kernel_rfl) ?_)
local macro_rules | `(tactic| walk_at "eqf") => `(tactic| refine eq_str_is false (by kernel_rfl) ?_)
local macro_rules | `(tactic| walk_at "st") => `(tactic| first
  | ((with_reducible show wpAny _ _ (eval (Expr.Constant (Const.str _) _ _) _) _ _ _); refine c_str ?_)
  | ((with_reducible show wpAny _ _ (eval (Expr.Constant (Const.int _) _ _) _) _ _ _); refine c_int ?_)
  | ((with_reducible show wpAny _ _ (eval (Expr.Constant (Const.bool _) _ _) _) _ _ _); refine wpAny_Constant_bool ?_)
  | ((with_reducible show wpAny _ _ (eval (Expr.Subscript _ (Expr.Constant _ _ _) _) _) _ _ _); refine Subscript_ ?_)
  | ((with_reducible show wpAny _ _ (eval (Expr.Compare _ _ _ _) _) _ _ _); refine wpAny_Compare1 ?_)
  | ((with_reducible show wpAny _ _ (eval (Expr.IfExp _ _ _ _) _) _ _ _); refine IfExp_ ?_)
  | ((with_reducible show wpAny _ _ (eval (Expr.Tuple _ _ _) _) _ _ _); refine Tuple_ ?_)
  | ((with_reducible show wpAny _ _ (eval (Expr.List _ _) _) _ _ _); refine List_ ?_)
  | ((with_reducible show wpAny _ _ (eval (Expr.BinOp _ _ _ _) _) _ _ _); refine wpAny_BinOp ?_)
  | ((with_reducible show wpAny _ _ (eval (Expr.UnaryOp _ _ _) _) _ _ _); refine UnaryOp_ ?_)
  | ((with_reducible show wpAny _ _ (isTrue (Expr.Compare _ _ _ _) _ _) _ _ _); refine wpAny_isTrue_Compare1 ?_)
  | ((with_reducible show wpAny _ _ (isTrue (Expr.UnaryOp UnaryOp.Not _ _) _ _) _ _ _); refine isTrue_not ?_)
  | ((with_reducible show wpAny _ _ (isTrue (Expr.BoolOp BoolOp.And (_ :: _) _) _ _) _ _ _); refine isTrue_and ?_)
  | ((with_reducible show wpAny _ _ (isTrue (Expr.BoolOp BoolOp.Or (_ :: _) _) _ _) _ _ _); refine isTrue_or ?_)
  | ((with_reducible show wpAny _ _ (isTrue (Expr.BoolOp BoolOp.Or [] _) _ _) _ _ _); refine isTrue_nil_or ?_)
  | ((with_reducible show wpAny _ _ (isTrue (Expr.BoolOp BoolOp.And [] _) _ _) _ _ _); refine isTrue_nil_and ?_)
  | ((with_reducible show wpAny _ _ (isTrue (Expr.Name _ _) _ _) _ _ _); refine isTrue_plain ?_)
  | ((with_reducible show wpAny _ _ (isTrue (Expr.Constant _ _ _) _ _) _ _ _); refine isTrue_plain ?_)
  | ((with_reducible show wpAny _ _ (isTrue (Expr.Call _ _ _ _) _ _) _ _ _); refine isTrue_plain ?_)
  | ((with_reducible show wpAny _ _ (isTrue (Expr.Attribute _ _ _) _ _) _ _ _); refine isTrue_plain ?_)
  | ((with_reducible show wpAny _ _ (unaryOp UnaryOp.Not _) _ _ _); refine not_of ?_)
  | ((with_reducible show wpAny _ _ (truthy (Value.bool _)) _ _ _); refine wpAny_truthy_bool ?_)
  | ((with_reducible show ite _ _ _); first | refine ite_t ?_ | refine ite_f ?_)
  | ((with_reducible show wpAny _ _ (execs (_ :: _) _) _ _ _); refine wpAny_execs_cons ?_)
  | ((with_reducible show wpAny _ _ (execs [] _) _ _ _); refine wpAny_execs_nil ?_)
  | ((with_reducible show wpAny _ _ (exec (Stmt.If _ _ _ _) _) _ _ _); refine wpAny_If ?_)
  | ((with_reducible show wpAny _ _ (exec (Stmt.Return (some _) _) _) _ _ _); refine wpAny_Return_some ?_)
  | ((with_reducible show wpAny _ _ (exec (Stmt.Assign [Expr.Attribute _ _ _] _ _) _) _ _ _); refine plainObj_wpAny_Assign_Attribute ?_)
  | ((with_reducible show wpAny _ _ (eval (Expr.Constant Const.none _ _) _) _ _ _); refine Constant_none ?_)
  | ((with_reducible show wpAny _ _ (spliced (backTo _ (starEach (_ :: _) _))) _ _ _); refine args_cons ?_)
  | ((with_reducible show wpAny _ _ (spliced (backTo _ (starEach [] _))) _ _ _); refine args_nil ?_))
local macro_rules | `(tactic| walk_at "sts") => `(tactic| repeat walk_at "st")
local macro_rules | `(tactic| walk_at "cw") => `(tactic| refine cw (by walk_at "ok") (by kernel_rfl) ?_ rfl rfl)
local macro_rules | `(tactic| walk_at "cwb") => `(tactic| refine cwb rfl ?_ rfl rfl)
local macro_rules | `(tactic| walk_at "mem") => `(tactic| simp [attrNames])
local macro_rules | `(tactic| walk_at "sl") => `(tactic| refine sub_lst (by walk_at "ok") (by assumption) (by decide) (by decide) rfl (by with_unfolding_all rfl) ?_)

section
variable {w : World} {B : Heap} {M : Addr → Prop} {h₀ : Heap} {I₀ I : Im} {L : Addr} {m : Str → Option Value} {h : Heap} {g : Array GenState} {d : Drawn} {t : Nat} {o : OsState} {A : Around} {E : Value → Shared → Prop} {env : Env}

def T.isAnd : T → Bool | .op2 k _ _ => !k | .op3 k _ _ _ => !k | _ => false
theorem is_and (w : World) (x : T) : kitOne (K w) (.ref x.cls) (.ref 554) = some x.isAnd := by
  cases x with
  | sym _ => kernel_rfl
  | con b => cases b <;> kernel_rfl
  | not _ => kernel_rfl
  | op2 b _ _ => cases b <;> kernel_rfl
  | op3 b _ _ _ => cases b <;> kernel_rfl
theorem seen_call (n : Nat) : ∀ (x : T), x.h ≤ n → ∀ {A : Around} {I : Im} {h : Heap} {g : Array GenState} {tk : Nat} {v : Value} {Q : Value → Shared → Prop} {E : Value → Shared → Prop},
    Ok w B I h g → Room A (n + 5) → EIn I x v → Gives w B d o h I (fun I' r => TIn I' x r) Q →
    wpAny (model PR w) A (call (.ref 620) [v]) Q E ⟨h, g, d, tk, o⟩ := by
  induction n with
  | zero => intro x hx; cases x <;> simp [T.h] at hx
  | succ n ih =>
    intro x hx A I h g tk v Q E k R hT hQ
    obtain ⟨a, l, e, us, V⟩ := hT.view k
    refine enter0 [(n_expr, v)] Mt k rfl (by kernel_rfl) R.d (by kernel_rfl) (by kernel_rfl) (by kernel_rfl) rfl rfl rfl fun h₁ t₁ E' S => ?_
    walk_at "sts"
    refine Call_ ?_
    refine nm_boot (v := .builtin "isinstance") S.ok rfl (by kernel_rfl) rfl rfl (by kernel_rfl) (by kernel_rfl) (by decide +kernel) (by kernel_rfl) ?_
    walk_at "cwb"; walk_at "sts"; walk_at "nm"; walk_at "sts"
    refine nm_glob (v := .ref 335) S.ok rfl (by kernel_rfl) rfl (by kernel_rfl) (by kernel_rfl) ?_
    walk_at "sts"
    refine isi S.ok hT (is_sym w x) fun t2 => ?_
    walk_at "sts"
    cases hs : x.isSym with
    | true =>
      cases x with
      | sym s =>
        walk_at "sts"; walk_at "nm"
        refine Call_ ?_
        refine nm_glob (v := .ref 335) S.ok rfl (by kernel_rfl) rfl (by kernel_rfl) (by kernel_rfl) ?_
        walk_at "cw"; walk_at "sts"
        refine Call_ ?_
        refine nm_boot (v := .type "str") S.ok rfl (by kernel_rfl) rfl rfl (by kernel_rfl) (by kernel_rfl) (by decide +kernel) (by kernel_rfl) ?_
        walk_at "cwb"; walk_at "sts"; walk_at "nm"; walk_at "sts"
        refine str_sym S.ok ((R.deeper _).le (by omega)) hT fun r I3 h3 g3 t3 k3 G3 hr => ?_
        obtain ⟨u3, rfl⟩ := hr
        have S3 := S.after k3 G3 fun _ q => q
        walk_at "sts"
        refine ⟨k3.X, mk_sym k3 ((R.deeper _).le (by omega)) fun r I4 h4 g4 t4 k4 G4 hr => ?_⟩
        have S4 := S3.after k4 G4 fun _ q => q
        refine eq_sym k4 ((R.deeper _).le (by omega)) ((hT.le G3.le).le G4.le) hr fun r I5 h5 g5 t5 k5 G5 hr => ?_
        subst hr
        have S5 := S4.after k5 G5 fun _ q => q
        walk_at "sts"
        refine Call_ ?_
        refine nm_boot (v := .type "str") S5.ok rfl (by kernel_rfl) rfl rfl (by kernel_rfl) (by kernel_rfl) (by decide +kernel) (by kernel_rfl) ?_
        walk_at "cwb"; walk_at "sts"; walk_at "nm"; walk_at "sts"
        refine str_sym S5.ok ((R.deeper _).le (by omega)) (((hT.le G3.le).le G4.le).le G5.le) fun r I6 h6 g6 t6 k6 G6 hr => ?_
        obtain ⟨u6, rfl⟩ := hr
        have S6 := S5.after k6 G6 fun _ q => q
        walk_at "sts"
        refine new_tup S6 (by simp) fun h7 I7 S7 hl7 ht7 => ?_
        exact hQ _ _ _ _ _ S7.ok S7.G ⟨_, _, _, rfl, ht7⟩
      | _ => cases hs
    | false =>
      walk_at "sts"
      by_cases hcon : ∃ b, x = .con b
      · obtain ⟨b, rfl⟩ := hcon
        cases b with
        | true =>
          walk_at "nm"
          refine nm_glob (v := .ref 275) S.ok rfl (by kernel_rfl) rfl (by kernel_rfl) (by kernel_rfl) ?_
          refine eq_con (b := true) S.ok ((R.deeper _).le (by omega)) hT rfl fun r I3 h3 g3 t3 k3 G3 hr => ?_
          subst hr
          have S3 := S.after k3 G3 fun _ q => q
          walk_at "sts"; walk_at "nm"
          refine nm_glob (v := .ref 275) S3.ok rfl (by kernel_rfl) rfl (by kernel_rfl) (by kernel_rfl) ?_
          refine eq_con (b := true) S3.ok ((R.deeper _).le (by omega)) (hT.le G3.le) rfl fun r I4 h4 g4 t4 k4 G4 hr => ?_
          subst hr
          have S4 := S3.after k4 G4 fun _ q => q
          walk_at "sts"
          refine new_tup S4 (by simp) fun h7 I7 S7 hl7 ht7 => ?_
          exact hQ _ _ _ _ _ S7.ok S7.G ⟨_, _, rfl, ht7⟩
        | false =>
          walk_at "nm"
          refine nm_glob (v := .ref 275) S.ok rfl (by kernel_rfl) rfl (by kernel_rfl) (by kernel_rfl) ?_
          refine eq_con (b := true) S.ok ((R.deeper _).le (by omega)) hT rfl fun r I3 h3 g3 t3 k3 G3 hr => ?_
          subst hr
          have S3 := S.after k3 G3 fun _ q => q
          walk_at "sts"; walk_at "nm"
          refine nm_glob (v := .ref 279) S3.ok rfl (by kernel_rfl) rfl (by kernel_rfl) (by kernel_rfl) ?_
          refine eq_con (b := false) S3.ok ((R.deeper _).le (by omega)) (hT.le G3.le) rfl fun r I4 h4 g4 t4 k4 G4 hr => ?_
          subst hr
          have S4 := S3.after k4 G4 fun _ q => q
          walk_at "sts"; walk_at "nm"
          refine nm_glob (v := .ref 275) S4.ok rfl (by kernel_rfl) rfl (by kernel_rfl) (by kernel_rfl) ?_
          refine eq_con (b := true) S4.ok ((R.deeper _).le (by omega)) ((hT.le G3.le).le G4.le) rfl fun r I5 h5 g5 t5 k5 G5 hr => ?_
          subst hr
          have S5 := S4.after k5 G5 fun _ q => q
          walk_at "sts"
          refine new_tup S5 (by simp) fun h7 I7 S7 hl7 ht7 => ?_
          exact hQ _ _ _ _ _ S7.ok S7.G ⟨_, _, rfl, ht7⟩
      · have hc1 : x.isCon true = false := by cases x <;> first | rfl | exact absurd ⟨_, rfl⟩ hcon
        have hc2 : x.isCon false = false := by cases x <;> first | rfl | exact absurd ⟨_, rfl⟩ hcon
        walk_at "nm"
        refine nm_glob (v := .ref 275) S.ok rfl (by kernel_rfl) rfl (by kernel_rfl) (by kernel_rfl) ?_
        refine eq_con (b := true) S.ok ((R.deeper _).le (by omega)) hT hs fun r I3 h3 g3 t3 k3 G3 hr => ?_
        subst hr
        have S3 := S.after k3 G3 fun _ q => q
        rw [hc1]
        walk_at "sts"; walk_at "nm"
        refine nm_glob (v := .ref 279) S3.ok rfl (by kernel_rfl) rfl (by kernel_rfl) (by kernel_rfl) ?_
        refine eq_con (b := false) S3.ok ((R.deeper _).le (by omega)) (hT.le G3.le) hs fun r I4 h4 g4 t4 k4 G4 hr => ?_
        subst hr
        have S4 := S3.after k4 G4 fun _ q => q
        rw [hc2]
        walk_at "sts"
        have hle4 : Le I I4 := G3.le.trans G4.le
        have hlen : us.length ≤ 3 := by rw [V.ks.1]; exact x.kids_len
        have V4 : View w I4 x v a l e us := ⟨V.v, V.ii.le hle4, V.la, V.ll, V.lm, V.lc, V.tu.le hle4, V.ks.le fun _ _ z => z.le hle4⟩
        refine comp_assign (B := B) (d := d) (o := o) (cl := []) (M₀ := Mt) (h₀ := h) (I₀ := I) rfl R.hh rfl (by decide) rfl (by decide) (by kernel_rfl) (by kernel_rfl) rfl (fun _ => rfl) ?_
        refine Attribute_Name_ ?_
        walk_at "nm"
        refine V4.args S4.ok ?_
        refine ⟨e, us, I4, h4, g4, _, _, Mt, fun j I y => ∀ t', x.kids[j]? = some t' → TIn I t' y, fun _ => True, rfl, rfl, S4, .inl V4.tu, V4.tu.nM S4.ok, Nat.le_trans hlen (Nat.le_trans (by decide) sizeLine_big),
          { hM := S4.ok.hM, hR := fun i I I' y hl hr t' e => (hr t' e).le hl, hV := fun _ _ _ _ => trivial, hV0 := trivial, helt := ?_ }, fun _ z => .inl z, fun z => z.elim S4.ne.1 S4.ne.2, fun D5 h5 I5 g5 t5 ys S5 hle5 hl5 hlen5 hr5 _ => ?_⟩
        · intro i v' C m I' h' g' t' Q' E' hi hP S' hm _ hK
          have hj : i < x.kids.length := by rw [← V.ks.1]; exact hi
          have hje := List.getElem?_eq_getElem hj
          have hev : EIn I' x.kids[i] v' := (V4.ks.2 i v' _ hP hje).le S'.G.le
          refine Call_ ?_
          refine nm_glob (v := .ref 620) S'.ok rfl (by kernel_rfl) rfl (by kernel_rfl) (by kernel_rfl) ?_
          walk_at "cw"; walk_at "sts"; walk_at "nm"; walk_at "sts"
          refine ⟨S'.ok.X, ih x.kids[i] (by have := T.kids_h hje; omega) S'.ok (R.deeper _) hev fun r I2 h2 g2 t2 k2 G2 z => ?_⟩
          exact hK _ _ _ _ _ k2 G2 trivial fun t' e => by rw [hje] at e; cases e; exact z
        · rw [up_lk] at S5
          have hys : Each (TIn I5) x.kids ys := ⟨by rw [hlen5, V.ks.1], fun j u t' e e' => hr5 j u e t' e'⟩
          walk_at "sts"
          refine Call_ ?_
          refine nm_boot (v := .builtin "isinstance") S5.ok rfl (by kernel_rfl) rfl rfl (by kernel_rfl) (by kernel_rfl) (by decide +kernel) (by kernel_rfl) ?_
          walk_at "cwb"; walk_at "sts"; walk_at "nm"; walk_at "sts"
          refine nm_glob (v := .ref 431) S5.ok rfl (by kernel_rfl) rfl (by kernel_rfl) (by kernel_rfl) ?_
          walk_at "sts"
          have hT5 : EIn I5 x v := (hT.le hle4).le hle5
          refine isi S5.ok hT5 (is_not w x) fun t6 => ?_
          walk_at "sts"
          cases hn : x.isNot with
          | true =>
            walk_at "sts"
            refine Call_ ?_
            refine nm_boot (v := .type "tuple") S5.ok rfl (by kernel_rfl) rfl rfl (by kernel_rfl) (by kernel_rfl) (by decide +kernel) (by kernel_rfl) ?_
            walk_at "cwb"; walk_at "sts"
            refine new_lst S5 (by simp) fun h7 I7 S7 hl7 ht7 => ?_
            walk_at "nm"
            refine add_lst S7 ht7 (hl5.le hl7) (by simp; omega) fun h8 I8 D8 S8 hl8 ht8 => ?_
            walk_at "sts"
            refine tup_of_lst S8 ht8 (by simp; omega) fun h9 I9 D9 S9 hl9 ht9 => ?_
            refine hQ _ _ _ _ _ S9.ok S9.G ?_
            cases x with
            | not y =>
              obtain ⟨u1, r1, rfl, x1, e1⟩ := hys.hd
              cases e1.done
              exact ⟨D9, _, u1, rfl, ht9, ((x1.le hl7).le hl8).le hl9⟩
            | _ => cases hn
          | false =>
            have hop : ∃ kk, x.op = some (kk, x.kids) := by
              cases x with
              | sym y => cases hs
              | not _ => cases hn
              | con b => exact absurd ⟨_, rfl⟩ hcon
              | op2 kk y z => exact ⟨kk, rfl⟩
              | op3 kk y z q => exact ⟨kk, rfl⟩
            obtain ⟨kk, hop⟩ := hop
            have hand : x.isAnd = !kk := by cases x <;> simp only [T.op, Option.some.injEq, Prod.mk.injEq, reduceCtorEq] at hop <;> (obtain ⟨rfl, _⟩ := hop; rfl)
            walk_at "sts"
            refine Call_ ?_
            refine nm_boot (v := .type "tuple") S5.ok rfl (by kernel_rfl) rfl rfl (by kernel_rfl) (by kernel_rfl) (by decide +kernel) (by kernel_rfl) ?_
            walk_at "cwb"; walk_at "sts"
            refine Call_ ?_
            refine nm_boot (v := .builtin "isinstance") S5.ok rfl (by kernel_rfl) rfl rfl (by kernel_rfl) (by kernel_rfl) (by decide +kernel) (by kernel_rfl) ?_
            walk_at "cwb"; walk_at "sts"; walk_at "nm"; walk_at "sts"
            refine nm_glob (v := .ref 554) S5.ok rfl (by kernel_rfl) rfl (by kernel_rfl) (by kernel_rfl) ?_
            walk_at "sts"
            refine isi S5.ok hT5 (is_and w x) fun t7 => ?_
            rw [hand]
            walk_at "sts"
            cases kk with
            | true =>
              walk_at "sts"
              refine new_lst S5 (by simp) fun h7 I7 S7 hl7 ht7 => ?_
              walk_at "nm"
              refine add_lst S7 ht7 (hl5.le hl7) (by simp; omega) fun h8 I8 D8 S8 hl8 ht8 => ?_
              walk_at "sts"
              refine tup_of_lst S8 ht8 (by simp; omega) fun h9 I9 D9 S9 hl9 ht9 => ?_
              exact hQ _ _ _ _ _ S9.ok S9.G (.mk hop ht9 (hys.le fun _ _ z => ((z.le hl7).le hl8).le hl9))
            | false =>
              walk_at "sts"
              refine new_lst S5 (by simp) fun h7 I7 S7 hl7 ht7 => ?_
              walk_at "nm"
              refine add_lst S7 ht7 (hl5.le hl7) (by simp; omega) fun h8 I8 D8 S8 hl8 ht8 => ?_
              walk_at "sts"
              refine tup_of_lst S8 ht8 (by simp; omega) fun h9 I9 D9 S9 hl9 ht9 => ?_
              exact hQ _ _ _ _ _ S9.ok S9.G (.mk hop ht9 (hys.le fun _ _ z => ((z.le hl7).le hl8).le hl9))

end
end Mine
namespace Mine
local macro_rules | `(tactic| walk_at "lk") => `(tactic| first | assumption | exact lk_hd (by decide +kernel) | exact lk_tl (by decide +kernel) (by assumption) | exact lk_tl (by decide +kernel) (lk_tl (by decide +kernel) (by assumption)) | exact lk_tl (by decide +kernel) (lk_hd (by decide +kernel)) | exact lk_tl (by decide +kernel) (lk_tl (by decide +kernel) (lk_hd (by decide +kernel))) | exact lk_tl (by decide +kernel) (lk_tl (by decide +kernel) (lk_tl (by decide +kernel) (lk_hd (by decide +kernel)))) | exact lk_tl (by decide +kernel) (lk_tl (by decide +kernel) (lk_tl (by decide +kernel) (lk_tl (by decide +kernel) (lk_hd (by decide +kernel))))))
local macro_rules | `(tactic| walk_at "ok") => `(tactic| first | assumption | exact St.ok (by assumption))
local macro_rules | `(tactic| walk_at "nm") => `(tactic| refine nm_loc (by assumption) rfl (by kernel_rfl) (by walk_at "lk") (by kernel_rfl) ?_)
local macro_rules | `(tactic| walk_at "s0") => `(tactic| refine sub0 (by walk_at "ok") (by assumption) (by with_unfolding_all rfl) ?_)
local macro_rules | `(tactic| walk_at "s1") => `(tactic| refine sub1 (by walk_at "ok") (by assumption) (by with_unfolding_all rfl) ?_)
local macro_rules | `(tactic| walk_at "eqt") => `(tactic| refine eq_str_is true (by kernel_rfl) ?_)
local macro_rules | `(tactic| walk_at "eqf") => `(tactic| refine eq_str_is false (by kernel_rfl) ?_)
local macro_rules | `(tactic| walk_at "st") => `(tactic| first
  | ((with_reducible show wpAny _ _ (eval (Expr.Constant (Const.str _) _ _) _) _ _ _); refine c_str ?_)
  | ((with_reducible show wpAny _ _ (eval (Expr.Constant (Const.int _) _ _) _) _ _ _); refine c_int ?_)
  | ((with_reducible show wpAny _ _ (eval (Expr.Constant (Const.bool _) _ _) _) _ _ _); refine wpAny_Constant_bool ?_)
  | ((with_reducible show wpAny _ _ (eval (Expr.Subscript _ (Expr.Constant _ _ _) _) _) _ _ _); refine Subscript_ ?_)
  | ((with_reducible show wpAny _ _ (eval (Expr.Compare _ _ _ _) _) _ _ _); refine wpAny_Compare1 ?_)
  | ((with_reducible show wpAny _ _ (eval (Expr.IfExp _ _ _ _) _) _ _ _); refine IfExp_ ?_)
  | ((with_reducible show wpAny _ _ (eval (Expr.Tuple _ _ _) _) _ _ _); refine Tuple_ ?_)
  | ((with_reducible show wpAny _ _ (eval (Expr.List _ _) _) _ _ _); refine List_ ?_)
  | ((with_reducible show wpAny _ _ (eval (Expr.BinOp _ _ _ _) _) _ _ _); refine wpAny_BinOp ?_)
  | ((with_reducible show wpAny _ _ (eval (Expr.UnaryOp _ _ _) _) _ _ _); refine UnaryOp_ ?_)
  | ((with_reducible show wpAny _ _ (isTrue (Expr.Compare _ _ _ _) _ _) _ _ _); refine wpAny_isTrue_Compare1 ?_)
  | ((with_reducible show wpAny _ _ (isTrue (Expr.UnaryOp UnaryOp.Not _ _) _ _) _ _ _); refine isTrue_not ?_)
  | ((with_reducible show wpAny _ _ (isTrue (Expr.BoolOp BoolOp.And (_ :: _) _) _ _) _ _ _); refine isTrue_and ?_)
  | ((with_reducible show wpAny _ _ (isTrue (Expr.BoolOp BoolOp.Or (_ :: _) _) _ _) _ _ _); refine isTrue_or ?_)
  | ((with_reducible show wpAny _ _ (isTrue (Expr.BoolOp BoolOp.Or [] _) _ _) _ _ _); refine isTrue_nil_or ?_)
  | ((with_reducible show wpAny _ _ (isTrue (Expr.BoolOp BoolOp.And [] _) _ _) _ _ _); refine isTrue_nil_and ?_)
  | ((with_reducible show wpAny _ _ (isTrue (Expr.Name _ _) _ _) _ _ _); refine isTrue_plain ?_)
  | ((with_reducible show wpAny _ _ (isTrue (Expr.Constant _ _ _) _ _) _ _ _); refine isTrue_plain ?_)
  | ((with_reducible show wpAny _ _ (isTrue (Expr.Call _ _ _ _) _ _) _ _ _); refine isTrue_plain ?_)
  | ((with_reducible show wpAny _ _ (isTrue (Expr.Attribute _ _ _) _ _) _ _ _); refine isTrue_plain ?_)
  | ((with_reducible show wpAny _ _ (unaryOp UnaryOp.Not _) _ _ _); refine not_of ?_)
  | ((with_reducible show wpAny _ _ (truthy (Value.bool _)) _ _ _); refine wpAny_truthy_bool ?_)
  | ((with_reducible show ite _ _ _); first | refine ite_t ?_ | refine ite_f ?_)
  | ((with_reducible show wpAny _ _ (execs (_ :: _) _) _ _ _); refine wpAny_execs_cons ?_)
  | ((with_reducible show wpAny _ _ (execs [] _) _ _ _); refine wpAny_execs_nil ?_)
  | ((with_reducible show wpAny _ _ (exec (Stmt.If _ _ _ _) _) _ _ _); refine wpAny_If ?_)
  | ((with_reducible show wpAny _ _ (exec (Stmt.Return (some _) _) _) _ _ _); refine wpAny_Return_some ?_)
  | ((with_reducible show wpAny _ _ (exec (Stmt.Assign [Expr.Attribute _ _ _] _ _) _) _ _ _); refine plainObj_wpAny_Assign_Attribute ?_)
  | ((with_reducible show wpAny _ _ (eval (Expr.Constant Const.none _ _) _) _ _ _); refine Constant_none ?_)
  | ((with_reducible show wpAny _ _ (spliced (backTo _ (starEach (_ :: _) _))) _ _ _); refine args_cons ?_)
  | ((with_reducible show wpAny _ _ (spliced (backTo _ (starEach [] _))) _ _ _); refine args_nil ?_))
local macro_rules | `(tactic| walk_at "sts") => `(tactic| repeat walk_at "st")
local macro_rules | `(tactic| walk_at "cw") => `(tactic| refine cw (by walk_at "ok") (by kernel_rfl) ?_ rfl rfl)
local macro_rules | `(tactic| walk_at "cwb") => `(tactic| refine cwb rfl ?_ rfl rfl)
local macro_rules | `(tactic| walk_at "mem") => `(tactic| simp [attrNames])
local macro_rules | `(tactic| walk_at "sl") => `(tactic| refine sub_lst (by walk_at "ok") (by assumption) (by decide) (by decide) rfl (by with_unfolding_all rfl) ?_)

section
variable {w : World} {B : Heap} {M : Addr → Prop} {h₀ : Heap} {I₀ I : Im} {L : Addr} {m : Str → Option Value} {h : Heap} {g : Array GenState} {d : Drawn} {t : Nat} {o : OsState} {A : Around} {E : Value → Shared → Prop} {env : Env}
theorem comp_rest2 {M : Addr → Prop} {Is : Im} {hs hi : Heap} {gs : Array GenState} {ti : Nat} {E : Value → Shared → Prop} {env : Env} {elt iter : Expr} {x : Str} {px : Pos} {scope : Scope} {cl : List (Str × Addr)} {pos : Pos} {It : Addr} {fp wr : List Addr} {n : Nat} {P : Nat → Value → Prop} {Stt : Nat → Heap → Prop}
    (W : Walks PR w A It fp wr n P Stt) (hwr : ∀ b ∈ wr, b = It) (k : Ok w B Is hs gs) (ki : Ok w B Is hi gs) (Gi : Grow M hs Is hi Is) (hIt : hs.get? It = none) (hIt' : Is It = none) (hItl : It < hi.objs.size)
    (hfp : ∀ b ∈ fp, b < hi.objs.size ∧ ¬ M b) (hst : Stt 0 hi) (hSI : ∀ i h, Stt i h → ∃ q, h.get? It = some q) (hsz : n ≤ sizeLine)
    (hcell : ∀ y ∈ scope.names, y.2 ≠ .cell) (hkind : scope.kind = .function) (hx : scope.names.lookup x = some .local)
    (hM : ∀ a, M a → ∃ q, hs.get? a = some q)
    (R : Nat → Im → Value → Prop) (hR : ∀ i I I' y, Le I I' → R i I y → R i I' y)
    (V : Im → Heap → Prop) (hV : ∀ I h1 h2, (∀ a q, (∃ q0, hs.get? a = some q0) → h1.get? a = some q → h2.get? a = some q) → V I h1 → V I h2) (hVup : ∀ I D q h, hs.get? D = none → V I h → V (I.up D q) h) (hV0 : V Is hi)
    (helt : ∀ i v C m I' h' g' t' Q' E', i < n → P i v → St w B M hs Is C m I' h' g' → m x = some v → V I' h' →
      (∀ y I'' h'' g'' t'', Ok w B I'' h'' g'' → Grow M h' I' h'' I'' → V I'' h'' → R i I'' y → Q' y ⟨h'', g'', d, t'', o⟩) → wpAny (model PR w) A (eval elt (compEnvC scope cl C env)) Q' E' ⟨h', g', d, t', o⟩)
    {RR : Value → Addr → Result → Shared → Prop}
    (hRR : ∀ D C h' I' g' t' ys m', Ok w B I' h' g' → Grow M hs Is h' I' → h'.Ns C m' → I' C = none → hs.get? C = none → Lst I' D ys → ys.length = n → (∀ j y, ys[j]? = some y → R j I' y) → V I' h' → RR (.ref D) C (.ok .next) ⟨h', g', d, t', o⟩) :
    wpAny (model PR w) A (newList []) (fun acc s₃ => wpAny (model PR w) A (newFunctionEnv scope env.globals cl [] env.qual none .none (some env)) (fun cenv s₄ =>
      codeAny (model PR w) A (.compStart (.ListComp elt [⟨.Name x px, iter, [], 0⟩] scope pos) 0 (.ref It) acc { cenv with scope := relabel scope env }) (RR acc cenv.locals) s₄) E s₃) E ⟨hi, gs, d, ti, o⟩ := by
  refine wpAny_newObj_type (wpAny_newFunctionEnv hcell (by intro y hy; simp at hy) (fun h₁ hns₁ hsb₁ => ?_) hkind)
  dsimp only at hns₁ hsb₁ ⊢
  generalize hH2 : hi.push { cls := .type "list", dict := none, data := .seq ([] : List Value).toArray } = H2 at hns₁ hsb₁ ⊢
  have hC : H2.objs.size = hi.objs.size + 1 := by rw [← hH2, Heap.size_push]
  have hDC : hi.objs.size ≠ H2.objs.size := by rw [hC]; exact Nat.ne_of_lt (Nat.lt_succ_self _)
  have old : ∀ b q, hi.get? b = some q → h₁.get? b = some q := fun b q e => hsb₁.extBut b q (Nat.ne_of_lt (by rw [hC]; exact Nat.lt_succ_of_lt (Heap.lt_size e))) (Heap.get?_push_of_some _ (hH2 ▸ Heap.get?_push_of_some _ e))
  have hsi : ∀ a q, hs.get? a = some q → a < hi.objs.size := fun a q e => let ⟨_, e'⟩ := Gi.ex a q e; Heap.lt_size e'
  have hsn : ∀ a : Nat, hi.objs.size ≤ a → hs.get? a = none := fun a ha => by
    cases q : hs.get? a with
    | none => rfl
    | some q' => exact absurd (hsi a q' q) (Nat.not_lt.mpr ha)
  have isn : ∀ a : Nat, hi.objs.size ≤ a → Is a = none := fun a ha => by
    cases q : Is a with
    | none => rfl
    | some q' => exact absurd (Heap.lt_size (ki.sub a q' q)) (Nat.not_lt.mpr ha)
  have nM : ∀ a, hs.get? a = none → ¬ M a := fun a e m => by obtain ⟨q, z⟩ := hM a m; rw [e] at z; cases z
  have hCn := hsn H2.objs.size (by rw [hC]; omega)
  have hDn := hsn hi.objs.size (Nat.le_refl _)
  have hacc : h₁.PlainList hi.objs.size #[] := ⟨_, hsb₁.extBut _ _ hDC (Heap.get?_push_of_some _ (hH2 ▸ Heap.get?_push_size _ rfl))⟩
  have hst₁ : Stt 0 h₁ := W.frame _ _ _ hst fun b _ q e => old b q e
  have S₁ : St w B M hs Is H2.objs.size (fun y => ([] : List (Str × Value)).reverse.lookup y) Is h₁ gs := {
    ok := ki.keeps old
    G := ⟨Gi.le, fun a q e => let ⟨q', e'⟩ := Gi.ex a q e; ⟨q', old a q' e'⟩, Gi.fresh, fun a q m e => old a q (Gi.kp a q m e)⟩
    ns := hns₁
    nL := isn H2.objs.size (by rw [hC]; omega)
    off := hCn
    low := k.there }
  have hDf : hi.objs.size ∉ fp := fun hm => Nat.lt_irrefl _ (hfp _ hm).1
  have hCf : H2.objs.size ∉ fp := fun hm => by have := (hfp _ hm).1; rw [hC] at this; exact Nat.not_succ_lt_self this
  have hV1 : V Is h₁ := hV Is hi h₁ (fun a q _ e => old a q e) hV0
  have hkx : (compEnvC scope cl H2.objs.size env).kindOf x = some .local := lookup_relabel_local hx
  have loop : ∀ t', codeAny (model PR w) A (.compLoop (.ListComp elt [⟨.Name x px, iter, [], 0⟩] scope pos) 0 (.ref It) (.ref hi.objs.size) (compEnvC scope cl H2.objs.size env)) (RR (.ref hi.objs.size) H2.objs.size) ⟨h₁, gs, d, t', o⟩ := by
    intro t'
    refine codeAny_compLoop_list (fun kk s' => ∃ h' I' g' t' m' ys i, s' = ⟨h', g', d, t', o⟩ ∧ kk = n + 1 - i ∧ i ≤ n ∧ Stt i h' ∧ St w B M hs Is H2.objs.size m' I' h' g' ∧ h'.PlainList hi.objs.size (ys : List Value).toArray ∧ ys.length = i ∧
      (∀ j y, ys[j]? = some y → R j I' y) ∧ V I' h' ∧ I' hi.objs.size = none ∧ I' It = none) ?_ (n + 1) ⟨h₁, Is, gs, t', _, [], 0, rfl, rfl, Nat.zero_le _, hst₁, S₁, hacc, rfl, fun j y e => by simp at e, hV1, isn _ (Nat.le_refl _), hIt'⟩
    rintro kk s' ⟨h', I', g', t', m', ys, i, rfl, rfl, hi', hst', S', hl', hys, hRs, hv', hID, hII⟩
    by_cases hlt : i < n
    · refine W.item i _ _ _ hlt hst' fun v h2 tk2 hP hst2 hk2 => ?_
      have kI : ∀ b q, b ≠ It → h'.get? b = some q → h2.get? b = some q := fun b q hb e => hk2 b q (fun z => hb (hwr b z)) e
      have hItC : It ≠ H2.objs.size := Nat.ne_of_lt (by rw [hC]; exact Nat.lt_succ_of_lt hItl)
      have S2 : St w B M hs Is H2.objs.size m' I' h2 g' := S'.moved It kI hII hItC hIt
      refine wpAny_assign_Name (wpAny_storeName_local hkx S2.ns (fun h3 hn3 hs3 => ?_) (by simp [compEnvC, relabel, hkind]))
      have k3 : ∀ b q, b ≠ H2.objs.size → h2.get? b = some q → h3.get? b = some q := fun b q hb e => (hs3.2 b hb).trans e
      have S3 := S2.stored hn3 k3
      have hv3 : V I' h3 := hV I' h' h3 (fun a q ⟨q0, e0⟩ e => k3 a q (fun z => by rw [z, hCn] at e0; cases e0) (kI a q (fun z => by rw [z, hIt] at e0; cases e0) e)) hv'
      have nIM : ¬ M It := nM It hIt
      have nDM : ¬ M hi.objs.size := nM _ hDn
      refine helt i v _ _ I' h3 g' _ _ _ hlt hP S3 (by simp) hv3 fun y I4 h4 g4 t4 k4 G4 hv4 hy => ?_
      have S4 : St w B M hs Is H2.objs.size _ I4 h4 g4 := S3.called k4 G4 (fun a m => .inl m) (nM _ hCn)
      have hst3 : Stt (i + 1) h3 := W.frame _ _ _ hst2 fun b hb q e => k3 b q (fun z => hCf (z ▸ hb)) e
      have hst4 : Stt (i + 1) h4 := W.frame _ _ _ hst3 fun b hb q e => G4.kp b q (hfp b hb).2 e
      have hItD : It ≠ hi.objs.size := Nat.ne_of_lt hItl
      have l3 : h3.PlainList hi.objs.size ys.toArray := hl'.at fun q e => k3 _ q hDC (kI _ q (Ne.symm hItD) e)
      have l4 : h4.PlainList hi.objs.size ys.toArray := l3.at fun q e => G4.kp _ q nDM e
      have iD4 : I4 hi.objs.size = none := by
        cases z : I4 hi.objs.size with
        | none => rfl
        | some q => obtain ⟨nn, e⟩ := l3; have := G4.fresh _ _ q nDM e z; rw [hID] at this; cases this
      have eIt : ∃ q, h3.get? It = some q := hSI _ _ hst3
      have iI4 : I4 It = none := by
        cases z : I4 It with
        | none => rfl
        | some q => obtain ⟨nn, e⟩ := eIt; have := G4.fresh _ _ q nIM e z; rw [hII] at this; cases this
      have hsz4 : ys.toArray.size ≤ sizeLine := by rw [List.size_toArray, hys]; omega
      refine wpAny_list_append_plain (hsz := hsz4) l4 fun h5 l5 hs5 => ?_
      have k5 : ∀ b q, b ≠ hi.objs.size → h4.get? b = some q → h5.get? b = some q := fun b q hb e => (hs5.2 b hb).trans e
      have S5 := S4.moved _ k5 iD4 hDC hDn
      refine ⟨n + 1 - (i + 1), by omega, h5, I4, g4, _, _, ys ++ [y], i + 1, rfl, rfl, hlt, W.frame _ _ _ hst4 fun b hb q e => k5 b q (fun z => hDf (z ▸ hb)) e, S5, by simpa using l5, by simp [hys], fun j u e => ?_,
        hV I4 h4 h5 (fun a q ⟨q0, e0⟩ e => k5 a q (fun z => by rw [z, hDn] at e0; cases e0) e) hv4, iD4, iI4⟩
      rcases Nat.lt_trichotomy j i with hj | hj | hj
      · rw [List.getElem?_append_left (by omega)] at e
        exact hR j I' I4 u G4.le (hRs j u e)
      · subst hj
        rw [← hys] at e
        simp at e
        subst e
        exact hy
      · rw [List.getElem?_eq_none (by simp [hys]; omega)] at e; cases e
    · have hin : i = n := by omega
      subst hin
      refine W.done _ _ _ hst' fun h2 tk2 hk2 => ?_
      have kI : ∀ b q, b ≠ It → h'.get? b = some q → h2.get? b = some q := fun b q hb e => hk2 b q (fun z => hb (hwr b z)) e
      have hItC : It ≠ H2.objs.size := Nat.ne_of_lt (by rw [hC]; exact Nat.lt_succ_of_lt hItl)
      have S2 : St w B M hs Is H2.objs.size m' I' h2 g' := S'.moved It kI hII hItC hIt
      have hv2 : V I' h2 := hV I' h' h2 (fun a q ⟨q0, e0⟩ e => kI a q (fun z => by rw [z, hIt] at e0; cases e0) e) hv'
      obtain ⟨nn, e⟩ := hl'
      have eD := kI _ _ (Ne.symm (Nat.ne_of_lt hItl)) e
      have S3 := S2.freeze eD hDn hDC
      exact hRR _ _ h2 _ g' _ ys m' S3.ok S3.G S3.ns S3.nL hCn ⟨nn, Im.up_self⟩ hys (fun j y e' => hR j I' _ y (Le.up hID) (hRs j y e')) (hVup _ _ _ _ hDn hv2)
  exact codeAny_compStart_list (loop _) (W.self 0 _ _ _ hst₁ (loop _))


/-- «y = [elt for x in range(n)]» -/
theorem comp_rng {M₀ : Addr → Prop} {h₀ : Heap} {I₀ : Im} {s : Shared} {Q : Flow → Shared → Prop} {elt iter : Expr} {x y : Str} {px py : Pos} {scope : Scope} {cl : List (Str × Addr)} {pos spos : Pos}
    (hsw : swapsWith (.ListComp elt [⟨.Name x px, iter, [], 0⟩] scope pos) (some (.Name y py)) spos.line env = pure true)
    (hh : A.handled = none) (hclos : closureFor scope env = pure cl) (hcell : ∀ y ∈ scope.names, y.2 ≠ .cell) (hkind : scope.kind = .function) (hnames : ∀ x ∈ scope.names, x.2 = .local → scope.names.lookup x.1 = some .local) (hx : scope.names.lookup x = some .local)
    (hy : env.kindOf y = some .local) (hp : (env.scope.kind == .class || (env.scope.kind == .module && env.locals != env.globals)) = false)
    (hs : ∀ x, foldedSetIterable iter env x = pure x)
    (hq : wpAny (model PR w) A (eval iter env) (fun xv s' => ∃ r n u1 u2 u3 I h g t l, ∃ (M : Addr → Prop) (R : Nat → Im → Value → Prop) (V : Im → Heap → Prop), xv = .ref r ∧ s' = ⟨h, g, d, t, o⟩ ∧ IsRange h r 0 ((n : Nat) : Int) 1 u1 u2 u3 ∧ n ≤ 10 ∧ St w B M₀ h₀ I₀ env.locals (fun z => List.lookup z l) I h g ∧
      (∀ a, M a → ∃ q, h.get? a = some q) ∧ (∀ i I I' y, Le I I' → R i I y → R i I' y) ∧ (∀ I h1 h2, (∀ a q, a ≠ env.locals → (∃ q0, h.get? a = some q0) → h1.get? a = some q → h2.get? a = some q) → V I h1 → V I h2) ∧ (∀ I D q h', h.get? D = none → V I h' → V (I.up D q) h') ∧ V I h ∧
      (∀ i C m I' h' g' t' Q' E', i < n → St w B M h I C m I' h' g' → V I' h' → (∀ y I'' h'' g'' t'', Ok w B I'' h'' g'' → Grow M h' I' h'' I'' → V I'' h'' → R i I'' y → Q' y ⟨h'', g'', d, t'', o⟩) → wpAny (model PR w) A (eval elt (compEnvC scope cl C env)) Q' E' ⟨h', g', d, t', o⟩) ∧
      (∀ a, M a → M₀ a ∨ h₀.get? a = none) ∧ ¬ M env.locals ∧
      ∀ D h' I' g' t' ys, St w B M₀ h₀ I₀ env.locals (fun z => List.lookup z ((y, .ref D) :: l)) I' h' g' → Le I I' → Lst I' D ys → ys.length = n → (∀ (j : Nat) u, ys[j]? = some u → R j I' u) → V I' h' → Q .next ⟨h', g', d, t', o⟩) E s) :
    wpAny (model PR w) A (exec (.Assign [.Name y py] (.ListComp elt [⟨.Name x px, iter, [], 0⟩] scope pos) spos) env) Q E s := by
  rw [exec_Assign_Name_used _ _ _ _ hsw]
  refine wpAny_bind (wpAny_standAt (wpAny_bind ?_))
  show wpAny _ A (do let _ ← comprehension (.ListComp elt [⟨.Name x px, iter, [], 0⟩] scope pos) scope env _ (newList []) false (eval iter env) (some (assign (.Name y py) env))) _ _ s
  refine wpAny_bind (wpAny_mono (wpAny_comprehension_free (Q := fun _ s' => Q .next s') (g := ⟨.Name x px, iter, [], 0⟩) (gs := []) rfl hs hclos hkind hnames (wpAny_mono hq (fun xv s₁ z => ?_) fun _ _ e => e))
    (fun _ s' hq => wpAny_pure (wpAny_pure hq)) fun _ _ e => e)
  obtain ⟨r, n, u1, u2, u3, I, h, g, t, l, M, R, V, rfl, rfl, hr, hn, S, hM, hR, hV, hVup, hV0, helt, hMM, hML, hfin⟩ := z
  have k := S.ok
  have nIt : h.get? h.objs.size = none := by
    cases q : h.get? h.objs.size with
    | none => rfl
    | some o => exact absurd (Heap.lt_size q) (Nat.lt_irrefl _)
  have nM : ¬ M h.objs.size := fun m => by obtain ⟨q, z⟩ := hM _ m; rw [nIt] at z; cases z
  have hsmall : Builtin.Range.small 0 ((n : Nat) : Int) 1 = true := by
    have : n = 0 ∨ n = 1 ∨ n = 2 ∨ n = 3 ∨ n = 4 ∨ n = 5 ∨ n = 6 ∨ n = 7 ∨ n = 8 ∨ n = 9 ∨ n = 10 := by omega
    rcases this with rfl | rfl | rfl | rfl | rfl | rfl | rfl | rfl | rfl | rfl | rfl <;> decide
  refine wpAny_pyIter_range hr hsmall ?_
  have W := Walks.range (prog := PR) (w := w) (A := A) hh h.objs.size 0 1 n
  have hlen : Builtin.Range.rangeSize 0 ((n : Nat) : Int) 1 = (n : Int) := by rw [rangeSize_nat]; simp
  rw [hlen]
  refine comp_rest2 W (fun b hb => by simpa using hb) k (k.push _) (.push M h I _) nIt k.none_size (by rw [Heap.size_push]; exact Nat.lt_succ_self _) (fun b hb => ?_)
    (by show IsRangeIter _ _ _ _ _; simpa using Heap.get?_push_size h (o := { cls := .type "range_iterator", data := .fields #[rawInt 0, rawInt (n : Int), rawInt 1] }) rfl) (fun i h z => ⟨_, z⟩) (Nat.le_trans hn (Nat.le_trans (by decide) sizeLine_big)) hcell hkind hx hM R hR V (fun I h1 h2 hk => hV I h1 h2 fun a q _ e0 => hk a q e0) hVup (hV _ _ _ (fun a q _ _ e => Heap.get?_push_of_some _ e) hV0)
    (fun i v C m I' h' g' t' Q' E' hi _ S' _ hv hK => helt i C m I' h' g' t' Q' E' hi S' hv hK)
    (RR := fun acc C => compPost (model PR w) A E (some (assign (.Name y py) env)) (fun _ s' => Q .next s') acc C) fun D' C' h' I' g' t' ys m' k' G' hn' hi hc hl hlen hr hv => ?_
  · simp only [List.mem_cons, List.not_mem_nil, or_false] at hb
    subst hb
    exact ⟨by rw [Heap.size_push]; exact Nat.lt_succ_self _, nM⟩
  · have S1 := S.called k' G' hMM hML
    refine wpAny_assign_Name (put S1 hy hp fun h2 S2 k2 => ?_)
    have hCL : C' ≠ env.locals := by
      rintro rfl
      obtain ⟨q, es, ep, e, _⟩ := S.ns
      rw [hc] at e; cases e
    refine ⟨m', hn'.at' fun q e => k2 _ q hCL e, fun h3 hs3 => ?_⟩
    have k3 : ∀ b q, b ≠ C' → h2.get? b = some q → h3.get? b = some q := fun b q hb e => (hs3.2 b hb).trans e
    have hc0 : h₀.get? C' = none := by
      cases z : h₀.get? C' with
      | none => rfl
      | some q => obtain ⟨q', e'⟩ := S.G.ex _ _ z; rw [hc] at e'; cases e'
    have S3 := S2.moved C' k3 hi hCL hc0
    exact hfin D' h3 I' g' _ ys S3 G'.le hl hlen hr (hV I' h' h3 (fun a q haL ⟨q0, e0⟩ e => k3 a q (fun z => by rw [z, hc] at e0; cases e0) (k2 a q haL e)) hv)

end
end Mine
namespace Mine
local macro_rules | `(tactic| walk_at "lk") => `(tactic| first | assumption | exact lk_hd (by decide +kernel) | exact lk_tl (by decide +kernel) (by assumption) | exact lk_tl (by decide +kernel) (lk_tl (by decide +kernel) (by assumption)) | exact lk_tl (by decide +kernel) (lk_hd (by decide +kernel)) | exact lk_tl (by decide +kernel) (lk_tl (by decide +kernel) (lk_hd (by decide +kernel))) | exact lk_tl (by decide +kernel) (lk_tl (by decide +kernel) (lk_tl (by decide +kernel) (lk_hd (by decide +kernel)))) | exact lk_tl (by decide +kernel) (lk_tl (by decide +kernel) (lk_tl (by decide +kernel) (lk_tl (by decide +kernel) (lk_hd (by decide +kernel))))))
local macro_rules | `(tactic| walk_at "ok") => `(tactic| first | assumption | exact St.ok (by assumption))
local macro_rules | `(tactic| walk_at "nm") => `(tactic| refine nm_loc (by assumption) rfl (by kernel_rfl) (by walk_at "lk") (by kernel_rfl) ?_)
local macro_rules | `(tactic| walk_at "s0") => `(tactic| refine sub0 (by walk_at "ok") (by assumption) (by with_unfolding_all rfl) ?_)
local macro_rules | `(tactic| walk_at "s1") => `(tactic| refine sub1 (by walk_at "ok") (by assumption) (by with_unfolding_all rfl) ?_)
local macro_rules | `(tactic| walk_at "eqt") => `(tactic| refine eq_str_is true (by kernel_rfl) ?_)
local macro_rules | `(tactic| walk_at "eqf") => `(tactic| refine eq_str_is false (by kernel_rfl) ?_)
local macro_rules | `(tactic| walk_at "st") => `(tactic| first
  | ((with_reducible show wpAny _ _ (eval (Expr.Constant (Const.str _) _ _) _) _ _ _); refine c_str ?_)
  | ((with_reducible show wpAny _ _ (eval (Expr.Constant (Const.int _) _ _) _) _ _ _); refine c_int ?_)
  | ((with_reducible show wpAny _ _ (eval (Expr.Constant (Const.bool _) _ _) _) _ _ _); refine wpAny_Constant_bool ?_)
  | ((with_reducible show wpAny _ _ (eval (Expr.Subscript _ (Expr.Constant _ _ _) _) _) _ _ _); refine Subscript_ ?_)
  | ((with_reducible show wpAny _ _ (eval (Expr.Compare _ _ _ _) _) _ _ _); refine wpAny_Compare1 ?_)
  | ((with_reducible show wpAny _ _ (eval (Expr.IfExp _ _ _ _) _) _ _ _); refine IfExp_ ?_)
  | ((with_reducible show wpAny _ _ (eval (Expr.Tuple _ _ _) _) _ _ _); refine Tuple_ ?_)
  | ((with_reducible show wpAny _ _ (eval (Expr.List _ _) _) _ _ _); refine List_ ?_)
  | ((with_reducible show wpAny _ _ (eval (Expr.BinOp _ _ _ _) _) _ _ _); refine wpAny_BinOp ?_)
  | ((with_reducible show wpAny _ _ (eval (Expr.UnaryOp _ _ _) _) _ _ _); refine UnaryOp_ ?_)
  | ((with_reducible show wpAny _ _ (isTrue (Expr.Compare _ _ _ _) _ _) _ _ _); refine wpAny_isTrue_Compare1 ?_)
  | ((with_reducible show wpAny _ _ (isTrue (Expr.UnaryOp UnaryOp.Not _ _) _ _) _ _ _); refine isTrue_not ?_)
  | ((with_reducible show wpAny _ _ (isTrue (Expr.BoolOp BoolOp.And (_ :: _) _) _ _) _ _ _); refine isTrue_and ?_)
  | ((with_reducible show wpAny _ _ (isTrue (Expr.BoolOp BoolOp.Or (_ :: _) _) _ _) _ _ _); refine isTrue_or ?_)
  | ((with_reducible show wpAny _ _ (isTrue (Expr.BoolOp BoolOp.Or [] _) _ _) _ _ _); refine isTrue_nil_or ?_)
  | ((with_reducible show wpAny _ _ (isTrue (Expr.BoolOp BoolOp.And [] _) _ _) _ _ _); refine isTrue_nil_and ?_)
  | ((with_reducible show wpAny _ _ (isTrue (Expr.Name _ _) _ _) _ _ _); refine isTrue_plain ?_)
  | ((with_reducible show wpAny _ _ (isTrue (Expr.Constant _ _ _) _ _) _ _ _); refine isTrue_plain ?_)
  | ((with_reducible show wpAny _ _ (isTrue (Expr.Call _ _ _ _) _ _) _ _ _); refine isTrue_plain ?_)
  | ((with_reducible show wpAny _ _ (isTrue (Expr.Attribute _ _ _) _ _) _ _ _); refine isTrue_plain ?_)
  | ((with_reducible show wpAny _ _ (unaryOp UnaryOp.Not _) _ _ _); refine not_of ?_)
  | ((with_reducible show wpAny _ _ (truthy (Value.bool _)) _ _ _); refine wpAny_truthy_bool ?_)
  | ((with_reducible show ite _ _ _); first | refine ite_t ?_ | refine ite_f ?_)
  | ((with_reducible show wpAny _ _ (execs (_ :: _) _) _ _ _); refine wpAny_execs_cons ?_)
  | ((with_reducible show wpAny _ _ (execs [] _) _ _ _); refine wpAny_execs_nil ?_)
  | ((with_reducible show wpAny _ _ (exec (Stmt.If _ _ _ _) _) _ _ _); refine wpAny_If ?_)
  | ((with_reducible show wpAny _ _ (exec (Stmt.Return (some _) _) _) _ _ _); refine wpAny_Return_some ?_)
  | ((with_reducible show wpAny _ _ (exec (Stmt.Assign [Expr.Attribute _ _ _] _ _) _) _ _ _); refine plainObj_wpAny_Assign_Attribute ?_)
  | ((with_reducible show wpAny _ _ (eval (Expr.Constant Const.none _ _) _) _ _ _); refine Constant_none ?_)
  | ((with_reducible show wpAny _ _ (spliced (backTo _ (starEach (_ :: _) _))) _ _ _); refine args_cons ?_)
  | ((with_reducible show wpAny _ _ (spliced (backTo _ (starEach [] _))) _ _ _); refine args_nil ?_))
local macro_rules | `(tactic| walk_at "sts") => `(tactic| repeat walk_at "st")
local macro_rules | `(tactic| walk_at "cw") => `(tactic| refine cw (by walk_at "ok") (by kernel_rfl) ?_ rfl rfl)
local macro_rules | `(tactic| walk_at "cwb") => `(tactic| refine cwb rfl ?_ rfl rfl)
local macro_rules | `(tactic| walk_at "mem") => `(tactic| simp [attrNames])
local macro_rules | `(tactic| walk_at "sl") => `(tactic| refine sub_lst (by walk_at "ok") (by assumption) (by decide) (by decide) rfl (by with_unfolding_all rfl) ?_)

section
variable {w : World} {B : Heap} {M : Addr → Prop} {h₀ : Heap} {I₀ I : Im} {L : Addr} {m : Str → Option Value} {h : Heap} {g : Array GenState} {d : Drawn} {t : Nat} {o : OsState} {A : Around} {E : Value → Shared → Prop} {env : Env}

abbrev Mp (P : Addr) (a : Addr) : Prop := Mt a ∨ a = P
def PoolAt (h : Heap) (P : Addr) : Prop := ∃ vs ns, MLst h P vs ∧ IntsAre vs ns ∧ vs.length ≤ 64
theorem MLst.at {h' : Heap} {F : Addr} {xs : List Value} (x : MLst h F xs) (hk : ∀ q, h.get? F = some q → h'.get? F = some q) : MLst h' F xs := let ⟨n, e⟩ := x; ⟨n, hk _ e⟩
theorem PoolAt.at {h' : Heap} {P : Addr} (x : PoolAt h P) (hk : ∀ q, h.get? P = some q → h'.get? P = some q) : PoolAt h' P := let ⟨vs, ns, a, b, c⟩ := x; ⟨vs, ns, a.at hk, b, c⟩
theorem PoolAt.ex {P : Addr} (x : PoolAt h P) : ∃ q, h.get? P = some q := let ⟨_, _, ⟨_, e⟩, _⟩ := x; ⟨_, e⟩
theorem PoolAt.nMt {P : Addr} (x : PoolAt h P) (k : Ok w B I h g) : ¬ Mt P := by
  obtain ⟨vs, ns, ⟨n, e⟩, _⟩ := x
  rintro (q | q)
  · exact k.ne1 e (by intro q; cases q) q
  · exact k.ne2 e (by intro q; cases q) q
theorem pop0 {P : Addr} {v : Value} {vs : List Value} {u : Tok} {Q : Value → Shared → Prop} (S : St w B M h₀ I₀ L m I h g) (hM : M P) (hP : MLst h P (v :: vs)) (hz : vs.length ≤ 100000) (hI : I P = none) (hPL : P ≠ L) (hn : ¬ Mt P)
    (hq : ∀ h', St w B M h₀ I₀ L m I h' g → (∀ b q, b ≠ P → h.get? b = some q → h'.get? b = some q) → MLst h' P vs → Q v ⟨h', g, d, t, o⟩) : wpAny (model PR w) A (call (.builtin "list.pop") [.ref P, .int 0 u]) Q E ⟨h, g, d, t, o⟩ := by
  obtain ⟨n, e⟩ := hP
  have big := sizeLine_big
  refine call_meets (s := ⟨h, g, d, t, o⟩) PySem.F.slot_list_pop ⟨_, e, rfl⟩ PySem.F.entry_list_pop (PySem.F.args_list_pop_2 _ _) (PySem.MeetsSeq.list_pop_at P _ n 0 u 0 v (by decide) (by simp [seqIndex?]) (by simp) (by rw [List.size_toArray, List.length_cons]; omega)) ⟨e, ?_⟩
  have q := PySem.IsL.update (h := h) (l := P) (items := (v :: vs).toArray) (n := n) e (fun xs => xs.eraseIdxIfInBounds 0)
  have kk : ∀ b q, b ≠ P → h.get? b = some q → (h.update P (Obj.mapSeq fun xs => xs.eraseIdxIfInBounds 0)).get? b = some q := fun b q hb eb => (Heap.get?_update_ne _ _ _ _ hb).trans eb
  have hml : MLst (h.update P (Obj.mapSeq fun xs => xs.eraseIdxIfInBounds 0)) P vs := by
    have e2 : (v :: vs).toArray.eraseIdxIfInBounds 0 = vs.toArray := by simp [Array.eraseIdxIfInBounds]
    rw [e2] at q
    exact ⟨_, q⟩
  exact hq _ (S.movedM P kk hI (fun z => hn (.inl z)) (fun z => hn (.inr z)) hPL hM (let ⟨n, e⟩ := hml; ⟨_, e⟩)) kk hml
theorem len_mlst {a : Addr} {xs : List Value} {Q : Value → Shared → Prop} (hl : MLst h a xs) (hz : xs.length ≤ 1000000) (hq : ∀ u t', Q (.int (xs.length : Int) u) ⟨h, g, d, t', o⟩) : wpAny (model PR w) A (call (.builtin "len") [.ref a]) Q E ⟨h, g, d, t, o⟩ :=
  call_len_list hl.is (by rw [List.size_toArray]; omega) (by rw [List.size_toArray]; exact hq _ _)
theorem pop_get {P : Addr} {xs : List Value} {pl : Sem Bool} {Q : Value × List Value → Shared → Prop} (hl : MLst h P xs) (hq : Q (.builtin "list.pop", [.ref P]) ⟨h, g, d, t, o⟩) : wpAny (model PR w) A (getMethod (.ref P) (Str.ofString "pop") pl) Q E ⟨h, g, d, t, o⟩ :=
  getMethod_list_of (s := ⟨h, g, d, t, o⟩) PySem.F.slot_list_pop PySem.F.type_list_pop hl.is (let ⟨_, e⟩ := hl; ⟨_, e, rfl⟩) hq
theorem ints_hd {v : Value} {vs : List Value} {ns : List Int} (x : IntsAre (v :: vs) ns) : ∃ a u ns', v = .int a u ∧ IntsAre vs ns' := by cases x; exact ⟨_, _, _, rfl, by assumption⟩
theorem fmod_lt (a : Int) (b : Int) (hb : 0 < b) : 0 ≤ a.fmod b ∧ a.fmod b < b := ⟨Int.fmod_nonneg_of_pos a hb, Int.fmod_lt_of_pos a hb⟩
/-- «pool.pop(0) % b» of a pool that holds one -/
theorem pop_mod {P : Addr} {b : Int} {px pa pc p0 p8 : Pos} {k0 k8 : Nat} {x : Str} {vs : List Value} {ns : List Int} {Q : Value → Shared → Prop} (S : St w B M h₀ I₀ L m I h g) (hM : M P) (hP : MLst h P vs) (hi : IntsAre vs ns) (hne : vs ≠ []) (hz : vs.length ≤ 64) (hI : I P = none) (hPL : P ≠ L) (hn : ¬ Mt P) (hb : 0 < b) {np : Str} (hnp : np = Str.ofString "pop")
    (hv : ∀ {Q' : Value → Shared → Prop}, Q' (.ref P) ⟨h, g, d, t, o⟩ → wpAny (model PR w) A (eval (.Name x px) env) Q' E ⟨h, g, d, t, o⟩) (pl : Sem Bool)
    (he : eval (.Call (.Attribute (.Name x px) np pa) [.Constant (.int 0) k0 p0] [] pc) env = (do
      let ov ← eval (.Name x px) env
      standAt pa.atName
      let (fm, first) ← holding [ov] (getMethod ov np pl)
      callWith pc fm first (backTo pc (starEach [.Constant (.int 0) k0 p0] env)) []))
    (hq : ∀ h' c u t' vs', St w B M h₀ I₀ L m I h' g → (∀ b q, b ≠ P → h.get? b = some q → h'.get? b = some q) → PoolAt h' P → MLst h' P vs' → vs'.length + 1 = vs.length → 0 ≤ c → c < b → Q (.int c u) ⟨h', g, d, t', o⟩) :
    wpAny (model PR w) A (eval (.Call (.Attribute (.Name x px) np pa) [.Constant (.int 0) k0 p0] [] pc) env) (fun a s₁ => wpAny (model PR w) A (eval (.Constant (.int b) k8 p8) env) (fun b' s₂ => wpAny (model PR w) A (binaryOp .Mod a b') Q E s₂) E s₁) E ⟨h, g, d, t, o⟩ := by
  subst hnp
  cases vs with
  | nil => exact absurd rfl hne
  | cons v vs =>
    obtain ⟨a, ua, ns', rfl, hi'⟩ := ints_hd hi
    refine MethodCall_ (pl := pl) (hv (pop_get hP ?_)) he
    walk_at "cwb"; walk_at "sts"
    refine pop0 S hM hP (by simp at hz; omega) hI hPL hn fun h' S' kk hP' => ?_
    walk_at "sts"
    refine PyProof.Rows.mod_int (by omega) ?_
    obtain ⟨c1, c2⟩ := fmod_lt a b hb
    exact hq _ _ _ _ vs S' kk ⟨vs, ns', hP', hi', by simp at hz; omega⟩ hP' rfl c1 c2

end
end Mine
namespace Mine
local macro_rules | `(tactic| walk_at "lk") => `(tactic| first | assumption | exact lk_hd (by decide +kernel) | exact lk_tl (by decide +kernel) (by assumption) | exact lk_tl (by decide +kernel) (lk_tl (by decide +kernel) (by assumption)) | exact lk_tl (by decide +kernel) (lk_hd (by decide +kernel)) | exact lk_tl (by decide +kernel) (lk_tl (by decide +kernel) (lk_hd (by decide +kernel))) | exact lk_tl (by decide +kernel) (lk_tl (by decide +kernel) (lk_tl (by decide +kernel) (lk_hd (by decide +kernel)))) | exact lk_tl (by decide +kernel) (lk_tl (by decide +kernel) (lk_tl (by decide +kernel) (lk_tl (by decide +kernel) (lk_hd (by decide +kernel))))))
local macro_rules | `(tactic| walk_at "ok") => `(tactic| first | assumption | exact St.ok (by assumption))
local macro_rules | `(tactic| walk_at "nm") => `(tactic| refine nm_loc (by assumption) rfl (by kernel_rfl) (by walk_at "lk") (by kernel_rfl) ?_)
local macro_rules | `(tactic| walk_at "s0") => `(tactic| refine sub0 (by walk_at "ok") (by assumption) (by with_unfolding_all rfl) ?_)
local macro_rules | `(tactic| walk_at "s1") => `(tactic| refine sub1 (by walk_at "ok") (by assumption) (by with_unfolding_all rfl) ?_)
local macro_rules | `(tactic| walk_at "eqt") => `(tactic| refine eq_str_is true (by kernel_rfl) ?_)
local macro_rules | `(tactic| walk_at "eqf") => `(tactic| refine eq_str_is false (by kernel_rfl) ?_)
local macro_rules | `(tactic| walk_at "st") => `(tactic| first
  | ((with_reducible show wpAny _ _ (eval (Expr.Constant (Const.str _) _ _) _) _ _ _); refine c_str ?_)
  | ((with_reducible show wpAny _ _ (eval (Expr.Constant (Const.int _) _ _) _) _ _ _); refine c_int ?_)
  | ((with_reducible show wpAny _ _ (eval (Expr.Constant (Const.bool _) _ _) _) _ _ _); refine wpAny_Constant_bool ?_)
  | ((with_reducible show wpAny _ _ (eval (Expr.Subscript _ (Expr.Constant _ _ _) _) _) _ _ _); refine Subscript_ ?_)
  | ((with_reducible show wpAny _ _ (eval (Expr.Compare _ _ _ _) _) _ _ _); refine wpAny_Compare1 ?_)
  | ((with_reducible show wpAny _ _ (eval (Expr.IfExp _ _ _ _) _) _ _ _); refine IfExp_ ?_)
  | ((with_reducible show wpAny _ _ (eval (Expr.Tuple _ _ _) _) _ _ _); refine Tuple_ ?_)
  | ((with_reducible show wpAny _ _ (eval (Expr.List _ _) _) _ _ _); refine List_ ?_)
  | ((with_reducible show wpAny _ _ (eval (Expr.BinOp _ _ _ _) _) _ _ _); refine wpAny_BinOp ?_)
  | ((with_reducible show wpAny _ _ (eval (Expr.UnaryOp _ _ _) _) _ _ _); refine UnaryOp_ ?_)
  | ((with_reducible show wpAny _ _ (isTrue (Expr.Compare _ _ _ _) _ _) _ _ _); refine wpAny_isTrue_Compare1 ?_)
  | ((with_reducible show wpAny _ _ (isTrue (Expr.UnaryOp UnaryOp.Not _ _) _ _) _ _ _); refine isTrue_not ?_)
  | ((with_reducible show wpAny _ _ (isTrue (Expr.BoolOp BoolOp.And (_ :: _) _) _ _) _ _ _); refine isTrue_and ?_)
  | ((with_reducible show wpAny _ _ (isTrue (Expr.BoolOp BoolOp.Or (_ :: _) _) _ _) _ _ _); refine isTrue_or ?_)
  | ((with_reducible show wpAny _ _ (isTrue (Expr.BoolOp BoolOp.Or [] _) _ _) _ _ _); refine isTrue_nil_or ?_)
  | ((with_reducible show wpAny _ _ (isTrue (Expr.BoolOp BoolOp.And [] _) _ _) _ _ _); refine isTrue_nil_and ?_)
  | ((with_reducible show wpAny _ _ (isTrue (Expr.Name _ _) _ _) _ _ _); refine isTrue_plain ?_)
  | ((with_reducible show wpAny _ _ (isTrue (Expr.Constant _ _ _) _ _) _ _ _); refine isTrue_plain ?_)
  | ((with_reducible show wpAny _ _ (isTrue (Expr.Call _ _ _ _) _ _) _ _ _); refine isTrue_plain ?_)
  | ((with_reducible show wpAny _ _ (isTrue (Expr.Attribute _ _ _) _ _) _ _ _); refine isTrue_plain ?_)
  | ((with_reducible show wpAny _ _ (unaryOp UnaryOp.Not _) _ _ _); refine not_of ?_)
  | ((with_reducible show wpAny _ _ (truthy (Value.bool _)) _ _ _); refine wpAny_truthy_bool ?_)
  | ((with_reducible show ite _ _ _); first | refine ite_t ?_ | refine ite_f ?_)
  | ((with_reducible show wpAny _ _ (execs (_ :: _) _) _ _ _); refine wpAny_execs_cons ?_)
  | ((with_reducible show wpAny _ _ (execs [] _) _ _ _); refine wpAny_execs_nil ?_)
  | ((with_reducible show wpAny _ _ (exec (Stmt.If _ _ _ _) _) _ _ _); refine wpAny_If ?_)
  | ((with_reducible show wpAny _ _ (exec (Stmt.Return (some _) _) _) _ _ _); refine wpAny_Return_some ?_)
  | ((with_reducible show wpAny _ _ (exec (Stmt.Assign [Expr.Attribute _ _ _] _ _) _) _ _ _); refine plainObj_wpAny_Assign_Attribute ?_)
  | ((with_reducible show wpAny _ _ (eval (Expr.Constant Const.none _ _) _) _ _ _); refine Constant_none ?_)
  | ((with_reducible show wpAny _ _ (spliced (backTo _ (starEach (_ :: _) _))) _ _ _); refine args_cons ?_)
  | ((with_reducible show wpAny _ _ (spliced (backTo _ (starEach [] _))) _ _ _); refine args_nil ?_))
local macro_rules | `(tactic| walk_at "sts") => `(tactic| repeat walk_at "st")
local macro_rules | `(tactic| walk_at "cw") => `(tactic| refine cw (by walk_at "ok") (by kernel_rfl) ?_ rfl rfl)
local macro_rules | `(tactic| walk_at "cwb") => `(tactic| refine cwb rfl ?_ rfl rfl)
local macro_rules | `(tactic| walk_at "mem") => `(tactic| simp [attrNames])
local macro_rules | `(tactic| walk_at "sl") => `(tactic| refine sub_lst (by walk_at "ok") (by assumption) (by decide) (by decide) rfl (by with_unfolding_all rfl) ?_)

section
variable {w : World} {B : Heap} {M : Addr → Prop} {h₀ : Heap} {I₀ I : Im} {L : Addr} {m : Str → Option Value} {h : Heap} {g : Array GenState} {d : Drawn} {t : Nat} {o : OsState} {A : Around} {E : Value → Shared → Prop} {env : Env}

theorem St.afterP {P : Addr} {h' : Heap} {I' : Im} {g' : Array GenState} (S : St w B (Mp P) h₀ I₀ L m I h g) (hPL : P ≠ L) (k : Ok w B I' h' g') (G : Grow (Mp P) h I h' I') : St w B (Mp P) h₀ I₀ L m I' h' g' :=
  S.called k G (fun _ z => .inl z) fun z => by
    rcases z with (z | z) | z
    · exact S.ne.1 z
    · exact S.ne.2 z
    · exact hPL z.symm
theorem new_lst' {vs : List Value} {Q : Value → Shared → Prop} (S : St w B M h₀ I₀ L m I h g) (hsz : vs.length ≤ 1000000)
    (hq : ∀ h' I', St w B M h₀ I₀ L m I' h' g → Ext h I h' I' → Lst I' h.objs.size vs → Q (.ref h.objs.size) ⟨h', g, d, t, o⟩) : wpAny (model PR w) A (newList vs) Q E ⟨h, g, d, t, o⟩ :=
  wpAny_newObj_type (hq _ _ (S.new _ rfl) (Ext.grown (fun _ _ e => Heap.get?_push_of_some _ e) S.ok.none_size) ⟨_, Im.up_self⟩) (by show vs.toArray.size ≤ sizeLine; rw [List.size_toArray]; exact Nat.le_trans hsz sizeLine_big)
theorem new_tup' {vs : List Value} {Q : Value → Shared → Prop} (S : St w B M h₀ I₀ L m I h g) (hsz : vs.length ≤ 1000000)
    (hq : ∀ h' I', St w B M h₀ I₀ L m I' h' g → Ext h I h' I' → Tup I' h.objs.size vs → Q (.ref h.objs.size) ⟨h', g, d, t, o⟩) : wpAny (model PR w) A (newTuple vs) Q E ⟨h, g, d, t, o⟩ :=
  wpAny_newObj_type (hq _ _ (S.new _ rfl) (Ext.grown (fun _ _ e => Heap.get?_push_of_some _ e) S.ok.none_size) ⟨_, Im.up_self⟩) (by show vs.toArray.size ≤ sizeLine; rw [List.size_toArray]; exact Nat.le_trans hsz sizeLine_big)
theorem tup_of_lst' {a : Addr} {xs : List Value} {Q : Value → Shared → Prop} (S : St w B M h₀ I₀ L m I h g) (ha : Lst I a xs) (hsz : xs.length ≤ 1000000)
    (hq : ∀ h' I' D, St w B M h₀ I₀ L m I' h' g → Ext h I h' I' → Tup I' D xs → Q (.ref D) ⟨h', g, d, t, o⟩) : wpAny (model PR w) A (call (.type "tuple") [.ref a]) Q E ⟨h, g, d, t, o⟩ := by
  refine call_tuple_list (ha.is S.ok) (fun h' hk => ?_) (by rw [List.size_toArray]; exact Nat.le_trans hsz sizeLine_big)
  have S1 := S.grown hk
  exact hq _ _ _ (S1.new _ rfl) ((Ext.keep hk).trans (Ext.grown (fun _ _ e => Heap.get?_push_of_some _ e) S1.ok.none_size)) ⟨_, Im.up_self⟩
theorem Ext.pool {P : Addr} {h' : Heap} {I' : Im} (e : Ext h I h' I') (hI : I P = none) (hp : PoolAt h P) : I' P = none ∧ PoolAt h' P := by
  obtain ⟨q, pe⟩ := hp.ex
  refine ⟨?_, hp.at fun q e' => e.kp _ _ id e'⟩
  cases z : I' P with
  | none => rfl
  | some o' => have := e.fresh P q o' id pe z; rw [hI] at this; cases this
theorem strs_at {a : Addr} {l : List Value} {j : Int} (_ : Lst I a l) (hl : (l.all fun v => (nameOf v).isSome) = true) (hj : j.toNat < l.length) : ∃ sx tx, l[j.toNat]? = some (.str sx tx) := by
  have h1 := List.all_eq_true.mp hl l[j.toNat] (List.getElem_mem hj)
  rw [List.getElem?_eq_getElem hj]
  generalize l[j.toNat] = v at h1
  cases v <;> simp only [nameOf, Option.isSome_none, Option.isSome_some, Bool.false_eq_true] at h1
  exact ⟨_, _, rfl⟩
theorem each_of {N : Nat} : ∀ {ys : List Value}, (∀ (j : Nat) u, ys[j]? = some u → ∃ x, T.h x ≤ N ∧ TIn I x u) → ∃ ts, Each (TIn I) ts ys ∧ ∀ x ∈ ts, T.h x ≤ N
  | [], _ => ⟨[], .nil, by simp⟩
  | y :: ys, h => by
    obtain ⟨x, hx1, hx2⟩ := h 0 y (by simp)
    obtain ⟨ts, he, hl⟩ := each_of (ys := ys) fun j u e => h (j + 1) u (by simpa using e)
    exact ⟨x :: ts, .cons hx2 he, fun z hz => by
      rcases List.mem_cons.mp hz with rfl | hz
      · exact hx1
      · exact hl z hz⟩
theorem mkOp_h {k : Bool} {ts : List T} {N : Nat} (hl : ts.length = 2 ∨ ts.length = 3) (h : ∀ x ∈ ts, T.h x ≤ N) : (mkOp k ts).h ≤ N + 1 := by
  rcases ts with _ | ⟨a, _ | ⟨b, _ | ⟨c, _ | _⟩⟩⟩ <;> first | (exfalso; simp at hl; done) | skip
  · have h1 := h a (by simp); have h2 := h b (by simp); simp only [mkOp, T.h]; omega
  · have h1 := h a (by simp); have h2 := h b (by simp); have h3 := h c (by simp); simp only [mkOp, T.h]; omega
theorem tree_step (n : Nat) (ih : ∀ m, n = m + 1 → ∀ {A : Around} {I : Im} {h : Heap} {g : Array GenState} {tk : Nat} {P : Addr} {z : Int} {u : Tok} {Q : Value → Shared → Prop} {E : Value → Shared → Prop},
    Ok w B I h g → Room A (m + 2) → z = (m : Int) → I P = none → PoolAt h P →
    (∀ x r I' h' g' t', x.h ≤ m + 1 → Ok w B I' h' g' → Grow (Mp P) h I h' I' → I' P = none → PoolAt h' P → TIn I' x r → Q r ⟨h', g', d, t', o⟩) →
    wpAny (model PR w) A (call (.ref 610) [.ref P, .int z u]) Q E ⟨h, g, d, tk, o⟩) {A : Around} {I : Im} {h : Heap} {g : Array GenState} {tk : Nat} {P : Addr} {z : Int} {u : Tok} {Q : Value → Shared → Prop} {E : Value → Shared → Prop}
    (k : Ok w B I h g) (R : Room A (n + 2)) (hz : z = (n : Int)) (hI : I P = none) (hpool : PoolAt h P)
    (hQ : ∀ x r I' h' g' t', x.h ≤ n + 1 → Ok w B I' h' g' → Grow (Mp P) h I h' I' → I' P = none → PoolAt h' P → TIn I' x r → Q r ⟨h', g', d, t', o⟩) :
    wpAny (model PR w) A (call (.ref 610) [.ref P, .int z u]) Q E ⟨h, g, d, tk, o⟩ := by
  have nMt := hpool.nMt k
  refine enter1 [(n_pool, .ref P), (n_depth, .int z u)] [] [(n_depth, h.objs.size + 2), (n_pool, h.objs.size + 1)] (fun _ => False) k rfl (by kernel_rfl) R.d (by kernel_rfl) (by kernel_rfl) rfl (by kernel_rfl) (by decide +kernel) rfl rfl rfl fun h₁ t₁ I₁ E' S0 hle hcl => ?_
  obtain ⟨q1, hc1, hd1⟩ := hcl n_pool (h.objs.size + 1) (by kernel_rfl)
  replace hd1 : q1.data = .cell (some (.ref P)) := hd1.trans (by kernel_rfl)
  obtain ⟨q2, hc2, hd2⟩ := hcl n_depth (h.objs.size + 2) (by kernel_rfl)
  replace hd2 : q2.data = .cell (some (.int z u)) := hd2.trans (by kernel_rfl)
  have hM : Mp P P := .inr rfl
  have hPL : P ≠ h.objs.size := let ⟨_, e⟩ := hpool.ex; Nat.ne_of_lt (Heap.lt_size e)
  obtain ⟨pq, pe⟩ := hpool.ex
  have hI1 : I₁ P = none := by
    cases q : I₁ P with
    | none => rfl
    | some o' => have := S0.G.fresh P pq o' id pe q; rw [hI] at this; cases this
  have hpool1 : PoolAt h₁ P := hpool.at fun q e => S0.G.kp _ _ id e
  have S : St w B (Mp P) h I h.objs.size (fun z => List.lookup z []) I₁ h₁ g := S0.mono fun _ z => z.elim
  walk_at "sts"
  refine wpAny_Assign_Name (wpAny_mono (Q := fun v s => ∃ kd u' h' t', v = .int kd u' ∧ 0 ≤ kd ∧ kd < 8 ∧ s = ⟨h', g, d, t', o⟩ ∧ St w B (Mp P) h I h.objs.size (fun z => List.lookup z []) I₁ h' g ∧ PoolAt h' P) ?_ (fun v s hzz => ?_) fun _ _ e => e)
  · obtain ⟨vs, ns, hP, hi, hlen⟩ := hpool1
    walk_at "sts"
    refine Call_ ?_
    refine nm_boot (v := .builtin "len") S.ok rfl (by kernel_rfl) rfl rfl (by kernel_rfl) (by kernel_rfl) (by decide +kernel) (by kernel_rfl) ?_
    walk_at "cwb"; walk_at "sts"
    refine nm_cell S.ok rfl (by kernel_rfl) (by kernel_rfl) hc1 hd1 (by kernel_rfl) ?_
    walk_at "sts"
    refine len_mlst hP (by omega) fun _ t2 => ?_
    walk_at "sts"
    refine PyProof.Rows.gt_int ?_
    walk_at "sts"
    cases hv : vs with
    | nil =>
      subst hv
      show wpAny _ _ _ _ _ _
      walk_at "sts"
      exact ⟨0, _, _, _, rfl, by decide, by decide, rfl, S, ⟨[], ns, hP, hi, by simp⟩⟩
    | cons v vs' =>
      have hpos : decide ((0 : Int) < (((v :: vs').length : Nat) : Int)) = true := by simp
      rw [hpos]
      walk_at "sts"
      refine pop_mod (b := 8) S hM hP hi (by rw [hv]; simp) (by omega) hI1 hPL nMt (by decide) (by kernel_rfl) (fun {Q'} hq => nm_cell S.ok rfl (by kernel_rfl) (by kernel_rfl) hc1 hd1 (by kernel_rfl) hq) _ (by exact rfl) fun h' c uc t' vs'' S' kk hp' _ _ c1 c2 => ?_
      exact ⟨c, _, h', _, rfl, c1, c2, rfl, S', hp'⟩
  obtain ⟨kd, uk, h2, t2, rfl, kd0, kd8, rfl, S2, hpool2⟩ := hzz
  refine put S2 (by kernel_rfl) rfl fun h3 S3 k3 => ?_
  have hpool3 : PoolAt h3 P := hpool2.at fun q e => k3 _ _ hPL e
  obtain ⟨vs, ns, hP, hi, hlen⟩ := hpool3
  refine wpAny_execs_cons (wpAny_If (wpAny_mono (Q := fun b s => ∃ t', s = ⟨h3, g, d, t', o⟩ ∧ (b = false → n ≠ 0 ∧ 2 ≤ kd ∧ 2 ≤ vs.length)) ?_ (fun b s hzz => ?_) fun _ _ e => e))
  · walk_at "sts"
    refine nm_cell S3.ok rfl (by kernel_rfl) (by kernel_rfl) hc2 hd2 (by kernel_rfl) ?_
    walk_at "sts"
    refine eq_int_is (z == 0) rfl ?_
    walk_at "sts"
    cases hz0 : z == 0 with
    | true => walk_at "sts"; exact ⟨_, rfl, fun e => by cases e⟩
    | false =>
      walk_at "sts"; walk_at "nm"; walk_at "sts"
      refine PyProof.Rows.lt_int ?_
      walk_at "sts"
      cases hk2 : decide (kd < 2) with
      | true => walk_at "sts"; exact ⟨_, rfl, fun e => by cases e⟩
      | false =>
        walk_at "sts"
        refine Call_ ?_
        refine nm_boot (v := .builtin "len") S3.ok rfl (by kernel_rfl) rfl rfl (by kernel_rfl) (by kernel_rfl) (by decide +kernel) (by kernel_rfl) ?_
        walk_at "cwb"; walk_at "sts"
        refine nm_cell S3.ok rfl (by kernel_rfl) (by kernel_rfl) hc1 hd1 (by kernel_rfl) ?_
        walk_at "sts"
        refine len_mlst hP (by omega) fun _ t4 => ?_
        walk_at "sts"
        refine PyProof.Rows.lt_int ?_
        walk_at "sts"
        cases hl2 : decide (((vs.length : Nat) : Int) < 2) with
        | true => walk_at "sts"; exact ⟨_, rfl, fun e => by cases e⟩
        | false =>
          walk_at "sts"
          refine ⟨_, rfl, fun _ => ⟨fun e => ?_, ?_, ?_⟩⟩
          · subst e; subst hz; cases hz0
          · have := of_decide_eq_false hk2; omega
          · have := of_decide_eq_false hl2; omega
  obtain ⟨t4, rfl, hb⟩ := hzz
  cases b with
  | true =>
    walk_at "sts"
    refine Subscript_ ?_
    walk_at "sts"
    refine new_lst' S3 (by simp) fun h5 I5 S5 G5 ht5 => ?_
    obtain ⟨hI5, hpool5⟩ := G5.pool hI1 ⟨vs, ns, hP, hi, hlen⟩
    refine wpAny_mono (Q := fun v s => ∃ j uj h' t', v = .int j uj ∧ 0 ≤ j ∧ j < 6 ∧ s = ⟨h', g, d, t', o⟩ ∧ St w B (Mp P) h I h.objs.size (fun z => List.lookup z [(n_kind, .int kd uk)]) I5 h' g ∧ PoolAt h' P) ?_ (fun v s hzz => ?_) fun _ _ e => e
    · obtain ⟨vs, ns, hP, hi, hlen⟩ := hpool5
      walk_at "sts"
      refine Call_ ?_
      refine nm_boot (v := .builtin "len") S5.ok rfl (by kernel_rfl) rfl rfl (by kernel_rfl) (by kernel_rfl) (by decide +kernel) (by kernel_rfl) ?_
      walk_at "cwb"; walk_at "sts"
      refine nm_cell S5.ok rfl (by kernel_rfl) (by kernel_rfl) (G5.le _ _ hc1) hd1 (by kernel_rfl) ?_
      walk_at "sts"
      refine len_mlst hP (by omega) fun _ t2 => ?_
      walk_at "sts"
      refine PyProof.Rows.gt_int ?_
      walk_at "sts"
      cases hv : vs with
      | nil =>
        subst hv
        show wpAny _ _ _ _ _ _
        walk_at "sts"
        exact ⟨0, _, _, _, rfl, by decide, by decide, rfl, S5, ⟨[], ns, hP, hi, by simp⟩⟩
      | cons v vs' =>
        have hpos : decide ((0 : Int) < (((v :: vs').length : Nat) : Int)) = true := by simp
        rw [hpos]
        walk_at "sts"
        refine pop_mod (b := 6) S5 hM hP hi (by rw [hv]; simp) (by omega) hI5 hPL nMt (by decide) (by kernel_rfl) (fun {Q'} hq => nm_cell S5.ok rfl (by kernel_rfl) (by kernel_rfl) (G5.le _ _ hc1) hd1 (by kernel_rfl) hq) _ (by exact rfl) fun h' c uc t' vs'' S' kk hp' _ _ c1 c2 => ?_
        exact ⟨c, _, h', _, rfl, c1, c2, rfl, S', hp'⟩
    · obtain ⟨j, uj, h6, t6, rfl, j0, j6, rfl, S6, hpool6⟩ := hzz
      obtain ⟨sx, tx, hj⟩ := strs_at (j := j) ht5 (by kernel_rfl) (by simp; omega)
      refine sub_lst S6.ok ht5 j0 (by omega) hj (by with_unfolding_all rfl) ?_
      walk_at "sts"
      refine new_tup' S6 (by simp) fun h7 I7 S7 G7 ht7 => ?_
      obtain ⟨hI7, hpool7⟩ := G7.pool hI5 hpool6
      exact hQ (.sym sx) _ _ _ _ _ (by simp [T.h]) S7.ok S7.G hI7 hpool7 ⟨_, _, _, rfl, ht7⟩
  | false =>
    obtain ⟨hn0, hk2, hv2⟩ := hb rfl
    obtain ⟨m, rfl⟩ : ∃ m, n = m + 1 := ⟨n - 1, by omega⟩
    have hvn : vs ≠ [] := by rintro rfl; simp at hv2
    have hlk : List.lookup n_kind [(n_kind, Value.int kd uk)] = some (.int kd uk) := lk_hd (by decide +kernel)
    walk_at "sts"; walk_at "nm"; walk_at "sts"
    refine eq_int_is (kd == 2) rfl ?_
    walk_at "sts"
    cases hq2 : kd == 2 with
    | true =>
      walk_at "sts"
      refine Subscript_ ?_
      walk_at "sts"
      refine new_tup' S3 (by simp) fun h5 I5 S5 G5 ht5 => ?_
      walk_at "sts"
      refine new_tup' S5 (by simp) fun h6 I6 S6 G6 ht6 => ?_
      walk_at "sts"
      refine new_lst' S6 (by simp) fun h7 I7 S7 G7 ht7 => ?_
      have G : Ext _ _ _ _ := (G5.trans G6).trans G7
      obtain ⟨hI7, hpool7⟩ := Ext.pool G hI1 ⟨vs, ns, hP, hi, hlen⟩
      walk_at "sts"
      refine pop_mod (b := 2) S7 hM (hP.at fun q e => G.kp _ _ id e) hi hvn (by omega) hI7 hPL nMt (by decide) (by kernel_rfl) (fun {Q'} hq => nm_cell S7.ok rfl (by kernel_rfl) (by kernel_rfl) (G.le _ _ hc1) hd1 (by kernel_rfl) hq) _ (by exact rfl) fun h' c uc t' vs'' S' kk hp' _ _ c1 c2 => ?_
      have : c = 0 ∨ c = 1 := by omega
      rcases this with rfl | rfl
      · refine sub_lst S'.ok ht7 (by decide) (by decide) rfl (by with_unfolding_all rfl) ?_
        exact hQ (.con true) _ _ _ _ _ (by simp [T.h]) S'.ok S'.G hI7 hp' ⟨_, _, rfl, (ht5.le G6.le).le G7.le⟩
      · refine sub_lst S'.ok ht7 (by decide) (by decide) rfl (by with_unfolding_all rfl) ?_
        exact hQ (.con false) _ _ _ _ _ (by simp [T.h]) S'.ok S'.G hI7 hp' ⟨_, _, rfl, ht6.le G7.le⟩
    | false =>
      walk_at "sts"; walk_at "nm"; walk_at "sts"
      refine eq_int_is (kd == 3) rfl ?_
      walk_at "sts"
      cases hq3 : kd == 3 with
      | true =>
        walk_at "sts"
        refine Call_ ?_
        refine nm_glob (v := .ref 610) S3.ok rfl (by kernel_rfl) rfl (by kernel_rfl) (by kernel_rfl) ?_
        walk_at "cw"; walk_at "sts"
        refine nm_cell S3.ok rfl (by kernel_rfl) (by kernel_rfl) hc1 hd1 (by kernel_rfl) ?_
        walk_at "sts"
        refine nm_cell S3.ok rfl (by kernel_rfl) (by kernel_rfl) hc2 hd2 (by kernel_rfl) ?_
        walk_at "sts"
        refine PyProof.Rows.sub_int' ?_
        walk_at "sts"
        refine ⟨S3.ok.X, ih m rfl S3.ok (R.deeper _) (by omega) hI1 ⟨vs, ns, hP, hi, hlen⟩ fun x r I5 h5 g5 t5 hx k5 G5 hI5 hp5 hT => ?_⟩
        have S5 := S3.afterP hPL k5 G5
        walk_at "sts"
        refine new_tup' S5 (by simp) fun h7 I7 S7 G7 ht7 => ?_
        obtain ⟨hI7, hpool7⟩ := G7.pool hI5 hp5
        exact hQ (.not x) _ _ _ _ _ (by simp only [T.h]; omega) S7.ok S7.G hI7 hpool7 ⟨_, _, _, rfl, ht7, hT.le G7.le⟩
      | false =>
        walk_at "sts"
        refine comp_rng (B := B) (d := d) (o := o) (cl := [(n_pool, h.objs.size + 1), (n_depth, h.objs.size + 2)]) (M₀ := Mp P) (h₀ := h) (I₀ := I) rfl R.hh rfl (by decide) rfl (by decide) (by kernel_rfl) (by kernel_rfl) rfl (fun _ => rfl) ?_
        refine Call_ ?_
        refine nm_boot (v := .type "range") S3.ok rfl (by kernel_rfl) rfl rfl (by kernel_rfl) (by kernel_rfl) (by decide +kernel) (by kernel_rfl) ?_
        walk_at "cwb"; walk_at "sts"
        refine pop_mod (b := 2) S3 hM hP hi hvn (by omega) hI1 hPL nMt (by decide) (by kernel_rfl) (fun {Q'} hq => nm_cell S3.ok rfl (by kernel_rfl) (by kernel_rfl) hc1 hd1 (by kernel_rfl) hq) _ (by exact rfl) fun h5 c uc t5 vs5 S5 kk5 hp5 _ _ c1 c2 => ?_
        obtain ⟨cn, rfl⟩ : ∃ cn : Nat, c = (cn : Int) := ⟨c.toNat, by omega⟩
        refine PyProof.Rows.add_int ?_
        walk_at "sts"
        refine call_range_1 ?_
        have S6 := S5.push { cls := .type "range", data := .fields #[.int 0 (t5 + 1), .int (2 + (cn : Int)) t5, .int 1 (t5 + 1 + 1)] }
        have hp6 := hp5.at (h' := h5.push { cls := .type "range", data := .fields #[.int 0 (t5 + 1), .int (2 + (cn : Int)) t5, .int 1 (t5 + 1 + 1)] }) fun q e => Heap.get?_push_of_some _ e
        refine ⟨h5.objs.size, 2 + cn, _, _, _, I₁, _, g, _, _, Mp P, fun _ J y => ∃ x, T.h x ≤ m + 1 ∧ TIn J x y, fun J hh => J P = none ∧ PoolAt hh P, rfl, rfl, (by rw [show ((2 + cn : Nat) : Int) = 2 + (cn : Int) by omega]; exact IsRange.new ..), by omega, S6,
          fun a z => z.elim (S6.ok.hM a) (fun z => z ▸ hp6.ex), fun i J J' y hl z => let ⟨x, a, b⟩ := z; ⟨x, a, b.le hl⟩, fun J h1 h2 hk z => ⟨z.1, z.2.at fun q e => hk _ _ hPL hp6.ex e⟩, fun J D q h' hD z => ⟨by rw [Im.up_ne (fun e => by obtain ⟨q', e'⟩ := hp6.ex; rw [e, hD] at e'; cases e')]; exact z.1, z.2⟩, ⟨hI1, hp6⟩, ?_, fun _ z => .inl z, fun z => ?_, fun D7 h7 I7 g7 t7 ys S7 hle7 hl7 hlen7 hr7 hV7 => ?_⟩
        · intro i C mm I' h' g' t' Q' E' hii S' hV hK
          refine Call_ ?_
          refine nm_glob (v := .ref 610) S'.ok rfl (by kernel_rfl) rfl (by kernel_rfl) (by kernel_rfl) ?_
          walk_at "cw"; walk_at "sts"
          refine nm_cell S'.ok rfl (by kernel_rfl) (by kernel_rfl) (S'.G.le _ _ hc1) hd1 (by kernel_rfl) ?_
          walk_at "sts"
          refine nm_cell S'.ok rfl (by kernel_rfl) (by kernel_rfl) (S'.G.le _ _ hc2) hd2 (by kernel_rfl) ?_
          walk_at "sts"
          refine PyProof.Rows.sub_int' ?_
          walk_at "sts"
          refine ⟨S'.ok.X, ih m rfl S'.ok (R.deeper _) (by omega) hV.1 hV.2 fun x r I8 h8 g8 t8 hx k8 G8 hI8 hp8 hT => ?_⟩
          exact hK _ _ _ _ _ k8 G8 ⟨hI8, hp8⟩ ⟨x, hx, hT⟩
        · rcases z with (z | z) | z
          · exact S6.ne.1 z
          · exact S6.ne.2 z
          · exact hPL z.symm
        · obtain ⟨ts, hts, hth⟩ := each_of hr7
          have htl : ts.length = 2 ∨ ts.length = 3 := by rw [← hts.1, hlen7]; omega
          walk_at "sts"
          refine Call_ ?_
          refine nm_boot (v := .type "tuple") S7.ok rfl (by kernel_rfl) rfl rfl (by kernel_rfl) (by kernel_rfl) (by decide +kernel) (by kernel_rfl) ?_
          walk_at "cwb"; walk_at "sts"
          refine Subscript_ ?_
          walk_at "sts"
          refine new_lst' S7 (by simp) fun h8 I8 S8 G8 ht8 => ?_
          walk_at "sts"; walk_at "nm"; walk_at "sts"
          refine PyProof.Rows.mod_int (by decide) ?_
          obtain ⟨f0, f2⟩ := fmod_lt kd 2 (by decide)
          have hw : ∃ kk tk', ∀ {Q'' : Value → Shared → Prop} {A'' : Around} {t'' : Nat} {E'' : Value → Shared → Prop} {u'' : Tok} {value slice : Expr}, subscripted slice false (.ref h7.objs.size) (.int (kd.fmod 2) u'') = operate [.ref h7.objs.size, .int (kd.fmod 2) u''] (getItem (.ref h7.objs.size) (.int (kd.fmod 2) u'')) → Q'' (.str (opw kk) tk') ⟨h8, g7, d, t'', o⟩ →
              wpAny (model PR w) A'' (subscriptTail value slice (.ref h7.objs.size) (.int (kd.fmod 2) u'')) Q'' E'' ⟨h8, g7, d, t'', o⟩ := by
            have : kd.fmod 2 = 0 ∨ kd.fmod 2 = 1 := by omega
            rcases this with e | e
            · rw [e]; exact ⟨false, _, fun {Q'' A'' t'' E'' u'' value slice} hs'' hq'' => sub_lst S8.ok ht8 (by decide) (by decide) rfl hs'' hq''⟩
            · rw [e]; exact ⟨true, _, fun {Q'' A'' t'' E'' u'' value slice} hs'' hq'' => sub_lst S8.ok ht8 (by decide) (by decide) rfl hs'' hq''⟩
          obtain ⟨kk, tk', hw⟩ := hw
          refine hw (by with_unfolding_all rfl) ?_
          walk_at "sts"
          refine new_lst' S8 (by simp) fun h9 I9 S9 G9 ht9 => ?_
          walk_at "nm"
          refine add_lst' S9 ht9 ((hl7.le G8.le).le G9.le) (by simp [hlen7]; omega) fun ha Ia Da Sa Ga hta => ?_
          walk_at "sts"
          refine tup_of_lst' Sa hta (by simp [hlen7]; omega) fun hb Ib Db Sb Gb htb => ?_
          have G : Ext _ _ _ _ := ((G8.trans G9).trans Ga).trans Gb
          obtain ⟨hIb, hpb⟩ := Ext.pool G hV7.1 hV7.2
          exact hQ (mkOp kk ts) _ _ _ _ _ (mkOp_h htl hth) Sb.ok Sb.G hIb hpb (.mk (mkOp_op htl) htb (hts.le fun _ _ z => z.le G.le))
theorem tree_call (n : Nat) : ∀ {A : Around} {I : Im} {h : Heap} {g : Array GenState} {tk : Nat} {P : Addr} {z : Int} {u : Tok} {Q : Value → Shared → Prop} {E : Value → Shared → Prop},
    Ok w B I h g → Room A (n + 2) → z = (n : Int) → I P = none → PoolAt h P →
    (∀ x r I' h' g' t', x.h ≤ n + 1 → Ok w B I' h' g' → Grow (Mp P) h I h' I' → I' P = none → PoolAt h' P → TIn I' x r → Q r ⟨h', g', d, t', o⟩) →
    wpAny (model PR w) A (call (.ref 610) [.ref P, .int z u]) Q E ⟨h, g, d, tk, o⟩ := by
  induction n with
  | zero => exact fun k R hz hI hp hQ => tree_step 0 (fun m e => by omega) k R hz hI hp hQ
  | succ n ih => exact fun k R hz hI hp hQ => tree_step (n + 1) (by intro m e; have e' : n = m := Nat.succ.inj e; subst e'; intro A I h g tk P z u Q E; exact ih) k R hz hI hp hQ

end
end Mine
namespace Mine
local macro_rules | `(tactic| walk_at "lk") => `(tactic| first | assumption | exact lk_hd (by decide +kernel) | exact lk_tl (by decide +kernel) (by assumption) | exact lk_tl (by decide +kernel) (lk_tl (by decide +kernel) (by assumption)) | exact lk_tl (by decide +kernel) (lk_hd (by decide +kernel)) | exact lk_tl (by decide +kernel) (lk_tl (by decide +kernel) (lk_hd (by decide +kernel))) | exact lk_tl (by decide +kernel) (lk_tl (by decide +kernel) (lk_tl (by decide +kernel) (lk_hd (by decide +kernel)))) | exact lk_tl (by decide +kernel) (lk_tl (by decide +kernel) (lk_tl (by decide +kernel) (lk_tl (by decide +kernel) (lk_hd (by decide +kernel))))))
local macro_rules | `(tactic| walk_at "ok") => `(tactic| first | assumption | exact St.ok (by assumption))
local macro_rules | `(tactic| walk_at "nm") => `(tactic| refine nm_loc (by assumption) rfl (by kernel_rfl) (by walk_at "lk") (by kernel_rfl) ?_)
local macro_rules | `(tactic| walk_at "s0") => `(tactic| refine sub0 (by walk_at "ok") (by assumption) (by with_unfolding_all rfl) ?_)
local macro_rules | `(tactic| walk_at "s1") => `(tactic| refine sub1 (by walk_at "ok") (by assumption) (by with_unfolding_all rfl) ?_)
local macro_rules | `(tactic| walk_at "eqt") => `(tactic| refine eq_str_is true (by kernel_rfl) ?_)
local macro_rules | `(tactic| walk_at "eqf") => `(tactic| refine eq_str_is false (by kernel_rfl) ?_)
local macro_rules | `(tactic| walk_at "st") => `(tactic| first
  | ((with_reducible show wpAny _ _ (eval (Expr.Constant (Const.str _) _ _) _) _ _ _); refine c_str ?_)
  | ((with_reducible show wpAny _ _ (eval (Expr.Constant (Const.int _) _ _) _) _ _ _); refine c_int ?_)
  | ((with_reducible show wpAny _ _ (eval (Expr.Constant (Const.bool _) _ _) _) _ _ _); refine wpAny_Constant_bool ?_)
  | ((with_reducible show wpAny _ _ (eval (Expr.Subscript _ (Expr.Constant _ _ _) _) _) _ _ _); refine Subscript_ ?_)
  | ((with_reducible show wpAny _ _ (eval (Expr.Compare _ _ _ _) _) _ _ _); refine wpAny_Compare1 ?_)
  | ((with_reducible show wpAny _ _ (eval (Expr.IfExp _ _ _ _) _) _ _ _); refine IfExp_ ?_)
  | ((with_reducible show wpAny _ _ (eval (Expr.Tuple _ _ _) _) _ _ _); refine Tuple_ ?_)
  | ((with_reducible show wpAny _ _ (eval (Expr.List _ _) _) _ _ _); refine List_ ?_)
  | ((with_reducible show wpAny _ _ (eval (Expr.BinOp _ _ _ _) _) _ _ _); refine wpAny_BinOp ?_)
  | ((with_reducible show wpAny _ _ (eval (Expr.UnaryOp _ _ _) _) _ _ _); refine UnaryOp_ ?_)
  | ((with_reducible show wpAny _ _ (isTrue (Expr.Compare _ _ _ _) _ _) _ _ _); refine wpAny_isTrue_Compare1 ?_)
  | ((with_reducible show wpAny _ _ (isTrue (Expr.UnaryOp UnaryOp.Not _ _) _ _) _ _ _); refine isTrue_not ?_)
  | ((with_reducible show wpAny _ _ (isTrue (Expr.BoolOp BoolOp.And (_ :: _) _) _ _) _ _ _); refine isTrue_and ?_)
  | ((with_reducible show wpAny _ _ (isTrue (Expr.BoolOp BoolOp.Or (_ :: _) _) _ _) _ _ _); refine isTrue_or ?_)
  | ((with_reducible show wpAny _ _ (isTrue (Expr.BoolOp BoolOp.Or [] _) _ _) _ _ _); refine isTrue_nil_or ?_)
  | ((with_reducible show wpAny _ _ (isTrue (Expr.BoolOp BoolOp.And [] _) _ _) _ _ _); refine isTrue_nil_and ?_)
  | ((with_reducible show wpAny _ _ (isTrue (Expr.Name _ _) _ _) _ _ _); refine isTrue_plain ?_)
  | ((with_reducible show wpAny _ _ (isTrue (Expr.Constant _ _ _) _ _) _ _ _); refine isTrue_plain ?_)
  | ((with_reducible show wpAny _ _ (isTrue (Expr.Call _ _ _ _) _ _) _ _ _); refine isTrue_plain ?_)
  | ((with_reducible show wpAny _ _ (isTrue (Expr.Attribute _ _ _) _ _) _ _ _); refine isTrue_plain ?_)
  | ((with_reducible show wpAny _ _ (unaryOp UnaryOp.Not _) _ _ _); refine not_of ?_)
  | ((with_reducible show wpAny _ _ (truthy (Value.bool _)) _ _ _); refine wpAny_truthy_bool ?_)
  | ((with_reducible show ite _ _ _); first | refine ite_t ?_ | refine ite_f ?_)
  | ((with_reducible show wpAny _ _ (execs (_ :: _) _) _ _ _); refine wpAny_execs_cons ?_)
  | ((with_reducible show wpAny _ _ (execs [] _) _ _ _); refine wpAny_execs_nil ?_)
  | ((with_reducible show wpAny _ _ (exec (Stmt.If _ _ _ _) _) _ _ _); refine wpAny_If ?_)
  | ((with_reducible show wpAny _ _ (exec (Stmt.Return (some _) _) _) _ _ _); refine wpAny_Return_some ?_)
  | ((with_reducible show wpAny _ _ (exec (Stmt.Assign [Expr.Attribute _ _ _] _ _) _) _ _ _); refine plainObj_wpAny_Assign_Attribute ?_)
  | ((with_reducible show wpAny _ _ (eval (Expr.Constant Const.none _ _) _) _ _ _); refine Constant_none ?_)
  | ((with_reducible show wpAny _ _ (spliced (backTo _ (starEach (_ :: _) _))) _ _ _); refine args_cons ?_)
  | ((with_reducible show wpAny _ _ (spliced (backTo _ (starEach [] _))) _ _ _); refine args_nil ?_))
local macro_rules | `(tactic| walk_at "sts") => `(tactic| repeat walk_at "st")
local macro_rules | `(tactic| walk_at "cw") => `(tactic| refine cw (by walk_at "ok") (by kernel_rfl) ?_ rfl rfl)
local macro_rules | `(tactic| walk_at "cwb") => `(tactic| refine cwb rfl ?_ rfl rfl)
local macro_rules | `(tactic| walk_at "mem") => `(tactic| simp [attrNames])
local macro_rules | `(tactic| walk_at "sl") => `(tactic| refine sub_lst (by walk_at "ok") (by assumption) (by decide) (by decide) rfl (by with_unfolding_all rfl) ?_)

section
variable {w : World} {B : Heap} {M : Addr → Prop} {h₀ : Heap} {I₀ I : Im} {L : Addr} {m : Str → Option Value} {h : Heap} {g : Array GenState} {d : Drawn} {t : Nat} {o : OsState} {A : Around} {E : Value → Shared → Prop} {env : Env}

open PySem.SeqAt
theorem eq_str_at {s : Shared} (x : Str) (t u : Tok) : EqAt A s (.str x t) (.str x u) true := by
  have := (PySem.SeqRoads2.EqGives.str x x t u).at A s
  rwa [beq_self_eq_true] at this
theorem all_true (n : Nat) : (List.range n).all (fun _ => true) = true := by simp
theorem eq_refs {s : Shared} {a b : Addr} {us vs : List Value} (ha : IsTup s.heap a us.toArray) (hb : IsTup s.heap b vs.toArray) (hl : us.length = vs.length) (hu : A.units < cLine)
    (he : ∀ j (h1 : j < us.length) (h2 : j < vs.length), EqAt A.in1 s us[j] vs[j] true) : EqAt A s (.ref a) (.ref b) true := by
  by_cases hab : a = b
  · subst hab; exact .same _
  · refine .of_refs hab ?_
    have := RcAt.tuples (A := A) (e := fun _ => true) ha hb hu fun j h1 h2 => he j (by simpa using h1) (by simpa using h2)
    rw [all_true] at this
    simpa [hl] using this
theorem eq_tree {s : Shared} (hs : ∀ a o, I a = some o → s.heap.get? a = some o) : ∀ (x : T) {A : Around} {u v : Value}, Room A x.h → TIn I x u → TIn I x v → EqAt A s u v true
  | .sym x, A, u, v, R, hu, hv => by
    obtain ⟨a, t1, t2, rfl, n1, ha⟩ := hu
    obtain ⟨b, t3, t4, rfl, n2, hb⟩ := hv
    refine eq_refs ⟨_, hs _ _ ha, rfl, _, rfl⟩ ⟨_, hs _ _ hb, rfl, _, rfl⟩ rfl R.u fun j h1 h2 => ?_
    match j, h1, h2 with
    | 0, _, _ => exact eq_str_at _ _ _
    | 1, _, _ => exact eq_str_at _ _ _
  | .con c, A, u, v, R, hu, hv => by
    obtain ⟨a, t1, rfl, n1, ha⟩ := hu
    obtain ⟨b, t3, rfl, n2, hb⟩ := hv
    refine eq_refs ⟨_, hs _ _ ha, rfl, _, rfl⟩ ⟨_, hs _ _ hb, rfl, _, rfl⟩ rfl R.u fun j h1 h2 => ?_
    match j, h1, h2 with
    | 0, _, _ => exact eq_str_at _ _ _
  | .not x, A, u, v, R, hu, hv => by
    obtain ⟨a, t1, u1, rfl, ⟨n1, ha⟩, hu1⟩ := hu
    obtain ⟨b, t2, v1, rfl, ⟨n2, hb⟩, hv1⟩ := hv
    have R' : Room A.in1 x.h := Room.in1 (R.le (by simp only [T.h]; omega))
    refine eq_refs ⟨_, hs _ _ ha, rfl, _, rfl⟩ ⟨_, hs _ _ hb, rfl, _, rfl⟩ rfl R.u fun j h1 h2 => ?_
    match j, h1, h2 with
    | 0, _, _ => exact eq_str_at _ _ _
    | 1, _, _ => exact eq_tree hs x R' hu1 hv1
  | .op2 k x y, A, u, v, R, hu, hv => by
    obtain ⟨a, t1, u1, u2, rfl, ⟨n1, ha⟩, hu1, hu2⟩ := hu
    obtain ⟨b, t2, v1, v2, rfl, ⟨n2, hb⟩, hv1, hv2⟩ := hv
    have R' : Room A.in1 (max x.h y.h) := Room.in1 (R.le (by simp only [T.h]; omega))
    refine eq_refs ⟨_, hs _ _ ha, rfl, _, rfl⟩ ⟨_, hs _ _ hb, rfl, _, rfl⟩ rfl R.u fun j h1 h2 => ?_
    match j, h1, h2 with
    | 0, _, _ => exact eq_str_at _ _ _
    | 1, _, _ => exact eq_tree hs x (R'.le (by omega)) hu1 hv1
    | 2, _, _ => exact eq_tree hs y (R'.le (by omega)) hu2 hv2
  | .op3 k x y z, A, u, v, R, hu, hv => by
    obtain ⟨a, t1, u1, u2, u3, rfl, ⟨n1, ha⟩, hu1, hu2, hu3⟩ := hu
    obtain ⟨b, t2, v1, v2, v3, rfl, ⟨n2, hb⟩, hv1, hv2, hv3⟩ := hv
    have R' : Room A.in1 (max x.h (max y.h z.h)) := Room.in1 (R.le (by simp only [T.h]; omega))
    refine eq_refs ⟨_, hs _ _ ha, rfl, _, rfl⟩ ⟨_, hs _ _ hb, rfl, _, rfl⟩ rfl R.u fun j h1 h2 => ?_
    match j, h1, h2 with
    | 0, _, _ => exact eq_str_at _ _ _
    | 1, _, _ => exact eq_tree hs x (R'.le (by omega)) hu1 hv1
    | 2, _, _ => exact eq_tree hs y (R'.le (by omega)) hu2 hv2
    | 3, _, _ => exact eq_tree hs z (R'.le (by omega)) hu3 hv3
theorem TIn.tup {x : T} {v : Value} (h : TIn I x v) : ∃ a us, v = .ref a ∧ Tup I a us := by
  obtain ⟨a, _, us, e, z⟩ := h.first
  exact ⟨a, _, e, z⟩
/-- the comparisons themselves -/
theorem trees_eq_at {x : T} {a b : Addr} {us vs : List Value} (k : Ok w B I h g) (R : Room A x.h) (hu : TIn I x (.ref a)) (hv : TIn I x (.ref b)) (ha : Tup I a us) (hb : Tup I b vs) :
    us.length = vs.length ∧ ∀ j (h1 : j < us.length) (h2 : j < vs.length), EqAt A.in1 (⟨h, g, d, t, o⟩ : Shared) us[j] vs[j] true := by
  obtain ⟨n1, ha⟩ := ha
  obtain ⟨n2, hb⟩ := hb
  have key : ∀ {n n' : Nat} {l l' : List Value} {a : Addr}, I a = some { cls := .type "tuple", data := .seq l.toArray n } → I a = some { cls := .type "tuple", data := .seq l'.toArray n' } → l = l' := fun e e' => by
    rw [e] at e'; simpa using congrArg (fun o : Option Obj => match o with | some ⟨_, _, .seq l _, _⟩ => l.toList | _ => []) e'
  have hs := k.sub
  cases x with
  | sym x =>
    obtain ⟨a', t1, t2, e, m1, ha'⟩ := hu; obtain rfl : a = a' := by injection e
    obtain ⟨b', t3, t4, e, m2, hb'⟩ := hv; obtain rfl : b = b' := by injection e
    obtain rfl := key ha ha'; obtain rfl := key hb hb'
    refine ⟨rfl, fun j h1 h2 => ?_⟩
    match j, h1, h2 with
    | 0, _, _ => exact eq_str_at _ _ _
    | 1, _, _ => exact eq_str_at _ _ _
  | con x =>
    obtain ⟨a', t1, e, m1, ha'⟩ := hu; obtain rfl : a = a' := by injection e
    obtain ⟨b', t3, e, m2, hb'⟩ := hv; obtain rfl : b = b' := by injection e
    obtain rfl := key ha ha'; obtain rfl := key hb hb'
    refine ⟨rfl, fun j h1 h2 => ?_⟩
    match j, h1, h2 with
    | 0, _, _ => exact eq_str_at _ _ _
  | not x =>
    obtain ⟨a', t1, u1, e, ⟨m1, ha'⟩, hu1⟩ := hu; obtain rfl : a = a' := by injection e
    obtain ⟨b', t2, v1, e, ⟨m2, hb'⟩, hv1⟩ := hv; obtain rfl : b = b' := by injection e
    obtain rfl := key ha ha'; obtain rfl := key hb hb'
    have R' : Room A.in1 x.h := Room.in1 (R.le (by simp only [T.h]; omega))
    refine ⟨rfl, fun j h1 h2 => ?_⟩
    match j, h1, h2 with
    | 0, _, _ => exact eq_str_at _ _ _
    | 1, _, _ => exact eq_tree hs x R' hu1 hv1
  | op2 c x y =>
    obtain ⟨a', t1, u1, u2, e, ⟨m1, ha'⟩, hu1, hu2⟩ := hu; obtain rfl : a = a' := by injection e
    obtain ⟨b', t2, v1, v2, e, ⟨m2, hb'⟩, hv1, hv2⟩ := hv; obtain rfl : b = b' := by injection e
    obtain rfl := key ha ha'; obtain rfl := key hb hb'
    have R' : Room A.in1 (max x.h y.h) := Room.in1 (R.le (by simp only [T.h]; omega))
    refine ⟨rfl, fun j h1 h2 => ?_⟩
    match j, h1, h2 with
    | 0, _, _ => exact eq_str_at _ _ _
    | 1, _, _ => exact eq_tree hs x (R'.le (by omega)) hu1 hv1
    | 2, _, _ => exact eq_tree hs y (R'.le (by omega)) hu2 hv2
  | op3 c x y z =>
    obtain ⟨a', t1, u1, u2, u3, e, ⟨m1, ha'⟩, hu1, hu2, hu3⟩ := hu; obtain rfl : a = a' := by injection e
    obtain ⟨b', t2, v1, v2, v3, e, ⟨m2, hb'⟩, hv1, hv2, hv3⟩ := hv; obtain rfl : b = b' := by injection e
    obtain rfl := key ha ha'; obtain rfl := key hb hb'
    have R' : Room A.in1 (max x.h (max y.h z.h)) := Room.in1 (R.le (by simp only [T.h]; omega))
    refine ⟨rfl, fun j h1 h2 => ?_⟩
    match j, h1, h2 with
    | 0, _, _ => exact eq_str_at _ _ _
    | 1, _, _ => exact eq_tree hs x (R'.le (by omega)) hu1 hv1
    | 2, _, _ => exact eq_tree hs y (R'.le (by omega)) hu2 hv2
    | 3, _, _ => exact eq_tree hs z (R'.le (by omega)) hu3 hv3
theorem cmp_eq_tree {x : T} {u v : Value} {Q : Value → Shared → Prop} (k : Ok w B I h g) (R : Room A x.h) (hu : TIn I x u) (hv : TIn I x v) (hq : Q (.bool true) ⟨h, g, d, t, o⟩) :
    wpAny (model PR w) A (compareOp .Eq u v) Q E ⟨h, g, d, t, o⟩ := by
  obtain ⟨a, us, rfl, ha⟩ := hu.tup
  obtain ⟨b, vs, rfl, hb⟩ := hv.tup
  obtain ⟨hl, he⟩ := trees_eq_at (d := d) (t := t) (o := o) k R hu hv ha hb
  have := RcAt.tuples (A := A) (s := ⟨h, g, d, t, o⟩) (e := fun _ => true) (ha.is k) (hb.is k) R.u fun j h1 h2 => he j (by simpa using h1) (by simpa using h2)
  exact this _ _ _ _ (by rw [all_true]; simpa [hl] using hq)
theorem cmp_ne_tree {x : T} {u v : Value} {Q : Value → Shared → Prop} (k : Ok w B I h g) (R : Room A x.h) (hu : TIn I x u) (hv : TIn I x v) (hq : Q (.bool false) ⟨h, g, d, t, o⟩) :
    wpAny (model PR w) A (compareOp .NotEq u v) Q E ⟨h, g, d, t, o⟩ := by
  obtain ⟨a, us, rfl, ha⟩ := hu.tup
  obtain ⟨b, vs, rfl, hb⟩ := hv.tup
  obtain ⟨hl, he⟩ := trees_eq_at (d := d) (t := t) (o := o) k R hu hv ha hb
  have := RcNeAt.tuples (A := A) (s := ⟨h, g, d, t, o⟩) (e := fun _ => true) (ha.is k) (hb.is k) R.u fun j h1 h2 => he j (by simpa using h1) (by simpa using h2)
  exact this _ _ _ _ (by rw [all_true]; simpa [hl] using hq)
theorem cmp_ne_list {ts : List T} {n : Nat} {a b : Addr} {us vs : List Value} {Q : Value → Shared → Prop} (k : Ok w B I h g) (R : Room A (n + 1)) (ha : Lst I a us) (hb : Lst I b vs) (hu : Each (TIn I) ts us) (hv : Each (TIn I) ts vs)
    (hn : ∀ x ∈ ts, T.h x ≤ n) (hq : Q (.bool false) ⟨h, g, d, t, o⟩) :
    wpAny (model PR w) A (compareOp .NotEq (.ref a) (.ref b)) Q E ⟨h, g, d, t, o⟩ := by
  have hl : us.length = vs.length := hu.1.trans hv.1.symm
  have := RcNeAt.lists (A := A) (s := ⟨h, g, d, t, o⟩) (e := fun _ => true) (ha.is k) (hb.is k) (by simpa using hl) R.u fun j h1 h2 => by
    have h1 : j < us.length := by simpa using h1
    have h2 : j < vs.length := by simpa using h2
    have h3 : j < ts.length := by rw [← hu.1]; exact h1
    exact eq_tree k.sub ts[j] (R.in1.le (hn _ (List.getElem_mem h3))) (hu.2 j _ _ (List.getElem?_eq_getElem h1) (List.getElem?_eq_getElem h3)) (hv.2 j _ _ (List.getElem?_eq_getElem h2) (List.getElem?_eq_getElem h3))
  exact this _ _ _ _ (by rw [all_true]; exact hq)
theorem hop_le : ∀ x : T, x.hop ≤ x.h
  | .sym _ => by simp [T.hop]
  | .con _ => by simp [T.hop]
  | .not x => by have := hop_le x; simp only [T.hop, T.h]; omega
  | .op2 _ x y => by have := hop_le x; have := hop_le y; simp only [T.hop, T.h]; omega
  | .op3 _ x y z => by have := hop_le x; have := hop_le y; have := hop_le z; simp only [T.hop, T.h]; omega
theorem lits_h {x u : T} (hu : u ∈ x.lits) : u.h ≤ 2 := by
  have := T.lits_all hu
  cases u with
  | sym _ => simp [T.h]
  | not y => cases y <;> first | (simp [T.h]; done) | cases this
  | _ => cases this
theorem lits_len : ∀ (n : Nat) (x : T), x.h ≤ n → x.lits.length ≤ 3 ^ n := by
  intro n
  induction n with
  | zero => intro x hx; cases x <;> simp [T.h] at hx
  | succ n ih =>
    intro x hx
    have hp : 0 < 3 ^ n := Nat.pow_pos (by decide)
    rw [Nat.pow_succ]
    cases hl : x.isLit with
    | true => rw [T.lits_lit hl]; show 1 ≤ _; omega
    | false =>
      rw [T.lits_rec hl]
      cases x with
      | sym _ => cases hl
      | con _ => simp [T.kids]
      | not y => have := ih y (by simp only [T.h] at hx; omega); simp [T.kids]; omega
      | op2 c y z => have := ih y (by simp only [T.h] at hx; omega); have := ih z (by simp only [T.h] at hx; omega); simp [T.kids]; omega
      | op3 c y z v => have := ih y (by simp only [T.h] at hx; omega); have := ih z (by simp only [T.h] at hx; omega); have := ih v (by simp only [T.h] at hx; omega); simp [T.kids]; omega
theorem low_low : ∀ (x : T) (b : Bool), (x.low b).low false = x.low b
  | .sym x, b => by cases b <;> rfl
  | .con c, b => by cases c <;> cases b <;> rfl
  | .not x, b => by have := low_low x (!b); simpa [T.low] using this
  | .op2 k x y, b => by have := low_low x b; have := low_low y b; simp_all [T.low]
  | .op3 k x y z, b => by have := low_low x b; have := low_low y b; have := low_low z b; simp_all [T.low]
theorem low_h : ∀ (x : T) (b : Bool), (x.low b).h ≤ x.h + 1
  | .sym x, b => by cases b <;> simp [T.low, T.h]
  | .con c, b => by simp [T.low, T.h]
  | .not x, b => by have := low_h x (!b); simp only [T.low, T.h]; omega
  | .op2 k x y, b => by have := low_h x b; have := low_h y b; simp only [T.low, T.h]; omega
  | .op3 k x y z, b => by have := low_h x b; have := low_h y b; have := low_h z b; simp only [T.low, T.h]; omega
theorem strip_h : ∀ x : T, x.strip.h ≤ x.h := by
  intro x
  induction x using T.strip.induct with
  | case1 t ih => simp only [T.strip, T.h] at *; omega
  | case2 t h => rw [T.strip]; · exact Nat.le_refl _
                 · exact h

end
end Mine
namespace Mine
local macro_rules | `(tactic| walk_at "lk") => `(tactic| first | assumption | exact lk_hd (by decide +kernel) | exact lk_tl (by decide +kernel) (by assumption) | exact lk_tl (by decide +kernel) (lk_tl (by decide +kernel) (by assumption)) | exact lk_tl (by decide +kernel) (lk_hd (by decide +kernel)) | exact lk_tl (by decide +kernel) (lk_tl (by decide +kernel) (lk_hd (by decide +kernel))) | exact lk_tl (by decide +kernel) (lk_tl (by decide +kernel) (lk_tl (by decide +kernel) (lk_hd (by decide +kernel)))) | exact lk_tl (by decide +kernel) (lk_tl (by decide +kernel) (lk_tl (by decide +kernel) (lk_tl (by decide +kernel) (lk_hd (by decide +kernel))))))
local macro_rules | `(tactic| walk_at "ok") => `(tactic| first | assumption | exact St.ok (by assumption))
local macro_rules | `(tactic| walk_at "nm") => `(tactic| refine nm_loc (by assumption) rfl (by kernel_rfl) (by walk_at "lk") (by kernel_rfl) ?_)
local macro_rules | `(tactic| walk_at "s0") => `(tactic| refine sub0 (by walk_at "ok") (by assumption) (by with_unfolding_all rfl) ?_)
local macro_rules | `(tactic| walk_at "s1") => `(tactic| refine sub1 (by walk_at "ok") (by assumption) (by with_unfolding_all rfl) ?_)
local macro_rules | `(tactic| walk_at "eqt") => `(tactic| refine eq_str_is true (by kernel_rfl) ?_)
local macro_rules | `(tactic| walk_at "eqf") => `(tactic| refine eq_str_is false (by kernel_rfl) ?_)
local macro_rules | `(tactic| walk_at "st") => `(tactic| first
  | ((with_reducible show wpAny _ _ (eval (Expr.Constant (Const.str _) _ _) _) _ _ _); refine c_str ?_)
  | ((with_reducible show wpAny _ _ (eval (Expr.Constant (Const.int _) _ _) _) _ _ _); refine c_int ?_)
  | ((with_reducible show wpAny _ _ (eval (Expr.Constant (Const.bool _) _ _) _) _ _ _); refine wpAny_Constant_bool ?_)
  | ((with_reducible show wpAny _ _ (eval (Expr.Subscript _ (Expr.Constant _ _ _) _) _) _ _ _); refine Subscript_ ?_)
  | ((with_reducible show wpAny _ _ (eval (Expr.Compare _ _ _ _) _) _ _ _); refine wpAny_Compare1 ?_)
  | ((with_reducible show wpAny _ _ (eval (Expr.IfExp _ _ _ _) _) _ _ _); refine IfExp_ ?_)
  | ((with_reducible show wpAny _ _ (eval (Expr.Tuple _ _ _) _) _ _ _); refine Tuple_ ?_)
  | ((with_reducible show wpAny _ _ (eval (Expr.List _ _) _) _ _ _); refine List_ ?_)
  | ((with_reducible show wpAny _ _ (eval (Expr.BinOp _ _ _ _) _) _ _ _); refine wpAny_BinOp ?_)
  | ((with_reducible show wpAny _ _ (eval (Expr.UnaryOp _ _ _) _) _ _ _); refine UnaryOp_ ?_)
  | ((with_reducible show wpAny _ _ (isTrue (Expr.Compare _ _ _ _) _ _) _ _ _); refine wpAny_isTrue_Compare1 ?_)
  | ((with_reducible show wpAny _ _ (isTrue (Expr.UnaryOp UnaryOp.Not _ _) _ _) _ _ _); refine isTrue_not ?_)
  | ((with_reducible show wpAny _ _ (isTrue (Expr.BoolOp BoolOp.And (_ :: _) _) _ _) _ _ _); refine isTrue_and ?_)
  | ((with_reducible show wpAny _ _ (isTrue (Expr.BoolOp BoolOp.Or (_ :: _) _) _ _) _ _ _); refine isTrue_or ?_)
  | ((with_reducible show wpAny _ _ (isTrue (Expr.BoolOp BoolOp.Or [] _) _ _) _ _ _); refine isTrue_nil_or ?_)
  | ((with_reducible show wpAny _ _ (isTrue (Expr.BoolOp BoolOp.And [] _) _ _) _ _ _); refine isTrue_nil_and ?_)
  | ((with_reducible show wpAny _ _ (isTrue (Expr.Name _ _) _ _) _ _ _); refine isTrue_plain ?_)
  | ((with_reducible show wpAny _ _ (isTrue (Expr.Constant _ _ _) _ _) _ _ _); refine isTrue_plain ?_)
  | ((with_reducible show wpAny _ _ (isTrue (Expr.Call _ _ _ _) _ _) _ _ _); refine isTrue_plain ?_)
  | ((with_reducible show wpAny _ _ (isTrue (Expr.Attribute _ _ _) _ _) _ _ _); refine isTrue_plain ?_)
  | ((with_reducible show wpAny _ _ (unaryOp UnaryOp.Not _) _ _ _); refine not_of ?_)
  | ((with_reducible show wpAny _ _ (truthy (Value.bool _)) _ _ _); refine wpAny_truthy_bool ?_)
  | ((with_reducible show ite _ _ _); first | refine ite_t ?_ | refine ite_f ?_)
  | ((with_reducible show wpAny _ _ (execs (_ :: _) _) _ _ _); refine wpAny_execs_cons ?_)
  | ((with_reducible show wpAny _ _ (execs [] _) _ _ _); refine wpAny_execs_nil ?_)
  | ((with_reducible show wpAny _ _ (exec (Stmt.If _ _ _ _) _) _ _ _); refine wpAny_If ?_)
  | ((with_reducible show wpAny _ _ (exec (Stmt.Return (some _) _) _) _ _ _); refine wpAny_Return_some ?_)
  | ((with_reducible show wpAny _ _ (exec (Stmt.Assign [Expr.Attribute _ _ _] _ _) _) _ _ _); refine plainObj_wpAny_Assign_Attribute ?_)
  | ((with_reducible show wpAny _ _ (eval (Expr.Constant Const.none _ _) _) _ _ _); refine Constant_none ?_)
  | ((with_reducible show wpAny _ _ (spliced (backTo _ (starEach (_ :: _) _))) _ _ _); refine args_cons ?_)
  | ((with_reducible show wpAny _ _ (spliced (backTo _ (starEach [] _))) _ _ _); refine args_nil ?_))
local macro_rules | `(tactic| walk_at "sts") => `(tactic| repeat walk_at "st")
local macro_rules | `(tactic| walk_at "cw") => `(tactic| refine cw (by walk_at "ok") (by kernel_rfl) ?_ rfl rfl)
local macro_rules | `(tactic| walk_at "cwb") => `(tactic| refine cwb rfl ?_ rfl rfl)
local macro_rules | `(tactic| walk_at "mem") => `(tactic| simp [attrNames])
local macro_rules | `(tactic| walk_at "sl") => `(tactic| refine sub_lst (by walk_at "ok") (by assumption) (by decide) (by decide) rfl (by with_unfolding_all rfl) ?_)

section
variable {w : World} {B : Heap} {M : Addr → Prop} {h₀ : Heap} {I₀ I : Im} {L : Addr} {m : Str → Option Value} {h : Heap} {g : Array GenState} {d : Drawn} {t : Nat} {o : OsState} {A : Around} {E : Value → Shared → Prop} {env : Env}

abbrev q_script : Str := Str.ofString "script"
abbrev q_pool : Str := Str.ofString "pool"
abbrev q_tree : Str := Str.ofString "tree"
abbrev q_expr : Str := Str.ofString "expr"
abbrev q_literals : Str := Str.ofString "literals"
abbrev q_low : Str := Str.ofString "low"
abbrev q_turned : Str := Str.ofString "turned"
theorem add_mlst {a b : Addr} {xs ys : List Value} {Q : Value → Shared → Prop} (S : St w B M h₀ I₀ L m I h g) (ha : MLst h a xs) (hb : MLst h b ys) (hsz : xs.length + ys.length ≤ 1000000)
    (hq : ∀ h', St w B M h₀ I₀ L m I h' g → MLst h' h.objs.size (xs ++ ys) → Q (.ref h.objs.size) ⟨h', g, d, t, o⟩) : wpAny (model PR w) A (binaryOp .Add (.ref a) (.ref b)) Q E ⟨h, g, d, t, o⟩ := by
  obtain ⟨n, ea⟩ := ha
  obtain ⟨n', eb⟩ := hb
  have e : xs.toArray ++ ys.toArray = (xs ++ ys).toArray := by simp
  refine P.add_list (items := xs.toArray) (items2 := ys.toArray) ea eb (hq _ (S.push _) ?_) (by rw [List.size_toArray, List.size_toArray]; exact Nat.le_trans hsz sizeLine_big)
  rw [e]
  exact ⟨_, Heap.get?_push_size _ rfl⟩
theorem syms_h {x u : T} (hu : u ∈ x.lits.map T.symOf) : u.h ≤ 2 := by
  obtain ⟨y, hy, rfl⟩ := List.mem_map.mp hu
  have := lits_h hy
  cases y with
  | not z => simp only [T.symOf]; simp only [T.h] at this; omega
  | _ => exact this
theorem law_call {P : Addr} {vs : List Value} {ns : List Int} {Q : Value → Shared → Prop} (k : Ok w B I h g) (R : Room A 60) (hP : Lst I P vs) (hi : IntsAre vs ns) (hlen : vs.length ≤ 1000000)
    (hQ : Gives w B d o h I (fun _ r => r = .bool true) Q) : wpAny (model PR w) A (call (.ref 644) [.ref P]) Q E ⟨h, g, d, t, o⟩ := by
  refine enter0 [(q_script, .ref P)] Mt k rfl (by kernel_rfl) R.d (by kernel_rfl) (by kernel_rfl) (by kernel_rfl) rfl rfl rfl fun h₁ t₁ E' S => ?_
  refine wpAny_execs_cons (wpAny_Assign_Name (wpAny_mono (Q := fun v s => ∃ p h' t', v = .ref p ∧ s = ⟨h', g, d, t', o⟩ ∧ St w B Mt h I h.objs.size (fun z => List.lookup z [(q_script, .ref P)]) I h' g ∧ I p = none ∧ p ≠ h.objs.size ∧ h.get? p = none ∧ PoolAt h' p) ?_ (fun v s hzz => ?_) fun _ _ e => e))
  · walk_at "sts"
    refine Call_ ?_
    refine nm_boot (v := .builtin "len") S.ok rfl (by kernel_rfl) rfl rfl (by kernel_rfl) (by kernel_rfl) (by decide +kernel) (by kernel_rfl) ?_
    walk_at "cwb"; walk_at "sts"; walk_at "nm"; walk_at "sts"
    refine len_lst S.ok hP (by omega) fun _ t2 => ?_
    walk_at "sts"
    refine PyProof.Rows.mod_int (by decide) ?_
    walk_at "sts"
    refine eq_int_is _ rfl ?_
    walk_at "sts"
    have big := sizeLine_big
    have esl : slicePick vs.toArray none (some (63 : Int)) none = (vs.take 63).toArray := slicePick_upto' vs.toArray 63
    have hto : vs.toArray.size ≤ sizeLine := by rw [List.size_toArray]; omega
    have htk : (vs.take 63).length ≤ 63 := by rw [List.length_take]; omega
    have hti := hi.take 63
    have fresh : ∀ {h' : Heap}, h.objs.size < h'.objs.size → ∀ a, h'.objs.size ≤ a → h.get? a = none ∧ a ≠ h.objs.size := fun hlt a ha => by
      refine ⟨?_, Nat.ne_of_gt (Nat.lt_of_lt_of_le hlt ha)⟩
      cases q : h.get? a with
      | none => rfl
      | some _ => exact absurd (Heap.lt_size q) (Nat.not_lt_of_le (Nat.le_trans (Nat.le_of_lt hlt) ha))
    have inone : ∀ {h' : Heap}, (∀ a o, I a = some o → h'.get? a = some o) → ∀ a, h'.objs.size ≤ a → I a = none := fun hs a ha => by
      cases q : I a with
      | none => rfl
      | some _ => exact absurd (Heap.lt_size (hs _ _ q)) (Nat.not_lt_of_le ha)
    have hlt : h.objs.size < h₁.objs.size := by obtain ⟨_, _, _, e, _⟩ := S.ns; exact Heap.lt_size e
    cases hc : (((vs.length : Nat) : Int).fmod 3 == 0) with
    | true =>
      walk_at "sts"
      refine new_mlst S (by simp) fun h2 S2 G2 hF2 => ?_
      refine wpAny_Subscript_list_slice ?_
      walk_at "nm"
      refine evalPart_none_step (evalPart_some_step ?_)
      walk_at "sts"
      refine ⟨P, vs.toArray, none, some 63, rfl, hP.is S2.ok, hto, .none, .int _ _, ?_⟩
      rw [esl]
      refine add_mlst ((S2.push _).push _) ((hF2.at fun q e => Heap.get?_push_of_some _ e).at fun q e => Heap.get?_push_of_some _ e) (ys := vs.take 63) ⟨_, by rw [← Heap.size_push]; exact Heap.get?_push_size _ rfl⟩ (by simp; omega) fun h4 S4 hF4 => ?_
      have hlt2 : h.objs.size < h2.objs.size := by obtain ⟨_, _, _, e, _⟩ := S2.ns; exact Heap.lt_size e
      have hle4 : ∀ (o1 o2 : Obj), h2.objs.size ≤ ((h2.push o1).push o2).objs.size := fun o1 o2 => by rw [Heap.size_push, Heap.size_push]; omega
      exact ⟨_, _, _, rfl, rfl, S4, inone S2.ok.sub _ (hle4 _ _), (fresh hlt2 _ (hle4 _ _)).2, (fresh hlt2 _ (hle4 _ _)).1, _, _, hF4, .cons _ _ hti, by simp; omega⟩
    | false =>
      walk_at "sts"
      refine wpAny_Subscript_list_slice ?_
      walk_at "nm"
      refine evalPart_none_step (evalPart_some_step ?_)
      walk_at "sts"
      refine ⟨P, vs.toArray, none, some 63, rfl, hP.is S.ok, hto, .none, .int _ _, ?_⟩
      rw [esl]
      refine ⟨_, _, _, rfl, rfl, (S.push _).push _, inone S.ok.sub _ (Nat.le_succ _), (fresh hlt _ (Nat.le_succ _)).2, (fresh hlt _ (Nat.le_succ _)).1, vs.take 63, _, ⟨_, by rw [← Heap.size_push]; exact Heap.get?_push_size _ rfl⟩, hti, by omega⟩
  obtain ⟨p, h2, t2, rfl, rfl, S2, hIp, hpL, hp0, hpool⟩ := hzz
  refine put S2 (by kernel_rfl) rfl fun h3 S3 k3 => ?_
  have hpool3 : PoolAt h3 p := hpool.at fun q e => k3 _ _ hpL e
  refine wpAny_execs_cons (wpAny_Assign_Name (wpAny_mono (Q := fun v s => ∃ x I' h' g' t', T.h x ≤ 5 ∧ TIn I' x v ∧ s = ⟨h', g', d, t', o⟩ ∧ St w B Mt h I h.objs.size (fun z => List.lookup z [(q_pool, .ref p), (q_script, .ref P)]) I' h' g') ?_ (fun v s hzz => ?_) fun _ _ e => e))
  · refine Call_ ?_
    refine nm_glob (v := .ref 610) S3.ok rfl (by kernel_rfl) rfl (by kernel_rfl) (by kernel_rfl) ?_
    walk_at "cw"; walk_at "sts"; walk_at "nm"; walk_at "sts"
    refine Call_ ?_
    refine nm_boot (v := .builtin "len") S3.ok rfl (by kernel_rfl) rfl rfl (by kernel_rfl) (by kernel_rfl) (by decide +kernel) (by kernel_rfl) ?_
    walk_at "cwb"; walk_at "sts"; walk_at "nm"; walk_at "sts"
    refine len_lst S3.ok hP (by omega) fun _ t2 => ?_
    walk_at "sts"
    refine PyProof.Rows.mod_int (by decide) ?_
    walk_at "sts"
    refine eq_int_is _ rfl ?_
    walk_at "sts"
    have fin : ∀ x r I' h' g' t', x.h ≤ 5 → Ok w B I' h' g' → Grow (Mp p) h3 I h' I' → TIn I' x r → ∃ x I'' h'' g'' t'', T.h x ≤ 5 ∧ TIn I'' x r ∧ (⟨h', g', d, t', o⟩ : Shared) = ⟨h'', g'', d, t'', o⟩ ∧ St w B Mt h I h.objs.size (fun z => List.lookup z [(q_pool, .ref p), (q_script, .ref P)]) I'' h'' g'' :=
      fun x r I' h' g' t' hx k' G' hT => ⟨x, I', h', g', t', hx, hT, rfl, S3.called k' G' (fun a z => z.elim .inl fun (z : a = p) => .inr (by rw [z]; exact hp0)) fun z => by
        rcases z with (z | z) | z
        · exact S3.ne.1 z
        · exact S3.ne.2 z
        · exact hpL z.symm⟩
    cases hc : (((vs.length : Nat) : Int).fmod 3 == 0) with
    | true =>
      walk_at "sts"
      exact ⟨S3.ok.X, tree_call 4 S3.ok (Room.deeper (R.le (by omega)) _) rfl hIp hpool3 fun x r I' h' g' t' hx k' G' hI' hp' hT => fin x r I' h' g' t' hx k' G' hT⟩
    | false =>
      walk_at "sts"
      exact ⟨S3.ok.X, tree_call 3 S3.ok (Room.deeper (R.le (by omega)) _) rfl hIp hpool3 fun x r I' h' g' t' hx k' G' hI' hp' hT => fin x r I' h' g' t' (by omega) k' G' hT⟩
  obtain ⟨x, I4, h4, g4, t4, hx, hT4, rfl, S4⟩ := hzz
  refine put S4 (by kernel_rfl) rfl fun h5 S5 _ => ?_
  have h3p : (3 : Nat) ^ 5 = 243 := by decide
  have hlits : x.lits.length ≤ 1000000 := by have := lits_len 5 x hx; omega
  refine wpAny_execs_cons (Assign_Tuple_swapped ?_)
  walk_at "sts"
  refine Call_ ?_
  refine nm_glob (v := .ref 615) S5.ok rfl (by kernel_rfl) rfl (by kernel_rfl) (by kernel_rfl) ?_
  walk_at "cw"; walk_at "sts"; walk_at "nm"; walk_at "sts"
  refine ⟨S5.ok.X, expr_call 5 x hx S5.ok (Room.deeper (R.le (by omega)) _) hT4 fun ev I6 h6 g6 t6 k6 G6 hE6 => ?_⟩
  have S6 := S5.after k6 G6 fun _ q => q
  walk_at "sts"
  refine Call_ ?_
  refine nm_glob (v := .ref 627) S6.ok rfl (by kernel_rfl) rfl (by kernel_rfl) (by kernel_rfl) ?_
  walk_at "cw"; walk_at "sts"; walk_at "nm"; walk_at "sts"
  refine ⟨S6.ok.X, lits_call 5 x hx hlits S6.ok (Room.deeper (R.le (by omega)) _) (hT4.le G6.le) fun r I7 h7 g7 t7 k7 G7 z => ?_⟩
  obtain ⟨F, fs, rfl, hF, hfs⟩ := z
  have S7 := S6.after k7 G7 fun _ q => q
  walk_at "sts"
  refine new_tup' S7 (by simp) fun h8 I8 S8 G8 ht8 => ?_
  refine unpackItems_tuple (items := [ev, .ref F].toArray) R.hh (ht8.is S8.ok) fun h9 hk9 => ?_
  have S9 : St w B Mt h I h.objs.size (fun z => List.lookup z [(q_tree, v), (q_pool, .ref p), (q_script, .ref P)]) I8 h9 g7 := S8.moved h8.objs.size (fun b o hb e => hk9 b o hb e) S8.ok.none_size (by obtain ⟨_, _, _, e, _⟩ := S8.ns; exact Nat.ne_of_gt (Heap.lt_size e)) S8.at_size
  refine assignInOrder_cons (bindName_ (put S9 (by kernel_rfl) rfl fun h10 S10 _ => assignInOrder_cons (bindName_ (put S10 (by kernel_rfl) rfl fun h11 S11 _ => assignInOrder_nil ?_))))
  have hE11 : EIn I8 x ev := (hE6.le G7.le).le G8.le
  have hT11 : TIn I8 x v := ((hT4.le G6.le).le G7.le).le G8.le
  have hF11 := hF.le G8.le
  have hfs11 : Each (TIn I8) x.lits fs := hfs.le fun _ _ z => z.le G8.le
  obtain ⟨a, l, e, us, V⟩ := hE11.view S11.ok
  walk_at "sts"
  refine comp_ev (B := B) (d := d) (o := o) R.hh (cl := []) rfl (by decide) rfl (by decide) (by kernel_rfl) (fun _ => rfl) ?_
  refine MethodCall_ ?_
  walk_at "nm"
  refine V.meth S11.ok (by simp) (methFacts w _).1 (by kernel_rfl) ?_
  refine callWith_K0 S11.ok.X (by kernel_rfl) ?_
  refine glits_call 5 x hx hlits S11.ok (Room.deeper (R.le (by omega)) _) hE11 fun r I12 h12 g12 t12 k12 G12 z => ?_
  obtain ⟨D12, vs12, rfl, hD12, hE12⟩ := z
  have S12 := S11.after k12 G12 fun _ q => q
  refine ⟨D12, vs12, I12, h12, g12, t12, Mt, fun j I y => ∀ t', x.lits[j]? = some t' → TIn I t' y, fun _ => True, rfl, rfl, k12, .inr hD12, hD12.nM k12, Nat.le_trans (by rw [hE12.1]; exact hlits) sizeLine_big,
    { hM := k12.hM, hR := fun i I I' y hl hr t' e => (hr t' e).le hl, hV := fun _ _ _ _ => trivial, hV0 := trivial, helt := ?_ }, fun D13 h13 I13 g13 t13 ys k13 G13 hl13 hlen13 hr13 _ => ?_⟩
  · intro i v C m I' h' g' t' Q' E' hi' hP' S' hm _ hK
    have hj : i < x.lits.length := by rw [← hE12.1]; exact hi'
    have hje := List.getElem?_eq_getElem hj
    have hev : EIn I' x.lits[i] v := (hE12.2 i v _ hP' hje).le S'.G.le
    refine Call_ ?_
    refine nm_glob (v := .ref 620) S'.ok rfl (by kernel_rfl) rfl (by kernel_rfl) (by kernel_rfl) ?_
    walk_at "cw"; walk_at "sts"; walk_at "nm"; walk_at "sts"
    refine ⟨S'.ok.X, seen_call 2 _ (lits_h (List.getElem_mem hj)) S'.ok (Room.deeper (R.le (by omega)) _) hev fun r I2 h2 g2 t2 k2 G2 z => ?_⟩
    exact hK _ _ _ _ _ k2 G2 trivial fun t' e => by rw [hje] at e; cases e; exact z
  have S13 := S12.after k13 G13 fun _ q => q
  have hys13 : Each (TIn I13) x.lits ys := ⟨by rw [hlen13, hE12.1], fun j u t' e e' => hr13 j u e t' e'⟩
  have hle13 : Le I8 I13 := G12.le.trans G13.le
  walk_at "sts"; walk_at "nm"; walk_at "sts"
  refine cmp_ne_list S13.ok (n := 2) (Room.deeper (R.le (by omega)) _) hl13 (hF11.le hle13) hys13 (hfs11.le fun _ _ z => z.le hle13) (fun x hx => lits_h hx) ?_
  walk_at "sts"
  have hE13 := hE11.le hle13
  have V13 : View w I13 x ev a l e us := ⟨V.v, V.ii.le hle13, V.la, V.ll, V.lm, V.lc, V.tu.le hle13, V.ks.le fun _ _ z => z.le hle13⟩
  refine comp_ev (B := B) (d := d) (o := o) R.hh (cl := []) rfl (by decide) rfl (by decide) (by kernel_rfl) (fun _ => rfl) ?_
  refine MethodCall_ ?_
  walk_at "nm"
  refine V13.meth S13.ok (by simp) (methFacts w _).2.1 (by kernel_rfl) ?_
  refine callWith_K0 S13.ok.X (by kernel_rfl) ?_
  refine gsyms_call S13.ok (Room.le (R.deeper _) (by omega)) (n := 5) hx hlits hE13 fun r I14 h14 g14 t14 k14 G14 z => ?_
  obtain ⟨D14, vs14, rfl, hD14, hE14⟩ := z
  have S14 := S13.after k14 G14 fun _ q => q
  refine ⟨D14, vs14, I14, h14, g14, t14, Mt, fun j I y => ∀ t', (x.lits.map T.symOf)[j]? = some t' → TIn I t' y, fun _ => True, rfl, rfl, k14, .inr hD14, hD14.nM k14, Nat.le_trans (by rw [hE14.1, List.length_map]; exact hlits) sizeLine_big,
    { hM := k14.hM, hR := fun i I I' y hl hr t' e => (hr t' e).le hl, hV := fun _ _ _ _ => trivial, hV0 := trivial, helt := ?_ }, fun D15 h15 I15 g15 t15 zs k15 G15 hl15 hlen15 hr15 _ => ?_⟩
  · intro i v C m I' h' g' t' Q' E' hi' hP' S' hm _ hK
    have hj : i < (x.lits.map T.symOf).length := by rw [← hE14.1]; exact hi'
    have hje := List.getElem?_eq_getElem hj
    have hev : EIn I' (x.lits.map T.symOf)[i] v := (hE14.2 i v _ hP' hje).le S'.G.le
    refine Call_ ?_
    refine nm_glob (v := .ref 620) S'.ok rfl (by kernel_rfl) rfl (by kernel_rfl) (by kernel_rfl) ?_
    walk_at "cw"; walk_at "sts"; walk_at "nm"; walk_at "sts"
    refine ⟨S'.ok.X, seen_call 2 _ (syms_h (List.getElem_mem hj)) S'.ok (Room.deeper (R.le (by omega)) _) hev fun r I2 h2 g2 t2 k2 G2 z => ?_⟩
    exact hK _ _ _ _ _ k2 G2 trivial fun t' e => by rw [hje] at e; cases e; exact z
  have S15 := S14.after k15 G15 fun _ q => q
  have hys15 : Each (TIn I15) (x.lits.map T.symOf) zs := ⟨by rw [hlen15, hE14.1], fun j u t' e e' => hr15 j u e t' e'⟩
  have hle15 : Le I8 I15 := hle13.trans (G14.le.trans G15.le)
  have hF15 := hF11.le hle15
  have hfs15 : Each (TIn I15) x.lits fs := hfs11.le fun _ _ z => z.le hle15
  walk_at "sts"
  refine comp_ev (B := B) (d := d) (o := o) R.hh (cl := []) rfl (by decide) rfl (by decide) (by kernel_rfl) (fun _ => rfl) ?_
  walk_at "nm"
  refine ⟨F, fs, I15, h15, g15, _, Mt, fun j I y => ∀ t', (x.lits.map T.symOf)[j]? = some t' → TIn I t' y, fun _ => True, rfl, rfl, k15, .inr hF15, hF15.nM k15, Nat.le_trans (by rw [hfs15.1]; exact hlits) sizeLine_big,
    { hM := k15.hM, hR := fun i I I' y hl hr t' e => (hr t' e).le hl, hV := fun _ _ _ _ => trivial, hV0 := trivial, helt := ?_ }, fun D16 h16 I16 g16 t16 ws k16 G16 hl16 hlen16 hr16 _ => ?_⟩
  · intro i v C m I' h' g' t' Q' E' hi' hP' S' hm _ hK
    have hj : i < x.lits.length := by rw [← hfs15.1]; exact hi'
    have hje := List.getElem?_eq_getElem hj
    have hxl := T.lits_all (List.getElem_mem hj)
    have hev : TIn I' x.lits[i] v := (hfs15.2 i v _ hP' hje).le S'.G.le
    have hmap : (x.lits.map T.symOf)[i]? = some x.lits[i].symOf := by rw [List.getElem?_map, hje]; rfl
    generalize hu : x.lits[i] = u at hev hxl hje hmap
    cases u with
    | sym y =>
      have hev0 := hev
      obtain ⟨b, k1, k2, rfl, hb⟩ := hev
      walk_at "sts"; walk_at "nm"; walk_at "sts"; walk_at "s0"; walk_at "sts"; walk_at "eqt"; walk_at "sts"; walk_at "nm"
      exact hK _ _ _ _ _ S'.ok (.refl _ _ _) trivial fun t' e => by rw [hmap] at e; cases e; exact hev0
    | not y =>
      obtain ⟨b, k1, u1, rfl, hb, hu1⟩ := hev
      walk_at "sts"; walk_at "nm"; walk_at "sts"; walk_at "s0"; walk_at "sts"; walk_at "eqf"; walk_at "sts"; walk_at "nm"; walk_at "sts"; walk_at "s1"
      exact hK _ _ _ _ _ S'.ok (.refl _ _ _) trivial fun t' e => by rw [hmap] at e; cases e; exact hu1
    | _ => cases hxl
  have S16 := S15.after k16 G16 fun _ q => q
  have hys16 : Each (TIn I16) (x.lits.map T.symOf) ws := ⟨by rw [hlen16, hfs15.1, List.length_map], fun j u t' e e' => hr16 j u e t' e'⟩
  walk_at "sts"
  refine cmp_ne_list S16.ok (n := 2) (Room.deeper (R.le (by omega)) _) (hl15.le G16.le) hl16 (hys15.le fun _ _ z => z.le G16.le) hys16 (fun x hx => syms_h hx) ?_
  walk_at "sts"
  have hle16 : Le I8 I16 := hle15.trans G16.le
  have hE16 := hE11.le hle16
  have hT16 := hT11.le hle16
  have V16 : View w I16 x ev a l e us := ⟨V.v, V.ii.le hle16, V.la, V.ll, V.lm, V.lc, V.tu.le hle16, V.ks.le fun _ _ z => z.le hle16⟩
  have hhop : x.hop ≤ 5 := Nat.le_trans (hop_le x) hx
  refine wpAny_Assign_Name ?_
  refine MethodCall_ ?_
  walk_at "nm"
  refine V16.meth S16.ok (by simp) (methFacts w _).2.2 (by cases x.isNot <;> kernel_rfl) ?_
  refine callWith_K0 S16.ok.X (by cases x.isNot <;> kernel_rfl) ?_
  refine lit_call 5 x hhop S16.ok (Room.le (R.deeper _) (by omega)) hE16 fun lv I17 h17 g17 t17 k17 G17 hL17 => ?_
  have S17 := S16.after k17 G17 fun _ q => q
  refine put S17 (by kernel_rfl) rfl fun h18 S18 _ => ?_
  have hE18 := hE16.le G17.le
  have hT18 := hT16.le G17.le
  have hxl6 : (x.low false).h ≤ 6 := Nat.le_trans (low_h x false) (by omega)
  walk_at "sts"
  refine Call_ ?_
  refine nm_glob (v := .ref 620) S18.ok rfl (by kernel_rfl) rfl (by kernel_rfl) (by kernel_rfl) ?_
  walk_at "cw"; walk_at "sts"; walk_at "nm"; walk_at "sts"
  refine ⟨S18.ok.X, seen_call 6 _ hxl6 S18.ok (Room.le (R.deeper _) (by omega)) hL17 fun r1 I19 h19 g19 t19 k19 G19 z19 => ?_⟩
  have S19 := S18.after k19 G19 fun _ q => q
  walk_at "sts"
  refine Call_ ?_
  refine nm_glob (v := .ref 632) S19.ok rfl (by kernel_rfl) rfl (by kernel_rfl) (by kernel_rfl) ?_
  walk_at "cw"; walk_at "sts"; walk_at "nm"; walk_at "sts"
  refine ⟨S19.ok.X, low_call 5 x false hx S19.ok (Room.le (R.deeper _) (by omega)) (hT18.le G19.le) fun r2 I20 h20 g20 t20 k20 G20 z20 => ?_⟩
  have S20 := S19.after k20 G20 fun _ q => q
  walk_at "sts"
  refine cmp_ne_tree (x := x.low false) S20.ok (Room.le (R.deeper _) (by omega)) (z19.le G20.le) z20 ?_
  walk_at "sts"
  refine Call_ ?_
  refine nm_glob (v := .ref 620) S20.ok rfl (by kernel_rfl) rfl (by kernel_rfl) (by kernel_rfl) ?_
  walk_at "cw"; walk_at "sts"
  have hL20 := (hL17.le G19.le).le G20.le
  obtain ⟨a2, l2, e2, us2, V2⟩ := hL20.view S20.ok
  refine MethodCall_ ?_
  walk_at "nm"
  refine V2.meth S20.ok (by simp) (methFacts w _).2.2 (by cases (x.low false).isNot <;> kernel_rfl) ?_
  refine callWith_K0 S20.ok.X (by cases (x.low false).isNot <;> kernel_rfl) ?_
  refine lit_call 6 _ (Nat.le_trans (hop_le _) hxl6) S20.ok (Room.le (R.deeper _) (by omega)) hL20 fun r3 I21 h21 g21 t21 k21 G21 z21 => ?_
  rw [low_low] at z21
  have S21 := S20.after k21 G21 fun _ q => q
  walk_at "sts"
  refine ⟨S21.ok.X, seen_call 6 _ hxl6 S21.ok (Room.le (R.deeper _) (by omega)) z21 fun r4 I22 h22 g22 t22 k22 G22 z22 => ?_⟩
  have S22 := S21.after k22 G22 fun _ q => q
  walk_at "sts"
  refine Call_ ?_
  refine nm_glob (v := .ref 620) S22.ok rfl (by kernel_rfl) rfl (by kernel_rfl) (by kernel_rfl) ?_
  walk_at "cw"; walk_at "sts"; walk_at "nm"; walk_at "sts"
  refine ⟨S22.ok.X, seen_call 6 _ hxl6 S22.ok (Room.le (R.deeper _) (by omega)) ((hL20.le G21.le).le G22.le) fun r5 I23 h23 g23 t23 k23 G23 z23 => ?_⟩
  have S23 := S22.after k23 G23 fun _ q => q
  walk_at "sts"
  refine cmp_ne_tree (x := x.low false) S23.ok (Room.le (R.deeper _) (by omega)) (z22.le G23.le) z23 ?_
  walk_at "sts"
  have hle23 : Le _ I23 := G19.le.trans (G20.le.trans (G21.le.trans (G22.le.trans G23.le)))
  refine Call_ ?_
  refine nm_glob (v := .ref 620) S23.ok rfl (by kernel_rfl) rfl (by kernel_rfl) (by kernel_rfl) ?_
  walk_at "cw"; walk_at "sts"; walk_at "nm"; walk_at "sts"
  refine ⟨S23.ok.X, seen_call 5 _ hx S23.ok (Room.le (R.deeper _) (by omega)) (hE18.le hle23) fun r6 I24 h24 g24 t24 k24 G24 z24 => ?_⟩
  have S24 := S23.after k24 G24 fun _ q => q
  have hT24 := (hT18.le hle23).le G24.le
  walk_at "sts"; walk_at "nm"; walk_at "sts"
  refine cmp_ne_tree (x := x) S24.ok (Room.le (R.deeper _) (by omega)) z24 hT24 ?_
  walk_at "sts"
  refine wpAny_Assign_Name (wpAny_mono (Q := fun v' s => ∃ y I' h' t' l', T.h y ≤ 7 ∧ y.isNot = true ∧ TIn I' y v' ∧ s = ⟨h', g24, d, t', o⟩ ∧ St w B Mt h I h.objs.size (fun z => List.lookup z l') I' h' g24) ?_ (fun v' s hzz => ?_) fun _ _ e => e)
  · walk_at "sts"
    refine Call_ ?_
    refine nm_boot (v := .builtin "len") S24.ok rfl (by kernel_rfl) rfl rfl (by kernel_rfl) (by kernel_rfl) (by decide +kernel) (by kernel_rfl) ?_
    walk_at "cwb"; walk_at "sts"
    refine nm_loc S24 rfl (by kernel_rfl) (v := .ref P) (by with_unfolding_all rfl) (by kernel_rfl) ?_
    walk_at "sts"
    refine len_lst S24.ok (hP.le S24.G.le) (by omega) fun _ t2 => ?_
    walk_at "sts"
    refine PyProof.Rows.mod_int (by decide) ?_
    walk_at "sts"
    refine eq_int_is _ rfl ?_
    walk_at "sts"
    cases hc : (((vs.length : Nat) : Int).fmod 2 == 0) with
    | true =>
      walk_at "sts"; walk_at "nm"; walk_at "sts"
      refine new_tup' S24 (by simp) fun h25 I25 S25 G25 ht25 => ?_
      walk_at "sts"
      refine new_tup' S25 (by simp) fun h26 I26 S26 G26 ht26 => ?_
      exact ⟨.not (.not x), _, _, _, _, by simp only [T.h]; omega, rfl, ⟨_, _, _, rfl, ht26, _, _, _, rfl, ht25.le G26.le, (hT24.le G25.le).le G26.le⟩, rfl, S26⟩
    | false =>
      walk_at "sts"; walk_at "nm"; walk_at "sts"
      refine new_tup' S24 (by simp) fun h25 I25 S25 G25 ht25 => ?_
      exact ⟨.not x, _, _, _, _, by simp only [T.h]; omega, rfl, ⟨_, _, _, rfl, ht25, hT24.le G25.le⟩, rfl, S25⟩
  obtain ⟨y, I26, h26, t26, l26, hy7, hyn, hT26, rfl, S26⟩ := hzz
  refine put S26 (by kernel_rfl) rfl fun h27 S27 _ => ?_
  walk_at "sts"
  refine BoolOp_and ?_
  walk_at "sts"
  refine Call_ ?_
  refine nm_glob (v := .ref 620) S27.ok rfl (by kernel_rfl) rfl (by kernel_rfl) (by kernel_rfl) ?_
  walk_at "cw"; walk_at "sts"
  refine MethodCall_ ?_
  refine Call_ ?_
  refine nm_glob (v := .ref 615) S27.ok rfl (by kernel_rfl) rfl (by kernel_rfl) (by kernel_rfl) ?_
  walk_at "cw"; walk_at "sts"; walk_at "nm"; walk_at "sts"
  refine ⟨S27.ok.X, expr_call 7 y hy7 S27.ok (Room.le (R.deeper _) (by omega)) hT26 fun v28 I28 h28 g28 t28 k28 G28 z28 => ?_⟩
  have S28 := S27.after k28 G28 fun _ q => q
  obtain ⟨a3, l3, e3, us3, V3⟩ := z28.view S28.ok
  refine V3.meth S28.ok (by simp) (can_meth w hyn).1 (by kernel_rfl) ?_
  refine callWith_K0 S28.ok.X (by kernel_rfl) ?_
  refine cancel_call S28.ok (Room.le (R.deeper _) (by omega)) z28 hyn fun r29 I29 h29 g29 t29 k29 G29 z29 => ?_
  have S29 := S28.after k29 G29 fun _ q => q
  walk_at "sts"
  refine ⟨S29.ok.X, seen_call 7 _ (Nat.le_trans (strip_h y) hy7) S29.ok (Room.le (R.deeper _) (by omega)) z29 fun r30 I30 h30 g30 t30 k30 G30 z30 => ?_⟩
  have S30 := S29.after k30 G30 fun _ q => q
  have hT30 := ((hT26.le G28.le).le G29.le).le G30.le
  walk_at "sts"
  refine Call_ ?_
  refine nm_glob (v := .ref 639) S30.ok rfl (by kernel_rfl) rfl (by kernel_rfl) (by kernel_rfl) ?_
  walk_at "cw"; walk_at "sts"; walk_at "nm"; walk_at "sts"
  refine ⟨S30.ok.X, pairs_call S30.ok (Room.le (R.deeper _) (by omega)) hT30 fun r31 I31 h31 g31 t31 k31 G31 z31 => ?_⟩
  have S31 := S30.after k31 G31 fun _ q => q
  have hT31 := hT30.le G31.le
  walk_at "sts"
  refine cmp_eq_tree (x := y.strip) S31.ok (Room.le (R.deeper _) (by have := strip_h y; omega)) (z30.le G31.le) z31 ?_
  walk_at "sts"
  refine BoolOp_one ?_
  walk_at "sts"
  refine Call_ ?_
  refine nm_glob (v := .ref 620) S31.ok rfl (by kernel_rfl) rfl (by kernel_rfl) (by kernel_rfl) ?_
  walk_at "cw"; walk_at "sts"
  refine MethodCall_ ?_
  refine Call_ ?_
  refine nm_glob (v := .ref 615) S31.ok rfl (by kernel_rfl) rfl (by kernel_rfl) (by kernel_rfl) ?_
  walk_at "cw"; walk_at "sts"; walk_at "nm"; walk_at "sts"
  refine ⟨S31.ok.X, expr_call 7 y hy7 S31.ok (Room.le (R.deeper _) (by omega)) hT31 fun v32 I32 h32 g32 t32 k32 G32 z32 => ?_⟩
  have S32 := S31.after k32 G32 fun _ q => q
  obtain ⟨a4, l4, e4, us4, V4⟩ := z32.view S32.ok
  refine V4.meth S32.ok (by simp) (methFacts w _).2.2 (by cases y.isNot <;> kernel_rfl) ?_
  refine callWith_K0 S32.ok.X (by cases y.isNot <;> kernel_rfl) ?_
  refine lit_call 7 y (Nat.le_trans (hop_le _) hy7) S32.ok (Room.le (R.deeper _) (by omega)) z32 fun r33 I33 h33 g33 t33 k33 G33 z33 => ?_
  have S33 := S32.after k33 G33 fun _ q => q
  have hyl : (y.low false).h ≤ 8 := Nat.le_trans (low_h y false) (by omega)
  walk_at "sts"
  refine ⟨S33.ok.X, seen_call 8 _ hyl S33.ok (Room.le (R.deeper _) (by omega)) z33 fun r34 I34 h34 g34 t34 k34 G34 z34 => ?_⟩
  have S34 := S33.after k34 G34 fun _ q => q
  have hT34 := ((hT31.le G32.le).le G33.le).le G34.le
  walk_at "sts"
  refine Call_ ?_
  refine nm_glob (v := .ref 632) S34.ok rfl (by kernel_rfl) rfl (by kernel_rfl) (by kernel_rfl) ?_
  walk_at "cw"; walk_at "sts"; walk_at "nm"; walk_at "sts"
  refine ⟨S34.ok.X, low_call 7 y false hy7 S34.ok (Room.le (R.deeper _) (by omega)) hT34 fun r35 I35 h35 g35 t35 k35 G35 z35 => ?_⟩
  have S35 := S34.after k35 G35 fun _ q => q
  walk_at "sts"
  refine cmp_eq_tree (x := y.low false) S35.ok (Room.le (R.deeper _) (by omega)) (z34.le G35.le) z35 ?_
  exact hQ _ _ _ _ _ S35.ok S35.G rfl

end
end Mine
namespace Mine
theorem lookup_filter {p : Addr → Bool} {a : Addr} {ob : Obj} : ∀ {l : List (Addr × Obj)}, (l.filter fun q => p q.1).lookup a = some ob → l.lookup a = some ob ∧ p a = true
  | [], e => by cases e
  | (b, q) :: r, e => by
    cases hp : p b with
    | true =>
      rw [List.filter_cons_of_pos (by simpa using hp), List.lookup_cons] at e
      rw [List.lookup_cons]
      cases hab : a == b with
      | true => rw [hab] at e; exact ⟨e, by rw [eq_of_beq hab]; exact hp⟩
      | false => rw [hab] at e; exact lookup_filter e
    | false =>
      rw [List.filter_cons_of_neg (by simpa using hp)] at e
      obtain ⟨e1, e2⟩ := lookup_filter e
      rw [List.lookup_cons]
      cases hab : a == b with
      | true => rw [eq_of_beq hab] at e2; rw [hp] at e2; cases e2
      | false => exact ⟨e1, e2⟩
theorem top_hidden {w : World} {h : Heap} {p : Program} {loose : List Str} {mg mb : Str → Option Value} (X : (KK w.params).In h) (T : TopRead p loose mg mb h) (e1 : h.get? P1 = some (tabObj #[])) (e2 : h.get? P2 = some (tabObj #[])) : Top0 w (hideAll h [P1, P2]) := by
  have get : ∀ {a : Addr} {q : Obj}, h.get? a = some q → a ≠ P1 → a ≠ P2 → (hideAll h [P1, P2]).get? a = some q := fun e n1 n2 => hideAll_get _ e (by simp only [List.mem_cons, List.not_mem_nil, or_false]; exact fun z => z.elim n1 n2)
  have ns : ∀ {a : Addr} {m : Str → Option Value}, h.Ns a m → (hideAll h [P1, P2]).Ns a m := fun {a m} ⟨q, es, ep, e, hd, r⟩ =>
    ⟨q, es, ep, get e (fun z => by subst z; rw [e1] at e; cases e; cases hd) (fun z => by subst z; rw [e2] at e; cases e; cases hd), hd, r⟩
  refine ⟨fun a q e => ?_, p, loose, mg, mb, ⟨ns T.g, ns T.b, let ⟨mc, a, b⟩ := T.nolimit; ⟨mc, ns a, b⟩, T.builtins, T.free⟩⟩
  obtain ⟨e3, e4⟩ := lookup_filter (p := fun a => a != P1 && a != P2) e
  rw [Bool.and_eq_true, bne_iff_ne, bne_iff_ne] at e4
  exact get (X _ _ e3) e4.1 e4.2
theorem ok_hidden {w : World} {h : Heap} {g : Array GenState} {p : Program} {loose : List Str} {mg mb : Str → Option Value} (X : (KK w.params).In h) (T : TopRead p loose mg mb h) (hg : g = #[]) : Ok w (hideAll h [P1, P2]) (fun a => (hideAll h [P1, P2]).get? a) h g := by
  have e1 : h.get? P1 = some (tabObj #[]) := X _ _ (by kernel_rfl)
  have e2 : h.get? P2 = some (tabObj #[]) := X _ _ (by kernel_rfl)
  exact ⟨top_hidden X T e1 e2, fun _ _ e => e, fun _ _ e => of_hideAll _ e, hideAll_none _ (by simp), hideAll_none _ (by simp), .inl e1, .inl e2, .of_eq hg⟩
theorem code_tab1 {w : World} {h : Heap} (X : (KK w.params).In h) : isCodeTable h P1 := by
  have z : ∃ ob vs, (KK w.params).lookup 352 = some ob ∧ ob.cls = .type "code" ∧ ob.data = .fields vs ∧ vs[11]? = some (.ref P1) := ⟨_, _, rfl, rfl, rfl, rfl⟩
  obtain ⟨ob, vs, a, b, c, d⟩ := z
  exact ⟨352, ob, vs, X _ _ a, b, c, d⟩
theorem code_tab2 {w : World} {h : Heap} (X : (KK w.params).In h) : isCodeTable h P2 := by
  have z : ∃ ob vs, (KK w.params).lookup 46 = some ob ∧ ob.cls = .type "code" ∧ ob.data = .fields vs ∧ vs[11]? = some (.ref P2) := ⟨_, _, rfl, rfl, rfl, rfl⟩
  obtain ⟨ob, vs, a, b, c, d⟩ := z
  exact ⟨46, ob, vs, X _ _ a, b, c, d⟩
theorem old_tab {P : Addr} {l c : Nat} {h h' : Heap} (hc : isCodeTable h P) (e : h.get? P = some (tabObj #[])) (t : TabAt P l c h') : asItWas h h' P (tabObj #[]) := by
  rcases t with t | ⟨v, t⟩
  · exact .inl t
  · exact .inr (.inl ⟨hc, rfl, #[], #[rawInt l, rawInt c, v], rfl, t⟩)
theorem old_of {w : World} {B h h' : Heap} {I I' : Im} {g : Array GenState} (X : (KK w.params).In h) (k : Ok w B I' h' g) (G : Grow Mt h I h' I') : OldK h h' := by
  have e1 : h.get? P1 = some (tabObj #[]) := X _ _ (by kernel_rfl)
  have e2 : h.get? P2 = some (tabObj #[]) := X _ _ (by kernel_rfl)
  refine ⟨fun b q e => ?_, fun b q e => G.ex b q e⟩
  by_cases h1 : b = P1
  · subst h1; rw [e1] at e; cases e; exact old_tab (code_tab1 X) e1 k.t1
  · by_cases h2 : b = P2
    · subst h2; rw [e2] at e; cases e; exact old_tab (code_tab2 X) e2 k.t2
    · exact .inl (G.kp b q (fun z => z.elim h1 h2) e)
theorem room_top : Room callerA 60 := ⟨rfl, ⟨[], rfl⟩, by decide, by decide⟩
theorem keys_hd : ∀ {q : Program} {loose : List Str} {XP : (Str → Option Value) → Heap → Prop} {as : List Addr} {K : Params → Frag} {n t : Nat} {w : World} {s : Shared}, obsZ as s = valZ K n t w → (∀ P, as = (K P).map (·.1)) → (K w.params).In s.heap := fun y e => (z_facts e y).2.1
theorem fin0 : PySem.Challenge.rw_bp5002_01.Holds := by
  refine Mine.hd ?_
  intro w s₀ s₁ mg mb G Y fa ob pm cd doc dV kV ho hd hcd hD hmg hg args vals as L hpre hlay hrd hwl hlo
  have KX : (KK w.params).In s₁.heap := InK.keeps w _ _ (z_facts (fun P => by kernel_rfl) Y).2.1 (Laid.keeps L)
  refine Ground.open G ?_
  intro T B D TE TW
  have TR := topRead_of T
  have k := ok_hidden KX TR hg
  have efa := hmg.symm.trans (mg_of (k.X) T.g (v := .ref 644) (by kernel_rfl))
  obtain rfl : fa = 644 := by injection efa with efa; injection efa
  wrow_args hpre hlay hrd hwl hlo
  rename_i ns _ _ _ _ _ _ _ P vs _ hL _ _ _ hI _ hlen _
  have hobj := script_obj L hL
  have n1 : P ≠ P1 := fun z => by have e1 : s₁.heap.get? P1 = some (tabObj #[]) := KX _ _ (by kernel_rfl); rw [z, e1] at hobj; cases hobj
  have n2 : P ≠ P2 := fun z => by have e1 : s₁.heap.get? P2 = some (tabObj #[]) := KX _ _ (by kernel_rfl); rw [z, e1] at hobj; cases hobj
  have hPI : Lst (fun a => (hideAll s₁.heap [P1, P2]).get? a) P vs := ⟨_, hideAll_get _ hobj (by simp only [List.mem_cons, List.not_mem_nil, or_false]; exact fun z => z.elim n1 n2)⟩
  have hvl : vs.length ≤ 1000000 := by have := hI.length; omega
  refine law_call (d := s₁.drawn) (o := s₁.os) (t := s₁.toks) (g := s₁.gens) (h := s₁.heap) k room_top hPI hI hvl ?_
  rintro r I' h' g' t' k' G' rfl
  refine ⟨.inl ⟨.bool true, .bool true, [], rfl, ?_, .bool true, ?_, fun _ => ⟨List.nodup_nil, fun _ z => by cases z⟩⟩, old_of KX k' G', rfl, k'.bare⟩
  · refine raisesW_false ?_
    wrow_none_raised
  · wrow_post
end Mine
theorem PySem.Challenge.cw_bp5002_01_holds : PySem.Challenge.rw_bp5002_01.Holds := by
  exact Mine.fin0
