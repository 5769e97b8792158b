import PyProof.Rows.All
import Wide.All
import OpenK.AllK
import Wide.FinOn
import PySem.Challenge.RW_nb0102_01
set_option Elab.async false

section
open PySem PySem.W PyProof.Rows PySem.Calls
set_option maxRecDepth 100000
namespace Mine

noncomputable abbrev pw : Program := PySem.Challenge.pw_nb0102_01

noncomputable def fnParams : Stmt → Arguments | .FunctionDef _ a _ _ _ _ _ _ _ _ => a | _ => default
noncomputable def fnBody : Stmt → List Stmt | .FunctionDef _ _ b _ _ _ _ _ _ _ => b | _ => []
noncomputable def fnScope : Stmt → Scope | .FunctionDef _ _ _ _ _ _ s _ _ _ => s | _ => default
noncomputable def fnPos : Stmt → Pos | .FunctionDef _ _ _ _ _ _ _ _ _ p => p | _ => default
noncomputable def nthS : List Stmt → Nat → Stmt
  | [], _ => .Pass default
  | s :: _, 0 => s
  | _ :: r, n + 1 => nthS r n
noncomputable abbrev stAt (i : Nat) : Stmt := nthS pw.main.body i
/-- the def within suffixed_err -/
noncomputable abbrev nestSt : Stmt := nthS (fnBody (stAt 15)) 0
noncomputable abbrev nqual : Str := "suffixed_err.<locals>.coord_repr"

noncomputable def frs (l : List Env) : List Addr := l.filterMap (·.frame)

/-- what the call leans on: the heap that the top left (the table of suffixed_err's code hidden), the names -/
structure Glb where
  base : Heap
  mg : Str → Option Value
  mb : Str → Option Value
  P : Addr
  c : Addr
  C : Addr

/-- the table of inner code objects: empty, or it holds the one inner def's code -/
noncomputable def TabOk (ps : Array Value) (h : Heap) : Prop :=
  ps = #[] ∨ ∃ (c' : Addr) (o : Obj) (vs : Array Value) (tq : Tok), ps = #[rawInt (fnPos nestSt).line, rawInt (fnPos nestSt).col, .ref c'] ∧ h.get? c' = some o ∧ o.data = .fields vs ∧ vs[1]? = some (.str nqual tq)
/-- no code object: its second field is no text -/
noncomputable def NotCode (o : Obj) : Prop := ∀ vs x t, o.data = .fields vs → vs[1]? ≠ some (.str x t)
theorem NotCode.seq {o : Obj} {vs : Array Value} {n : Nat} (h : o.data = .seq vs n) : NotCode o := fun _ _ _ q => by rw [h] at q; cases q
theorem NotCode.fields {o : Obj} {vs : Array Value} {v : Value} (h : o.data = .fields vs) (h1 : vs[1]? = some v) (hv : ∀ x t, v ≠ .str x t) : NotCode o := fun ws x t q r => by
  rw [h] at q; cases q; rw [h1] at r; exact hv x t (Option.some.inj r)
noncomputable def Glb.Tab (G : Glb) (h : Heap) : Prop := ∃ ps, h.get? G.P = some (tabObj ps) ∧ TabOk ps h

/-- h' goes on from h: all that was is as it was, but frames (S) get slots and the table P may grow -/
structure Ext (S : List Addr) (P : Addr) (h h' : Heap) : Prop where
  same : ∀ b o, h.get? b = some o → b ∉ S → b ≠ P → h'.get? b = some o
  slots : ∀ b o, h.get? b = some o → b ∈ S → ∃ sl, h'.get? b = some { o with slots := sl }

theorem Ext.refl (S : List Addr) (P : Addr) (h : Heap) : Ext S P h h := ⟨fun _ _ e _ _ => e, fun _ o e _ => ⟨o.slots, e⟩⟩
theorem Ext.trans {S : List Addr} {P : Addr} {h₁ h₂ h₃ : Heap} (x : Ext S P h₁ h₂) (y : Ext S P h₂ h₃) : Ext S P h₁ h₃ :=
  ⟨fun b o e h1 h2 => y.same b o (x.same b o e h1 h2) h1 h2, fun b o e h1 =>
    let ⟨_, e1⟩ := x.slots b o e h1
    let ⟨sl, e2⟩ := y.slots b _ e1 h1
    ⟨sl, e2⟩⟩

structure St (G : Glb) (hin : Heap) (outer : List Env) (L : Addr) (h₀ h : Heap) (m : Str → Option Value) (news : List (Addr × Obj)) : Prop where
  ns : h.Ns L m
  nL : h₀.get? L = none
  keep : h₀.StaysIn h
  inn : ∀ b o, hin.get? b = some o → b ∉ frs outer → b ≠ G.P → h₀.get? b = some o
  fro : ∀ b o, hin.get? b = some o → b ∈ frs outer → ∃ sl, h.get? b = some { o with slots := sl }
  nfr : ∀ b ∈ frs outer, h₀.get? b = none ∧ b ≠ L ∧ b ≠ G.P
  ff : h.FunFrames G.base outer
  bs : G.base.StaysIn h₀
  nP : h₀.get? G.P = none
  LP : L ≠ G.P
  tab : G.Tab h
  N : ∀ p ∈ news, h.get? p.1 = some p.2 ∧ p.1 ≠ L ∧ h₀.get? p.1 = none ∧ p.1 ∉ frs outer ∧ p.1 ≠ G.P
  sz : hin.objs.size ≤ L
  nd : (news.map (·.1)).Nodup

section
variable {G : Glb} {hin : Heap} {outer : List Env} {L : Addr} {h₀ h h' : Heap} {m m' : Str → Option Value} {news : List (Addr × Obj)}

theorem ne_of_get {h : Heap} {a b : Addr} {o o' : Obj} (e : h.get? a = some o) (e' : h.get? b = some o') (hn : o ≠ o') : a ≠ b := fun q => by
  subst q; rw [e] at e'; exact hn (Option.some.inj e')

theorem Glb.Tab.code {h h' : Heap} (t : G.Tab h) (k : ∀ b o vs, h.get? b = some o → o.data = .fields vs → h'.get? b = some o) : G.Tab h' := by
  obtain ⟨ps, e, t⟩ := t
  refine ⟨ps, k _ _ _ e rfl, ?_⟩
  rcases t with t | ⟨c', o, vs, tq, e1, e2, e4, e5⟩
  · exact .inl t
  · exact .inr ⟨c', o, vs, tq, e1, k _ _ _ e2 e4, e4, e5⟩

theorem St.size (S : St G hin outer L h₀ h m news) : hin.objs.size ≤ h.objs.size := Nat.le_trans S.sz (Nat.le_of_lt S.ns.lt)

theorem St.ext (S : St G hin outer L h₀ h m news) : Ext (frs outer) G.P hin h :=
  ⟨fun b o e h1 h2 => S.keep b o (S.inn b o e h1 h2), fun b o e h1 => S.fro b o e h1⟩

/-- a store into the frame -/
theorem St.set (S : St G hin outer L h₀ h m news) (hn : h'.Ns L m') (hs : Heap.SameBut L h h') : St G hin outer L h₀ h' m' news where
  ns := hn
  nL := S.nL
  keep := fun b o e => (hs.2 b fun q => by rw [q, S.nL] at e; cases e).trans (S.keep b o e)
  inn := S.inn
  fro := fun b o e hb => let ⟨sl, e'⟩ := S.fro b o e hb; ⟨sl, (hs.2 b (S.nfr b hb).2.1).trans e'⟩
  nfr := S.nfr
  ff := by
    obtain ⟨oL, es, ep, eL, dL, _⟩ := S.ns
    obtain ⟨oL', es', ep', eL', dL', _⟩ := hn
    have key : ∀ l : List Env, (∀ b ∈ frs l, b ≠ L) → h.FunFrames G.base l → h'.FunFrames G.base l := by
      intro l
      induction l with
      | nil => intro _ _; trivial
      | cons env rest ih =>
        intro hne hl
        obtain ⟨hk, ⟨A, o, hf, hn, ho, hd⟩, hr⟩ := hl
        refine ⟨hk, ⟨A, o, hf, hn, (hs.2 A (hne A ?_)).trans ho, hd⟩, ih (fun b hb => hne b ?_) hr⟩
        · simp [frs, hf]
        · unfold frs at hb ⊢
          rw [List.filterMap_cons, hf]
          exact .tail _ hb
    exact key outer (fun b hb => (S.nfr b hb).2.1) S.ff
  bs := S.bs
  nP := S.nP
  LP := S.LP
  tab := by
    obtain ⟨oL, es, ep, eL, dL, _⟩ := S.ns
    refine S.tab.code fun b o vs e hd => (hs.2 b ?_).trans e
    rintro rfl
    rw [eL] at e; cases e; rw [dL] at hd; cases hd
  N := fun p hp => ⟨(hs.2 p.1 (S.N p hp).2.1).trans (S.N p hp).1, (S.N p hp).2⟩
  sz := S.sz
  nd := S.nd

theorem funFrames_keep {base h h' : Heap} (k : ∀ b o, h.get? b = some o → h'.get? b = some o) {l : List Env} (hl : h.FunFrames base l) : h'.FunFrames base l :=
  hl.of_keeps fun b o e _ => ⟨o, k b o e, rfl⟩

/-- all is kept, more may be there -/
theorem St.grow (S : St G hin outer L h₀ h m news) (k : ∀ b o, h.get? b = some o → h'.get? b = some o) : St G hin outer L h₀ h' m news where
  ns := S.ns.keeps k
  nL := S.nL
  keep := fun b o e => k _ _ (S.keep b o e)
  inn := S.inn
  fro := fun b o e hb => let ⟨sl, e'⟩ := S.fro b o e hb; ⟨sl, k _ _ e'⟩
  nfr := S.nfr
  ff := funFrames_keep k S.ff
  bs := S.bs
  nP := S.nP
  LP := S.LP
  tab := S.tab.code fun b o _ e _ => k b o e
  N := fun p hp => ⟨k _ _ (S.N p hp).1, (S.N p hp).2⟩
  sz := S.sz
  nd := S.nd

theorem St.lt_of_frs (S : St G hin outer L h₀ h m news) {b : Addr} (hb : b ∈ frs outer) : b < h.objs.size := by
  obtain ⟨_, o, ho, _⟩ := S.ff.mem hb
  exact Heap.lt_size ho
theorem St.lt_P (S : St G hin outer L h₀ h m news) : G.P < h.objs.size := let ⟨_, e, _⟩ := S.tab; Heap.lt_size e
theorem St.none_size (S : St G hin outer L h₀ h m news) : h₀.get? h.objs.size = none := by
  cases q : h₀.get? h.objs.size with
  | none => rfl
  | some o => exact absurd (Heap.lt_size (S.keep _ _ q)) (Nat.lt_irrefl _)

/-- a new object -/
theorem St.push (S : St G hin outer L h₀ h m news) (o : Obj) (hf : o.isFreed = false := by rfl) : St G hin outer L h₀ (h.push o) m ((h.objs.size, o) :: news) :=
  let S' := S.grow (h' := h.push o) fun _ _ e => Heap.get?_push_of_some o e
  { S' with
    N := fun p hp => by
      rcases List.mem_cons.mp hp with rfl | hp
      · exact ⟨Heap.get?_push_size _ hf, Nat.ne_of_gt S.ns.lt, S.none_size, fun q => absurd (S.lt_of_frs q) (Nat.lt_irrefl _), Nat.ne_of_gt S.lt_P⟩
      · exact S'.N p hp
    nd := List.nodup_cons.mpr ⟨fun q => by
      obtain ⟨p, hp, e⟩ := List.mem_map.mp q
      have := Heap.lt_size (S.N p hp).1
      rw [e] at this
      exact absurd this (Nat.lt_irrefl _), S.nd⟩ }

theorem St.sub {news' : List (Addr × Obj)} (S : St G hin outer L h₀ h m news) (hs : news'.Sublist news) : St G hin outer L h₀ h m news' :=
  { S with N := fun p hp => S.N p (hs.subset hp), nd := S.nd.sublist (hs.map _) }

theorem St.get (S : St G hin outer L h₀ h m news) {a : Addr} {o : Obj} (hm : (a, o) ∈ news) : h.get? a = some o := (S.N _ hm).1
theorem nd_apart {pre post : List (Addr × Obj)} {d : Addr} {o : Obj} (h : ((pre ++ (d, o) :: post).map (·.1)).Nodup) : (∀ p ∈ pre, p.1 ≠ d) ∧ ∀ p ∈ post, p.1 ≠ d := by
  rw [List.map_append, List.nodup_append] at h
  obtain ⟨_, h2, h3⟩ := h
  refine ⟨fun p hp e => h3 p.1 (List.mem_map_of_mem hp) d (by simp) e, fun p hp e => ?_⟩
  rw [List.map_cons] at h2
  exact (List.nodup_cons.mp h2).1 (List.mem_map.mpr ⟨p, hp, e⟩)
/-- an object of the ledger is turned -/
theorem St.turnAt {pre post : List (Addr × Obj)} {d : Addr} {o o' : Obj} (S : St G hin outer L h₀ h m (pre ++ (d, o) :: post)) (e : h'.get? d = some o') (hc : NotCode o) (k : ∀ b x, b ≠ d → h.get? b = some x → h'.get? b = some x) :
    St G hin outer L h₀ h' m (pre ++ (d, o') :: post) := by
  obtain ⟨h1, h2⟩ := nd_apart S.nd
  obtain ⟨D1, D2, D3, D4, D5⟩ := S.N (d, o) (by simp)
  obtain ⟨oL, es, ep, hL, r⟩ := S.ns
  refine ⟨⟨oL, es, ep, k L _ (Ne.symm D2) hL, r⟩, S.nL, fun b x q => k b x (fun z => ?_) (S.keep b x q), S.inn, fun b x q hb => ?_, S.nfr, ?_, S.bs, S.nP, S.LP, ?_, fun p hp => ?_, S.sz, by simpa using S.nd⟩
  · rw [z, D3] at q; cases q
  · obtain ⟨sl, e'⟩ := S.fro b x q hb
    exact ⟨sl, k b _ (fun z => D4 (z ▸ hb)) e'⟩
  · have key : ∀ l : List Env, (∀ b ∈ frs l, b ≠ d) → h.FunFrames G.base l → h'.FunFrames G.base l := by
      intro l
      induction l with
      | nil => intro _ _; trivial
      | cons env rest ih =>
        intro hne hl
        obtain ⟨hk, ⟨A, x, hf', hn, ho, hd⟩, hr⟩ := hl
        refine ⟨hk, ⟨A, x, hf', hn, k A _ (hne A ?_) ho, hd⟩, ih (fun b hb => hne b ?_) hr⟩
        · simp [frs, hf']
        · unfold frs at hb ⊢
          rw [List.filterMap_cons, hf']
          exact .tail _ hb
    exact key outer (fun b hb z => D4 (z ▸ hb)) S.ff
  · obtain ⟨ps, eP, t⟩ := S.tab
    refine ⟨ps, k _ _ (Ne.symm D5) eP, ?_⟩
    rcases t with t | ⟨c', x, vs, tq, e1, e2, e4, e5⟩
    · exact .inl t
    · refine .inr ⟨c', x, vs, tq, e1, k _ _ (fun z => ?_) e2, e4, e5⟩
      rw [z] at e2
      have e2' : some o = some x := D1.symm.trans e2
      cases e2'; exact hc _ _ _ e4 e5
  · rcases List.mem_append.mp hp with q | q
    · have Q := S.N p (List.mem_append_left _ q); exact ⟨k _ _ (h1 p q) Q.1, Q.2⟩
    · rcases List.mem_cons.mp q with rfl | q
      · exact ⟨e, D2, D3, D4, D5⟩
      · have Q := S.N p (List.mem_append_right _ (.tail _ q)); exact ⟨k _ _ (h2 p q) Q.1, Q.2⟩
/-- an object of the ledger is turned, no matter to what -/
theorem St.dropAt {pre post : List (Addr × Obj)} {d : Addr} {o : Obj} (S : St G hin outer L h₀ h m (pre ++ (d, o) :: post)) (hc : NotCode o) (k : ∀ b x, b ≠ d → h.get? b = some x → h'.get? b = some x) :
    St G hin outer L h₀ h' m (pre ++ post) := by
  obtain ⟨h1, h2⟩ := nd_apart S.nd
  obtain ⟨D1, D2, D3, D4, D5⟩ := S.N (d, o) (by simp)
  obtain ⟨oL, es, ep, hL, r⟩ := S.ns
  refine ⟨⟨oL, es, ep, k L _ (Ne.symm D2) hL, r⟩, S.nL, fun b x q => k b x (fun z => ?_) (S.keep b x q), S.inn, fun b x q hb => ?_, S.nfr, ?_, S.bs, S.nP, S.LP, ?_, fun p hp => ?_, S.sz, S.nd.sublist (by simp)⟩
  · rw [z, D3] at q; cases q
  · obtain ⟨sl, e'⟩ := S.fro b x q hb
    exact ⟨sl, k b _ (fun z => D4 (z ▸ hb)) e'⟩
  · have key : ∀ l : List Env, (∀ b ∈ frs l, b ≠ d) → h.FunFrames G.base l → h'.FunFrames G.base l := by
      intro l
      induction l with
      | nil => intro _ _; trivial
      | cons env rest ih =>
        intro hne hl
        obtain ⟨hk, ⟨A, x, hf', hn, ho, hd⟩, hr⟩ := hl
        refine ⟨hk, ⟨A, x, hf', hn, k A _ (hne A ?_) ho, hd⟩, ih (fun b hb => hne b ?_) hr⟩
        · simp [frs, hf']
        · unfold frs at hb ⊢
          rw [List.filterMap_cons, hf']
          exact .tail _ hb
    exact key outer (fun b hb z => D4 (z ▸ hb)) S.ff
  · obtain ⟨ps, eP, t⟩ := S.tab
    refine ⟨ps, k _ _ (Ne.symm D5) eP, ?_⟩
    rcases t with t | ⟨c', x, vs, tq, e1, e2, e4, e5⟩
    · exact .inl t
    · refine .inr ⟨c', x, vs, tq, e1, k _ _ (fun z => ?_) e2, e4, e5⟩
      rw [z] at e2
      have e2' : some o = some x := D1.symm.trans e2
      cases e2'; exact hc _ _ _ e4 e5
  · rcases List.mem_append.mp hp with q | q
    · have Q := S.N p (List.mem_append_left _ q); exact ⟨k _ _ (h1 p q) Q.1, Q.2⟩
    · have Q := S.N p (List.mem_append_right _ (.tail _ q)); exact ⟨k _ _ (h2 p q) Q.1, Q.2⟩

theorem ns_slots {o : Obj} {sl : Array (Option Value)} {a : Addr} (hn : h.Ns a m) (e : h.get? a = some o) (e' : h'.get? a = some { o with slots := sl }) : h'.Ns a m := by
  obtain ⟨o₁, es, ep, h1, h2, h3⟩ := hn
  rw [e] at h1; cases h1
  exact ⟨_, es, ep, e', h2, h3⟩

theorem funFrames_ext {base : Heap} {S : List Addr} {P : Addr} (x : Ext S P h h') {l : List Env} (hl : h.FunFrames base l) (hs : ∀ b ∈ frs l, b ∈ S) : h'.FunFrames base l := by
  induction l with
  | nil => trivial
  | cons env rest ih =>
    obtain ⟨hk, ⟨A, o, hf, hn, ho, hd⟩, hr⟩ := hl
    have hA : A ∈ S := hs A (by simp [frs, hf])
    obtain ⟨sl, e⟩ := x.slots A o ho hA
    refine ⟨hk, ⟨A, _, hf, hn, e, hd⟩, ih hr fun b hb => hs b ?_⟩
    unfold frs at hb ⊢
    rw [List.filterMap_cons, hf]
    exact .tail _ hb

/-- behind a call, or behind what a raise does to the frames -/
theorem St.call (S : St G hin outer L h₀ h m news) (x : Ext (L :: frs outer) G.P h h') (t : G.Tab h') : St G hin outer L h₀ h' m news where
  ns := by
    obtain ⟨o, es, ep, e, r⟩ := S.ns
    obtain ⟨sl, e'⟩ := x.slots L o e (.head _)
    exact ns_slots ⟨o, es, ep, e, r⟩ e e'
  nL := S.nL
  keep := fun b o e => x.same b o (S.keep b o e) (fun q => by
    rcases List.mem_cons.mp q with q | q
    · rw [q, S.nL] at e; cases e
    · rw [(S.nfr b q).1] at e; cases e) fun q => by rw [q, S.nP] at e; cases e
  inn := S.inn
  fro := fun b o e hb => by
    obtain ⟨sl, e'⟩ := S.fro b o e hb
    obtain ⟨sl', e''⟩ := x.slots b _ e' (.tail _ hb)
    exact ⟨sl', e''⟩
  nfr := S.nfr
  ff := funFrames_ext x S.ff fun _ hb => .tail _ hb
  bs := S.bs
  nP := S.nP
  LP := S.LP
  tab := t
  N := fun p hp => by
    obtain ⟨a1, a2, a3, a4, a5⟩ := S.N p hp
    exact ⟨x.same _ _ a1 (fun q => (List.mem_cons.mp q).elim a2 a4) a5, a2, a3, a4, a5⟩
  sz := S.sz
  nd := S.nd

/-- the frames, with one's own -/
theorem St.frames (S : St G hin outer L h₀ h m news) {env : Env} (hf : env.frame = some L) (hk : env.scope.kind = .function := by rfl) : h.FunFrames G.base (env :: outer) := by
  refine .cons (by rw [hk]; intro q; cases q) hf S.ns ?_ S.ff
  cases q : G.base.get? L with
  | none => rfl
  | some o => have := S.nL; rw [S.bs _ _ q] at this; cases this

/-- what is hidden to get a new ground -/
noncomputable def hidden (G : Glb) (outer : List Env) (L : Addr) (news : List (Addr × Obj)) : List Addr := L :: G.P :: (frs outer ++ news.map (·.1))

/-- all objects but the frames, the table and the ledger's are taken as ground -/
theorem St.rebase (S : St G hin outer L h₀ h m news) : St G hin outer L (hideAll h (hidden G outer L news)) h m news ∧ h₀.StaysIn (hideAll h (hidden G outer L news)) := by
  have st : h₀.StaysIn (hideAll h (hidden G outer L news)) := fun b o e => hideAll_get _ (S.keep b o e) fun q => by
    unfold hidden at q
    rcases List.mem_cons.mp q with q | q
    · rw [q, S.nL] at e; cases e
    · rcases List.mem_cons.mp q with q | q
      · rw [q, S.nP] at e; cases e
      · rcases List.mem_append.mp q with q | q
        · rw [(S.nfr b q).1] at e; cases e
        · obtain ⟨p, hp, rfl⟩ := List.mem_map.mp q
          rw [(S.N p hp).2.2.1] at e; cases e
  refine ⟨{ S with nL := hideAll_none _ (.head _), keep := fun _ _ e => of_hideAll _ e, inn := fun b o e h1 h2 => st _ _ (S.inn b o e h1 h2), nfr := fun b hb => ⟨hideAll_none _ (.tail _ (.tail _ (List.mem_append_left _ hb))), (S.nfr b hb).2⟩, bs := fun b o e => st _ _ (S.bs b o e), nP := hideAll_none _ (.tail _ (.head _)), N := fun p hp => ?_ }, st⟩
  obtain ⟨a1, a2, _, a4, a5⟩ := S.N p hp
  exact ⟨a1, a2, hideAll_none _ (.tail _ (.tail _ (List.mem_append_right _ (List.mem_map_of_mem hp)))), a4, a5⟩

/-- the table alone is turned -/
theorem St.but (S : St G hin outer L h₀ h m news) (k : Heap.ExtBut G.P h h') (t : G.Tab h') : St G hin outer L h₀ h' m news where
  ns := S.ns.extBut k S.LP
  nL := S.nL
  keep := fun b o e => k b o (fun q => by rw [q, S.nP] at e; cases e) (S.keep b o e)
  inn := S.inn
  fro := fun b o e hb => let ⟨sl, e'⟩ := S.fro b o e hb; ⟨sl, k b _ (S.nfr b hb).2.2 e'⟩
  nfr := S.nfr
  ff := by
    have key : ∀ l : List Env, (∀ b ∈ frs l, b ≠ G.P) → h.FunFrames G.base l → h'.FunFrames G.base l := by
      intro l
      induction l with
      | nil => intro _ _; trivial
      | cons env rest ih =>
        intro hne hl
        obtain ⟨hk, ⟨A, o, hf, hn, ho, hd⟩, hr⟩ := hl
        refine ⟨hk, ⟨A, o, hf, hn, k A o (hne A ?_) ho, hd⟩, ih (fun b hb => hne b ?_) hr⟩
        · simp [frs, hf]
        · unfold frs at hb ⊢
          rw [List.filterMap_cons, hf]
          exact .tail _ hb
    exact key outer (fun b hb => (S.nfr b hb).2.2) S.ff
  bs := S.bs
  nP := S.nP
  LP := S.LP
  tab := t
  N := fun p hp => let ⟨a1, a2, a3, a4, a5⟩ := S.N p hp; ⟨k _ _ a5 a1, a2, a3, a4, a5⟩
  sz := S.sz
  nd := S.nd
end
end Mine
end

section
open PySem PySem.W PyProof.Rows PySem.Calls
set_option maxRecDepth 100000
namespace Mine

/-- a frame's map with one name more -/
noncomputable def upd (m : Str → Option Value) (x : Str) (v : Value) : Str → Option Value := fun y => if y = x then some v else m y
theorem upd_here {m : Str → Option Value} {x : Str} {v : Value} : upd m x v x = some v := if_pos rfl
theorem upd_off {m : Str → Option Value} {x y : Str} {v : Value} {r : Option Value} (hn : (y == x) = false) (e : m y = r) : upd m x v y = r :=
  (if_neg (fun q => by rw [q] at hn; simp at hn)).trans e

noncomputable abbrev bmVE : List Value := [.type "ValueError", .type "Exception", .type "BaseException", .type "object"]
/-- the text's own exception -/
inductive ClsOk (h : Heap) (C : Addr) : Prop
  | mk (nm q : Str) (N : Addr) (bs : List Value) (hdct : Bool) (sn : List Str) (sub : List Value) (ab : Bool) (col : Option Bool) (dd : Option Addr) (k0 k1 k2 k3 k5 : Option Value) (mN : Str → Option Value)
      (_ : h.get? C = some (excClassObj nm q C N bs bmVE hdct sn sub ab col dd k0 k1 k2 k3 k5 "ValueError.__new__")) (_ : h.Ns N mN) (_ : mN "__init__" = none) (_ : mN "__str__" = none) : ClsOk h C
theorem ClsOk.keeps {h h' : Heap} {C : Addr} (x : ClsOk h C) (k : ∀ b o, h.get? b = some o → h'.get? b = some o) : ClsOk h' C := by
  cases x with
  | mk nm q N bs hdct sn sub ab col dd k0 k1 k2 k3 k5 mN e hn r1 r2 => exact ⟨nm, q, N, bs, hdct, sn, sub, ab, col, dd, k0, k1, k2, k3, k5, mN, k _ _ e, hn.keeps k, r1, r2⟩

/-- the facts of the ground that no call turns -/
structure Glb.Ok (G : Glb) : Prop where
  g : G.base.Ns mainGlobals G.mg
  b : G.base.Ns builtinsNs G.mb
  nolimit : G.base.NoLimit
  noP : G.base.get? G.P = none
  hd : CodeHd G.base G.c G.P
  bmain : G.base.BuiltinsAt G.mg G.P
  cls : ClsOk G.base G.C
  clsN : G.mg "TOMLDecodeError" = some (.ref G.C)
  len : G.mg "len" = none ∧ G.mb "len" = some (.builtin "len")
  ixe : G.mg "IndexError" = none ∧ G.mb "IndexError" = some (.type "IndexError")
  vle : G.mg "ValueError" = none ∧ G.mb "ValueError" = some (.type "ValueError")

/-- the i-th statement of the text, a def, stands under its name -/
structure Glb.Fn (G : Glb) (name : Str) (i : Nat) : Prop where
  at_ : ∃ f o pm cd doc, G.mg name = some (.ref f) ∧ G.base.get? f = some o ∧ o.data = .func (docDef name (fnParams (stAt i)) (fnBody (stAt i)) (fnScope (stAt i)) pm cd doc) ∧ G.base.CodeRec cd name

structure Pre (G : Glb) (outer : List Env) (h : Heap) : Prop where
  bs : G.base.StaysIn h
  ff : h.FunFrames G.base outer
  tab : G.Tab h

theorem St.pre {G : Glb} {hin : Heap} {outer : List Env} {L : Addr} {h₀ h : Heap} {m : Str → Option Value} {news : List (Addr × Obj)} (S : St G hin outer L h₀ h m news) {env : Env} (hf : env.frame = some L) (hk : env.scope.kind = .function := by rfl) : Pre G (env :: outer) h :=
  ⟨fun b o e => S.keep b o (S.bs b o e), S.frames hf hk, S.tab⟩

theorem enter {w : World} {A : Around} {R : Result → Shared → Prop} {s : Shared} {G : Glb} {outer : List Env} {fd : FuncData} {body : List Stmt} {f : Addr} {o : Obj} {args : Args} {binds : List (Str × Value)}
    (K : G.Ok) (hp : Pre G outer s.heap) (hroom : A.depth < recursionLimit) (ho : s.heap.get? f = some o) (hdata : o.data = .func fd) (hcd : s.heap.CodeRec fd.code fd.qualname) (hbody : fd.body = .stmts body)
    (hbind : BindsTo s fd args binds) (hcell : (fd.scope.names.all fun x => x.2 != .cell) = true) (hloc : (binds.all fun x => fd.scope.names.lookup x.1 == some .local) = true)
    (h : ∀ h₀ h₁, St G s.heap outer s.heap.objs.size h₀ h₁ (fun x => binds.reverse.lookup x) [] → (∀ b o, s.heap.get? b = some o → b ∉ frs outer → b ≠ G.P → h₀.get? b = some o) →
      wpAny (model pw w) (A.deeper (callEnv fd s.heap.objs.size f)) (execs body (callEnv fd s.heap.objs.size f)) (fun fl s' => R (.ok (.ret (match fl with | .ret v => v | _ => .none))) s')
        (fun e s' => wpAny (model pw w) (A.deeper (callEnv fd s.heap.objs.size f)) (leaving (callEnv fd s.heap.objs.size f) e) (fun _ s'' => R (.error e) s'') (fun e' s'' => R (.error e') s'') s')
        { s with heap := h₁, toks := s.toks + binds.length })
    (hco : fd.scope.isCoroutine = false := by rfl) (hgen : fd.scope.isGenerator = false := by rfl) (hk : fd.scope.kind = .function := by rfl) :
    codeAny (model pw w) A (.call (.ref f) args) R s := by
  refine codeAny_call_def hroom ho hdata (K.nolimit.keeps hp.bs) hcd hbody hbind (fun x hx => by have := List.all_eq_true.mp hcell x hx; simpa using this) (fun x hx => by have := List.all_eq_true.mp hloc x hx; exact beq_iff_eq.mp this) (fun h₁ hn k => ?_) hco hgen hk
  have nf : ∀ b ∈ frs outer, b ≠ G.P ∧ b < s.heap.objs.size ∧ G.base.get? b = none := fun b hb => by
    obtain ⟨q, x, e, hd⟩ := hp.ff.mem hb
    refine ⟨?_, Heap.lt_size e, q⟩
    rintro rfl
    obtain ⟨ps, eP, _⟩ := hp.tab
    rw [e] at eP; cases eP
    exact hd _ rfl
  have inn : ∀ b o, s.heap.get? b = some o → b ∉ frs outer → b ≠ G.P → (hideAll s.heap (G.P :: frs outer)).get? b = some o := fun b o e h1 h2 =>
    hideAll_get _ e fun q => (List.mem_cons.mp q).elim h2 h1
  refine h (hideAll s.heap (G.P :: frs outer)) h₁ ⟨hn, ?_, fun b o e => k b o (of_hideAll _ e), inn, fun b o e _ => ⟨o.slots, k b o e⟩, fun b hb => ⟨hideAll_none _ (.tail _ hb), Nat.ne_of_lt (nf b hb).2.1, (nf b hb).1⟩, funFrames_keep k hp.ff, fun b o e => inn b o (hp.bs b o e) (fun q => ?_) (fun q => ?_), hideAll_none _ (.head _), ?_, hp.tab.code fun b o _ e _ => k b o e, (fun _ hp => nomatch hp), Nat.le_refl _, .nil⟩ inn
  · cases q : (hideAll s.heap (G.P :: frs outer)).get? s.heap.objs.size with
    | none => rfl
    | some o => exact absurd (Heap.lt_size (of_hideAll _ q)) (Nat.lt_irrefl _)
  · rw [(nf b q).2.2] at e; cases e
  · rw [q, K.noP] at e; cases e
  · obtain ⟨ps, eP, _⟩ := hp.tab
    exact Nat.ne_of_gt (Heap.lt_size eP)

section
variable {w : World} {A : Around} {E : Value → Shared → Prop} {s : Shared} {G : Glb} {hin : Heap} {outer : List Env} {L a : Addr} {h₀ : Heap} {m : Str → Option Value} {news : List (Addr × Obj)} {name : Str} {scope : Scope} {cd : Value}

/-- a name of the frame -/
theorem lo {x : Str} {pos : Pos} {v : Value} {Q : Value → Shared → Prop} (S : St G hin outer L h₀ s.heap m news) (hv : m x = some v) (h : Q v s)
    (hk : scope.kind = .function := by rfl) (hl : (envOf name scope L a cd).kindOf x = some .local := by rfl)
    (hd : (x == ("__debug__" : Str)) = false := by decide) :
    wpAny (model pw w) A (eval (.Name x pos) (envOf name scope L a cd)) Q E s := wpAny_Name (wpAny_loadName_local hk hl S.ns hv h) hd
theorem lon {x : Str} {v : Value} {Q : Value → Shared → Prop} (S : St G hin outer L h₀ s.heap m news) (hv : m x = some v) (h : Q v s)
    (hk : scope.kind = .function := by rfl) (hl : (envOf name scope L a cd).kindOf x = some .local := by rfl) :
    wpAny (model pw w) A (loadName (envOf name scope L a cd) x) Q E s := wpAny_loadName_local hk hl S.ns hv h
/-- a name of the text -/
theorem gl {x : Str} {pos : Pos} {v : Value} {Q : Value → Shared → Prop} (K : G.Ok) (S : St G hin outer L h₀ s.heap m news) (hv : G.mg x = some v) (h : Q v s)
    (hk : scope.kind = .function := by rfl) (hx : (envOf name scope L a cd).kindOf x = some .globalImplicit := by rfl)
    (hd : (x == ("__debug__" : Str)) = false := by decide) :
    wpAny (model pw w) A (eval (.Name x pos) (envOf name scope L a cd)) Q E s :=
  Calls.Name_function_global hk hx (Calls.loadGlobal_global (env := envOf name scope L a cd) (K.g.keeps fun b o e => S.keep b o (S.bs b o e)) hv h) hd
/-- a built-in's name -/
theorem bi {x : Str} {pos : Pos} {v : Value} {Q : Value → Shared → Prop} (K : G.Ok) (S : St G hin outer L h₀ s.heap m news) (hm : G.mg x = none) (hv : G.mb x = some v) (h : Q v s)
    (hk : scope.kind = .function := by rfl) (hx : (envOf name scope L a cd).kindOf x = some .globalImplicit := by rfl)
    (hd : (x == ("__debug__" : Str)) = false := by decide) :
    wpAny (model pw w) A (eval (.Name x pos) (envOf name scope L a cd)) Q E s :=
  Calls.Name_function_global hk hx (Calls.loadGlobal_builtin (env := envOf name scope L a cd) (K.g.keeps fun b o e => S.keep b o (S.bs b o e)) hm (K.b.keeps fun b o e => S.keep b o (S.bs b o e)) hv h) hd
/-- a store -/
theorem sto {x : Str} {v : Value} {h : Heap} {tk : Nat} {Q : Unit → Shared → Prop} (S : St G hin outer L h₀ h m news)
    (hQ : ∀ h' tk', St G hin outer L h₀ h' (upd m x v) news → Q () { s with heap := h', toks := tk' })
    (hk : scope.kind = .function := by rfl) (hl : (envOf name scope L a cd).kindOf x = some .local := by rfl) :
    wpAny (model pw w) A (storeName (envOf name scope L a cd) x v) Q E { s with heap := h, toks := tk } :=
  wpAny_storeName_local (s := { s with heap := h, toks := tk }) hl S.ns (fun h' hn hs => hQ h' _ (S.set hn hs))
    (by show (scope.kind == .class || (scope.kind == .module && L != mainGlobals)) = false; rw [hk]; rfl)
theorem stoK {x : Str} {v : Value} {h : Heap} {tk : Nat} {Q : Unit → Shared → Prop} (S : St G hin outer L h₀ h m news)
    (hQ : ∀ h' tk', St G hin outer L h₀ h' (upd m x v) news → (∀ b o, b ≠ L → h.get? b = some o → h'.get? b = some o) → Q () { s with heap := h', toks := tk' })
    (hk : scope.kind = .function := by rfl) (hl : (envOf name scope L a cd).kindOf x = some .local := by rfl) :
    wpAny (model pw w) A (storeName (envOf name scope L a cd) x v) Q E { s with heap := h, toks := tk } :=
  wpAny_storeName_local (s := { s with heap := h, toks := tk }) hl S.ns (fun h' hn hs => hQ h' _ (S.set hn hs) fun b o hb e => (hs.2 b hb).trans e)
    (by show (scope.kind == .class || (scope.kind == .module && L != mainGlobals)) = false; rw [hk]; rfl)
theorem codeRec_off {h h' : Heap} {cd : Value} {q : Str} (x : h.CodeRec cd q) (hn : h.Ns L m) (k : ∀ b o, b ≠ L → h.get? b = some o → h'.get? b = some o) : h'.CodeRec cd q := by
  obtain ⟨c, o, vs, t, e, ho, hd, r⟩ := x
  refine ⟨c, o, vs, t, e, k c o (fun z => ?_) ho, hd, r⟩
  obtain ⟨oL, es, ep, eL, dL, _⟩ := hn
  rw [z, eL] at ho; cases ho; rw [dL] at hd; cases hd
end
end Mine
namespace Mine
section
variable {w : World} {A : Around} {R : Result → Shared → Prop} {s : Shared} {G : Glb} {outer : List Env}
/-- a call of a def of the text, by place -/
theorem enterDef {name : Str} {params : Arguments} {body : List Stmt} {scope : Scope} {pm cd doc : Value} {f : Addr} {o : Obj} {args : Args} {binds : List (Str × Value)}
    (K : G.Ok) (hp : Pre G outer s.heap) (hroom : A.depth < recursionLimit) (ho : G.base.get? f = some o) (hdata : o.data = .func (docDef name params body scope pm cd doc)) (hcd : G.base.CodeRec cd name)
    (hbind : bindArgs (docDef name params body scope pm cd doc) args = pure binds)
    (h : ∀ h₀ h₁, St G s.heap outer s.heap.objs.size h₀ h₁ (fun x => binds.reverse.lookup x) [] → (∀ b o, s.heap.get? b = some o → b ∉ frs outer → b ≠ G.P → h₀.get? b = some o) →
      wpAny (model pw w) (A.deeper (envOf name scope s.heap.objs.size f cd)) (execs body (envOf name scope s.heap.objs.size f cd)) (fun fl s' => R (.ok (.ret (match fl with | .ret v => v | _ => .none))) s')
        (fun e s' => wpAny (model pw w) (A.deeper (envOf name scope s.heap.objs.size f cd)) (leaving (envOf name scope s.heap.objs.size f cd) e) (fun _ s'' => R (.error e) s'') (fun e' s'' => R (.error e') s'') s')
        { s with heap := h₁, toks := s.toks + binds.length })
    (hcell : (scope.names.all fun x => x.2 != .cell) = true := by rfl) (hloc : (binds.all fun x => scope.names.lookup x.1 == some .local) = true := by rfl)
    (hco : scope.isCoroutine = false := by rfl) (hgen : scope.isGenerator = false := by rfl) (hk : scope.kind = .function := by rfl) :
    codeAny (model pw w) A (.call (.ref f) args) R s :=
  enter K hp hroom (hp.bs _ _ ho) hdata (hcd.keeps hp.bs) rfl (.of_eq hbind) hcell hloc h hco hgen hk
end
end Mine

namespace Mine
/-- the state is told anew, its tokens forgotten; the fields as they are -/
theorem tk2 {α : Type} {M : Model} {A : Around} {E : Value → Shared → Prop} {t : Sem α} {Q : α → Shared → Prop} {s : Shared} (h : ∀ tk, wpAny M A t Q E ⟨s.heap, s.gens, s.drawn, tk, s.os⟩) : wpAny M A t Q E s := h s.toks
/-- the state is told anew, its tokens forgotten -/
theorem tk_ {α : Type} {M : Model} {A : Around} {E : Value → Shared → Prop} {t : Sem α} {Q : α → Shared → Prop} {s s' : Shared} (h : ∀ tk, wpAny M A t Q E { s with heap := s'.heap, toks := tk }) (e : s' = { s with heap := s'.heap, toks := s'.toks } := by rfl) : wpAny M A t Q E s' := by
  rw [e]; exact h _
end Mine
namespace Mine
noncomputable def HasS (m : Str → Option Value) (x : Str) (v : Str) : Prop := ∃ t, m x = some (.str v t)
noncomputable def HasI (m : Str → Option Value) (x : Str) (i : Int) : Prop := ∃ t, m x = some (.int i t)
theorem HasS.here {m : Str → Option Value} {x v : Str} {t : Tok} : HasS (upd m x (.str v t)) x v := ⟨t, upd_here⟩
theorem HasI.here {m : Str → Option Value} {x : Str} {i : Int} {t : Tok} : HasI (upd m x (.int i t)) x i := ⟨t, upd_here⟩
theorem HasS.off {m : Str → Option Value} {x y v : Str} {u : Value} (h : HasS m y v) (hn : (y == x) = false) : HasS (upd m x u) y v := let ⟨t, e⟩ := h; ⟨t, upd_off hn e⟩
theorem HasI.off {m : Str → Option Value} {x y : Str} {i : Int} {u : Value} (h : HasI m y i) (hn : (y == x) = false) : HasI (upd m x u) y i := let ⟨t, e⟩ := h; ⟨t, upd_off hn e⟩
theorem fmod_nat (r k : Nat) : (r : Int).fmod (k : Int) = ((r % k : Nat) : Int) := by
  rw [Int.fmod_eq_emod_of_nonneg _ (Int.natCast_nonneg k)]; rfl
theorem fdiv_nat (r k : Nat) : (r : Int).fdiv (k : Int) = ((r / k : Nat) : Int) := by
  rw [Int.fdiv_eq_ediv_of_nonneg _ (Int.natCast_nonneg k)]; rfl
end Mine
end

section
open PySem PySem.W PyProof.Rows PySem.Calls
set_option maxRecDepth 100000
namespace Mine

theorem owner_fs : Manifest.owners.lookup (String.ofList ['t', 'e', 's', 'n', 'e', 'z', 'o', 'r', 'f'].reverse) = some Manifest.sig_frozenset := by kernel_rfl
theorem slot_fs_contains : Slot "frozenset" "__contains__" "frozenset.__contains__" :=
  .of (owner := "frozenset") (n := "__contains__") (by rw [typeLookup_type, builtinLookup_eq_fast]; kernel_rfl) (by decide +kernel) (by decide +kernel) (by decide +kernel)
    (by first | exact .inl (by decide +kernel) | exact .inr (by decide +kernel)) (by rw [isSubtype_type]; kernel_rfl)
theorem args_fs_contains_2 (a b : Value) : argsOk "frozenset.__contains__" ⟨[a, b], []⟩ := by
  unfold argsOk; rw [signature?_of (id := "frozenset.__contains__") (n := ['_', '_', 's', 'n', 'i', 'a', 't', 'n', 'o', 'c', '_', '_']) (o := ['t', 'e', 's', 'n', 'e', 'z', 'o', 'r', 'f']) (by kernel_rfl) owner_fs]; kernel_rfl
theorem entry_fs_contains : entryFor table "frozenset.__contains__" = some Builtin.«frozenset.__contains__» := entryFor_of_tree (by kernel_rfl)
theorem plainAttrs_fs : PlainAttrs "frozenset" :=
  ⟨⟨"object.__getattribute__", by rw [typeLookup_type, builtinLookup_eq_fast]; kernel_rfl, by decide +kernel⟩, by rw [typeLookup_type, builtinLookup_eq_fast]; kernel_rfl⟩
theorem slot_fs_isdisjoint : Slot "frozenset" "isdisjoint" "frozenset.isdisjoint" :=
  .of (owner := "frozenset") (n := "isdisjoint") (by rw [typeLookup_type, builtinLookup_eq_fast]; kernel_rfl) (by decide +kernel) (by decide +kernel) (by decide +kernel)
    (by first | exact .inl (by decide +kernel) | exact .inr (by decide +kernel)) (by rw [isSubtype_type]; kernel_rfl)
theorem type_fs_isdisjoint : typeOf (.builtin "frozenset.isdisjoint") = pure (.type "method_descriptor") := by show builtinType _ = _; rw [builtinType_eq_fast]; kernel_rfl
theorem args_fs_isdisjoint_2 (a b : Value) : argsOk "frozenset.isdisjoint" ⟨[a, b], []⟩ := by
  unfold argsOk; rw [signature?_of (id := "frozenset.isdisjoint") (n := ['t', 'n', 'i', 'o', 'j', 's', 'i', 'd', 's', 'i']) (o := ['t', 'e', 's', 'n', 'e', 'z', 'o', 'r', 'f']) (by kernel_rfl) owner_fs]; kernel_rfl
theorem entry_fs_isdisjoint : entryFor table "frozenset.isdisjoint" = some Builtin.«frozenset.isdisjoint» := entryFor_of_tree (by kernel_rfl)
theorem entry_fs_isdisjoint_loop : entryFor table "frozenset.isdisjoint.loop" = some Builtin.«frozenset.isdisjoint.loop» := entryFor_of_tree (by kernel_rfl)

/-- a frozenset of texts -/
noncomputable def FSet (w : World) (h : Heap) (a : Addr) (S : Str → Bool) : Prop :=
  ∃ o es ep t, h.get? a = some o ∧ o.cls = .type "frozenset" ∧ o.dict = none ∧ o.data = .set es ep t ∧ ElemsOf (strKind pw w) es.toList ∧
    (∀ k, S k = true ↔ ∃ e ∈ es.toList, (strKind pw w).is k e.2 = true) ∧ es.size < scanBound ∧ t.fits es.size = true

section
variable {w : World} {A : Around} {E : Value → Shared → Prop} {s : Shared} {a : Addr} {S : Str → Bool} {k : Str} {t : Tok}

theorem FSet.keeps {h h' : Heap} (x : FSet w h a S) (hk : ∀ b o, h.get? b = some o → h'.get? b = some o) : FSet w h' a S :=
  let ⟨o, es, ep, t, e, r⟩ := x; ⟨o, es, ep, t, hk _ _ e, r⟩
theorem FSet.typeIs (x : FSet w s.heap a S) : s.TypeIs (.ref a) "frozenset" := let ⟨o, _, _, _, e, c, _⟩ := x; ⟨o, e, c⟩
theorem FSet.noDict (x : FSet w s.heap a S) : ∀ b, Value.ref a = .ref b → ∃ ob, s.heap.get? b = some ob ∧ ob.dict = none :=
  fun b e => by injection e with e; subst e; exact let ⟨o, _, _, _, ho, _, hc, _⟩ := x; ⟨o, ho, hc⟩

theorem find_fs {x : Value} {Q : Option Nat → Shared → Prop} (hkey : (strKind pw w).is k x = true) (hsc : x.scannable = true) (hS : FSet w s.heap a S)
    (h : ∀ r : Option Nat, r.isSome = S k → Q r s) : wpAny (model pw w) A (setFind a x ((strKind pw w).hash k)) Q E s := by
  obtain ⟨o, es, ep, t, ho, _, _, hd, hel, hmem, hb, hf⟩ := hS
  unfold setFind setFindIn
  refine wpAny_bind (wpAny_setState_of ho hd hf ?_)
  dsimp only
  rw [byScan_of hsc hb hel]
  simp only [↓reduceIte]
  refine wpAny_bind (wpAny_rule ?_)
  refine wpAny_bind (wpAny_setScan_of hkey ho hd hf hel ?_)
  have hk := hmem k
  cases hr : List.findIdx? (fun e => (strKind pw w).is k e.2) es.toList with
  | none =>
    dsimp only
    refine wpAny_pure (h none ?_)
    rw [Option.isSome_none, eq_comm, ← Bool.not_eq_true, hk]
    rintro ⟨e, he, hpe⟩
    have := List.findIdx?_eq_none_iff.mp hr e he
    rw [hpe] at this; exact Bool.noConfusion this
  | some j =>
    dsimp only
    refine wpAny_pure (h (some (0 + j)) ?_)
    rw [Option.isSome_some, eq_comm, hk]
    obtain ⟨hj, hpj, _⟩ := List.findIdx?_eq_some_iff_getElem.mp hr
    exact ⟨es.toList[j], List.getElem_mem hj, hpj⟩

theorem contains_fs {Q : Bool → Shared → Prop} (hS : FSet w s.heap a S) (h : Q (S k) { s with toks := s.toks + 1 }) : wpAny (model pw w) A (setContains a (.str k t)) Q E s := by
  unfold setContains
  refine wpAny_holding ?_
  refine wpAny_bind ((strKind pw w).pyHash (strKind_is pw w k t) ?_)
  refine wpAny_bind (find_fs (s := { s with toks := s.toks + 1 }) (strKind_is pw w k t) rfl hS fun r hr => ?_)
  refine wpAny_pure ?_
  rw [hr]; exact h

theorem containsV_fs {Q : Bool → Shared → Prop} (hS : FSet w s.heap a S) (h : Q (S k) { s with toks := s.toks + 1 }) : wpAny (model pw w) A (contains (.ref a) (.str k t)) Q E s := by
  unfold contains
  try with_reducible refine wpAny_holding ?_
  refine wpAny_bind (wpAny_specialOf hS.typeIs slot_fs_contains.lookup ?_)
  show wpAny _ _ (if (some (Value.builtin "frozenset.__contains__") == some Value.none) = true then _ else _) _ E s
  rw [if_neg (by rw [beq_builtin_none]; exact Bool.false_ne_true)]
  refine wpAny_bind (wpAny_callSpecialUnlessNone?_slot (name := Str.ofString "__contains__") hS.typeIs slot_fs_contains
    (wpAny_call_entry slot_fs_contains hS.typeIs entry_fs_contains ?_ (args_fs_contains_2 _ _)))
  unfold Builtin.«frozenset.__contains__» Builtin.Frozenset.oneOther
  simp only [List.isEmpty_nil, bind_assoc]
  unfold Builtin.Frozenset.addrOf Builtin.Frozenset.withSetAsKey
  refine wpAny_bind (wpAny_pure ?_)
  try dsimp only
  refine wpAny_bind (wpAny_pure ?_)
  try dsimp only
  refine wpAny_bind (wpAny_tryCatch ?_)
  refine contains_fs hS ?_
  show wpAny _ _ (ret (Value.bool (S k))) _ _ _
  exact wpAny_pure ⟨_, rfl, wpAny_truthy_bool h⟩

theorem in_fs {Q : Value → Shared → Prop} (hS : FSet w s.heap a S) (h : Q (.bool (S k)) { s with toks := s.toks + 1 }) : wpAny (model pw w) A (compareOp .In (.str k t) (.ref a)) Q E s := by
  show wpAny _ _ (do return .bool (← contains (.ref a) (.str k t))) Q E s
  exact wpAny_bind (containsV_fs hS (wpAny_pure h))
theorem notIn_fs {Q : Value → Shared → Prop} (hS : FSet w s.heap a S) (h : Q (.bool (!S k)) { s with toks := s.toks + 1 }) : wpAny (model pw w) A (compareOp .NotIn (.str k t) (.ref a)) Q E s := by
  show wpAny _ _ (do return .bool (!(← contains (.ref a) (.str k t)))) Q E s
  exact wpAny_bind (containsV_fs hS (wpAny_pure h))

theorem iter_str {x : Str} {t : Tok} {Q : Value → Shared → Prop}
    (hQ : ∀ ty, (ty = "str_ascii_iterator" ∨ ty = "str_iterator") → Q (.ref s.heap.objs.size) { s with heap := s.heap.push { cls := .type ty, data := .fields #[.str x t, .int 0 0] } }) :
    wpAny (model pw w) A (pyIter (.str x t)) Q E s := by
  cases ha : x.cps.all (· < 128) with
  | true => exact wpAny_pyIter_ascii ha (hQ _ (.inl rfl))
  | false => exact wpAny_pyIter_wide ha (hQ _ (.inr rfl))
theorem next_str_item {it : Addr} {ty : String} {x : Str} {t : Tok} {i c : Nat} {Q : Option Value → Shared → Prop} (hty : ty = "str_ascii_iterator" ∨ ty = "str_iterator") (hit : s.heap.IsStrIter it ty x t i) (hx : x.cps[i]? = some c)
    (hQ : ∀ h', h'.IsStrIter it ty x t (i + 1) → Heap.SameBut it s.heap h' → Q (some (.str ⟨#[c]⟩ s.toks)) { s with heap := h', toks := s.toks + 1 }) :
    wpAny (model pw w) A (pyNext (.ref it)) Q E s := by
  rcases hty with rfl | rfl
  · exact wpAny_pyNext_ascii_item hit hx hQ
  · exact wpAny_pyNext_wide_item hit hx hQ
theorem next_str_end {it : Addr} {ty : String} {x : Str} {t : Tok} {i : Nat} {Q : Option Value → Shared → Prop} (hty : ty = "str_ascii_iterator" ∨ ty = "str_iterator") (hh : A.handled = none) (hit : s.heap.IsStrIter it ty x t i) (hx : x.cps[i]? = none)
    (hQ : ∀ h', Heap.ExtBut it s.heap h' → Q none { s with heap := h' }) : wpAny (model pw w) A (pyNext (.ref it)) Q E s := by
  rcases hty with rfl | rfl
  · exact wpAny_pyNext_ascii_end hh hit hx hQ
  · exact wpAny_pyNext_wide_end hh hit hx hQ

theorem plain_disj : plainId "frozenset.isdisjoint.loop" = true := by decide +kernel

theorem disj_loop {x : Str} {t : Tok} {ty : String} {h₀ : Heap} {R : Result → Shared → Prop} (hh : A.handled = none) (hty : ty = "str_ascii_iterator" ∨ ty = "str_iterator") (hS : FSet w h₀ a S)
    {it : Addr} (hn : h₀.get? it = none)
    (hR : ∀ h' tk, (∀ b o, h₀.get? b = some o → h'.get? b = some o) → R (.ok (.ret (.bool (x.cps.toList.all fun c => !S ⟨#[c]⟩)))) { s with heap := h', toks := tk }) :
    ∀ (n i : Nat) (h' : Heap) (tk : Nat), (∀ b o, h₀.get? b = some o → h'.get? b = some o) → h'.IsStrIter it ty x t i → i + n = x.cps.size → ((x.cps.toList.take i).all fun c => !S ⟨#[c]⟩) = true →
    codeAny (model pw w) A (.builtin "frozenset.isdisjoint.loop" ⟨[.ref a, .ref it], []⟩) R { s with heap := h', toks := tk } := by
  intro n
  induction n with
  | zero =>
    intro i h' tk hk' hit' hi hall
    refine codeAny_builtin entry_fs_isdisjoint_loop ?_
    rw [Around.under_plainId plain_disj]
    unfold Builtin.«frozenset.isdisjoint.loop»
    have hsz : i = x.cps.size := hi
    refine wpAny_bind (next_str_end hty hh hit' (by simp [hsz]) fun h₁ he => ?_)
    refine wpAny_pure ?_
    have e : (x.cps.toList.all fun c => !S ⟨#[c]⟩) = true := by
      rw [hsz, List.take_of_length_le (by simp)] at hall; exact hall
    have := hR h₁ tk fun b o e => he b o (fun q => by rw [q, hn] at e; cases e) (hk' b o e)
    rw [e] at this; exact this
  | succ n ih =>
    intro i h' tk hk' hit' hi hall
    refine codeAny_builtin entry_fs_isdisjoint_loop ?_
    rw [Around.under_plainId plain_disj]
    unfold Builtin.«frozenset.isdisjoint.loop»
    have hlt : i < x.cps.size := by omega
    have hc : x.cps[i]? = some x.cps[i] := Array.getElem?_eq_getElem hlt
    refine wpAny_bind (next_str_item hty hit' hc fun h₁ hit₁ hs₁ => ?_)
    have hk₁ : ∀ b o, h₀.get? b = some o → h₁.get? b = some o := fun b o e => (hs₁.2 b fun q => by rw [q, hn] at e; cases e).trans (hk' b o e)
    refine wpAny_bind (wpAny_holding (contains_fs (s := { s with heap := h₁, toks := tk + 1 }) (hS.keeps hk₁) ?_))
    generalize x.cps[i] = c at hc ⊢
    cases hSc : S ⟨#[c]⟩ with
    | true =>
      refine wpAny_pure ?_
      have e : (x.cps.toList.all fun c => !S ⟨#[c]⟩) = false := by
        rw [List.all_eq_false]
        refine ⟨c, ?_, by simp [hSc]⟩
        exact Array.mem_toList_iff.mpr (Array.mem_of_getElem? hc)
      have := hR h₁ (tk + 1 + 1) hk₁
      rw [e] at this; exact this
    | false =>
      refine wpAny_pure ⟨plainId_quiet plain_disj _, ih (i + 1) h₁ _ hk₁ hit₁ (by omega) ?_⟩
      have hci : x.cps.toList[i]? = some c := by simpa using hc
      rw [List.take_add_one, hci]
      simp only [Option.toList_some, List.all_append, hall, List.all_cons, hSc, Bool.not_false, List.all_nil, Bool.and_self]

theorem isdisjoint_fs {x : Str} {t : Tok} {Q : Value → Shared → Prop} (hh : A.handled = none) (hS : FSet w s.heap a S)
    (hQ : ∀ h' tk, (∀ b o, s.heap.get? b = some o → h'.get? b = some o) → Q (.bool (x.cps.toList.all fun c => !S ⟨#[c]⟩)) { s with heap := h', toks := tk }) :
    wpAny (model pw w) A (call (.builtin "frozenset.isdisjoint") [.ref a, .str x t]) Q E s := by
  refine wpAny_call (codeAny_call_builtin slot_fs_isdisjoint.plain entry_fs_isdisjoint ?_)
  refine slot_fs_isdisjoint.check _ _ _ _ _ _ _ _ hS.typeIs (args_fs_isdisjoint_2 _ _) ?_
  unfold Builtin.«frozenset.isdisjoint» Builtin.Frozenset.oneOther
  simp only [List.isEmpty_nil, bind_assoc]
  unfold Builtin.Frozenset.addrOf
  refine wpAny_bind (wpAny_pure ?_)
  refine wpAny_bind (wpAny_pure ?_)
  refine wpAny_bind (wpAny_typeOf (typeIs_str s x t) ?_)
  refine wpAny_bind (iter_str fun ty hty => ?_)
  refine wpAny_pure ⟨plainId_quiet plain_disj _, ?_⟩
  refine disj_loop (h₀ := s.heap) hh hty hS ?_ (fun h' tk hk => hQ h' tk hk) x.cps.size 0 _ _ (fun b o e => Heap.get?_push_of_some _ e) ⟨_, Heap.get?_push_size _ rfl, rfl, rfl⟩ (Nat.zero_add _) rfl
  exact Heap.get?_none_of_le (Nat.le_refl _)
end
end Mine
end

section
open PySem PySem.W PyProof.Rows PySem.Calls
set_option maxRecDepth 100000
namespace Mine

section
variable {G : Glb} {S : List Addr} {P : Addr} {hb h h' : Heap}
theorem Ext.upd {d : Addr} {f : Obj → Obj} (x : Ext S P hb h) (hd : hb.get? d = none) : Ext S P hb (h.update d f) :=
  have ne : ∀ b o, hb.get? b = some o → d ≠ b := fun b o e q => by rw [← q, hd] at e; cases e
  ⟨fun b o e h1 h2 => (Heap.get?_update_other h f (ne b o e)).trans (x.same b o e h1 h2), fun b o e h1 => let ⟨sl, e'⟩ := x.slots b o e h1; ⟨sl, (Heap.get?_update_other h f (ne b o e)).trans e'⟩⟩
theorem Ext.push (x : Ext S P hb h) (o : Obj) : Ext S P hb (h.push o) :=
  ⟨fun b o' e h1 h2 => Heap.get?_push_of_some o (x.same b o' e h1 h2), fun b o' e h1 => let ⟨sl, e'⟩ := x.slots b o' e h1; ⟨sl, Heap.get?_push_of_some o e'⟩⟩
theorem Ext.slotsOnly (x : Ext S P hb h) (hs : Heap.SlotsOnly S h h') : Ext S P hb h' :=
  ⟨fun b o e h1 h2 => (hs.2.1 b h1).trans (x.same b o e h1 h2), fun b o e h1 => let ⟨_, e'⟩ := x.slots b o e h1; let ⟨sl', e''⟩ := hs.2.2 b _ e'; ⟨sl', e''⟩⟩
theorem Ext.keeps (x : Ext S P hb h) (k : ∀ b o, h.get? b = some o → h'.get? b = some o) : Ext S P hb h' :=
  ⟨fun b o e h1 h2 => k _ _ (x.same b o e h1 h2), fun b o e h1 => let ⟨sl, e'⟩ := x.slots b o e h1; ⟨sl, k _ _ e'⟩⟩

theorem Glb.Tab.upd {d : Addr} {o : Obj} {f : Obj → Obj} (t : G.Tab h) (e : h.get? d = some o) (hc : NotCode o) (hP : d ≠ G.P) : G.Tab (h.update d f) := by
  obtain ⟨ps, eP, t⟩ := t
  refine ⟨ps, (Heap.get?_update_other h f hP).trans eP, ?_⟩
  rcases t with t | ⟨c', x, vs, tq, e1, e2, e4, e5⟩
  · exact .inl t
  · refine .inr ⟨c', x, vs, tq, e1, (Heap.get?_update_other h f fun z => ?_).trans e2, e4, e5⟩
    subst z
    rw [e] at e2; cases e2; exact hc _ _ _ e4 e5
theorem Glb.Tab.push (t : G.Tab h) (o : Obj) : G.Tab (h.push o) := t.code fun _ _ _ e _ => Heap.get?_push_of_some o e
theorem Glb.Tab.slotsOnly {base : Heap} {l : List Env} (t : G.Tab h) (hl : h.FunFrames base l) (hs : Heap.SlotsOnly (frs l) h h') : G.Tab h' :=
  t.code fun b o vs e hd => (hs.2.1 b fun q => by
    obtain ⟨_, x, ex, hx⟩ := hl.mem q
    rw [e] at ex; cases ex; exact hx vs hd).trans e
end

noncomputable def MsgOk (msg : Option Str) (h : Heap) (a0 : Value) (vs : Array Value) : Prop := match msg with
  | none => vs[2]? = some .none
  | some m => ∃ ta tk, a0 = .ref ta ∧ IsTup h ta #[.str m tk]
theorem MsgOk.keeps {msg : Option Str} {h h' : Heap} {a0 : Value} {vs vs' : Array Value} (x : MsgOk msg h a0 vs) (k : ∀ b o vs n, h.get? b = some o → o.data = .seq vs n → ∃ sl, h'.get? b = some { o with slots := sl }) (hv : msg = none → vs'[2]? = vs[2]?) : MsgOk msg h' a0 vs' := by
  cases msg with
  | none => exact (hv rfl).trans x
  | some m =>
    obtain ⟨ta, tk, e, o, ho, hc, n, hd⟩ := x
    obtain ⟨sl, e'⟩ := k _ _ _ _ ho hd
    exact ⟨ta, tk, e, _, e', hc, n, hd⟩

/-- where an exception's traceback says that it flies: none yet; or the mark of its newest entry -/
noncomputable def FlyAt (fl : Option Value) (hb h : Heap) (e : Addr) (vs : Array Value) : Prop := match fl with
  | none => vs[1]? = some .none
  | some x => ∃ T oT ts, vs[1]? = some (.ref T) ∧ hb.get? T = none ∧ T ≠ e ∧ h.get? T = some oT ∧ NotCode oT ∧ oT.data = .fields ts ∧ ts[3]? = some x

theorem ne_none {h : Heap} {a b : Addr} (ha : h.get? a = none) (hb : ∃ o, h.get? b = some o) : a ≠ b := fun q => by obtain ⟨o, e⟩ := hb; rw [← q, ha] at e; cases e

/-- an exception raised behind hb -/
structure Fly (G : Glb) (S : List Addr) (hb h : Heap) (e : Addr) (cls : Value) (msg : Option Str) (fl : Option Value) : Prop where
  ext : Ext S G.P hb h
  tab : G.Tab h
  new : hb.get? e = none
  P : ∃ o, hb.get? G.P = some o
  exc : ∃ oe vs a0, h.get? e = some oe ∧ oe.cls = cls ∧ oe.data = .fields vs ∧ vs[0]? = some a0 ∧ MsgOk msg h a0 vs ∧ FlyAt fl hb h e vs

section
variable {M : Model} {A : Around} {E : Value → Shared → Prop} {s : Shared} {G : Glb} {hb : Heap} {env : Env} {outer : List Env} {L e : Addr} {cls : Value} {msg : Option Str} {fl : Option Value} {x : Value} {Q : Unit → Shared → Prop}

theorem Fly.neP {S : List Addr} {h : Heap} (X : Fly G S hb h e cls msg fl) : e ≠ G.P := ne_none X.new X.P

/-- a new entry of the traceback, the frame's own -/
theorem fly_entry {h : Heap} {oe : Obj} {vs : Array Value} {a0 head : Value} {hadNext : Bool} {tk : Nat} (hfr : A.frames = some (env :: outer)) (hf : env.frame = some L) (hl : hb.FunFrames G.base (env :: outer))
    (ext : Ext (frs (env :: outer)) G.P hb h) (tab : G.Tab h) (new : hb.get? e = none) (hP : ∃ o, hb.get? G.P = some o) (he : h.get? e = some oe) (hcls : oe.cls = cls) (hd : oe.data = .fields vs) (h0 : vs[0]? = some a0) (hsz : 1 < vs.size) (hnc : NotCode oe) (hm : MsgOk msg h a0 vs)
    (hQ : ∀ h', Fly G (frs (env :: outer)) hb h' e cls msg (some (rawInt L)) → Q () { s with heap := h', toks := tk }) :
    wpAny M A (do let a ← frameOf env; let pl ← entryPlaceOf L hadNext; let b ← EntryCells.newEntry head a .none (rawInt L) .none pl; setField (.ref e) 1 b) Q E { s with heap := h, toks := tk } := by
  have hl' := funFrames_ext ext hl fun _ hb => hb
  have hene : e ∉ frs (env :: outer) := fun hm => by
    obtain ⟨_, o, ho, hnf⟩ := hl'.mem hm
    rw [he] at ho; injection ho with ho; subst ho; exact hnf vs hd
  refine wpAny_bind (wpAny_frameOf_fun (s := { s with heap := h, toks := tk }) hfr hl' hf fun h₁ hs₁ => ?_)
  refine wpAny_bind (wpAny_entryPlaceOf fun pl hpl => ?_)
  unfold EntryCells.newEntry newFields
  refine wpAny_bind (wpAny_newObj_type ?_ (hpl.sizeOk5 _ _ _ _ _))
  have hs₁' : Heap.SlotsOnly (frs (env :: outer)) h h₁ := hs₁
  have he₁ : h₁.get? e = some oe := (hs₁'.2.1 e hene).trans he
  have he₂ := Heap.get?_push_of_some (h := h₁) { cls := .type "traceback", dict := none, data := .fields ([head, .ref L, .none, rawInt L, .none] ++ (if pl.isEmpty then List.replicate 6 Value.none else pl)).toArray } he₁
  refine wpAny_setField he₂ hd hsz (hQ _ ?_)
  have hTe : h₁.objs.size ≠ e := Nat.ne_of_gt (Heap.lt_size he₁)
  have hd₃ := Obj.data_mapFields hd (·.setIfInBounds 1 (Value.ref h₁.objs.size))
  have ext₁ := ext.slotsOnly hs₁'
  have tab₁ := tab.slotsOnly hl' hs₁'
  have hT0 : hb.get? h₁.objs.size = none := by
    cases q : hb.get? h₁.objs.size with
    | none => rfl
    | some o =>
      by_cases h1 : h₁.objs.size ∈ frs (env :: outer)
      · obtain ⟨sl, e'⟩ := ext₁.slots _ _ q h1
        exact absurd (Heap.lt_size e') (Nat.lt_irrefl _)
      · by_cases h2 : h₁.objs.size = G.P
        · obtain ⟨ps, eP, _⟩ := tab₁
          rw [← h2] at eP
          exact absurd (Heap.lt_size eP) (Nat.lt_irrefl _)
        · exact absurd (Heap.lt_size (ext₁.same _ _ q h1 h2)) (Nat.lt_irrefl _)
  refine ⟨(ext₁.push _).upd new, ((tab.slotsOnly hl' hs₁').push _).upd he₂ hnc (ne_none new hP), new, hP, _, _, a0, Heap.get?_update_self _ he₂ (Obj.isFreed_of_fields hd₃), (Obj.cls_mapFields ..).trans hcls, hd₃, by simp [h0], ?_, ?_⟩
  · refine hm.keeps (fun b o ws n eb hdb => ?_) (fun _ => by simp)
    have hbe : e ≠ b := fun q => by subst q; rw [he] at eb; cases eb; rw [hd] at hdb; cases hdb
    rw [Heap.get?_update_other _ _ hbe]
    obtain ⟨sl, e'⟩ := hs₁'.2.2 b o eb
    exact ⟨sl, Heap.get?_push_of_some _ e'⟩
  · refine ⟨h₁.objs.size, _, _, by simp [hsz], hT0, hTe, (Heap.get?_update_other _ _ (Ne.symm hTe)).trans (Heap.get?_push_size _ rfl), NotCode.fields rfl (v := .ref L) (by simp) (by simp), rfl, ?_⟩
    first | (simp; done) | (rcases hpl with rfl | ⟨_, _, _, _, _, _, _, rfl⟩ <;> simp)

theorem note_new (hfr : A.frames = some (env :: outer)) (hf : env.frame = some L) (hl : hb.FunFrames G.base (env :: outer)) {h : Heap} {tk : Nat} (X : Fly G (frs (env :: outer)) hb h e cls msg none)
    (hQ : ∀ h', Fly G (frs (env :: outer)) hb h' e cls msg (some (rawInt L)) → Q () { s with heap := h', toks := tk }) : wpAny M A (noteFrame (.ref e) env) Q E { s with heap := h, toks := tk } := by
  obtain ⟨oe, vs, a0, he, hcls, hd, h0, hm, h1⟩ := X.exc
  have h1 : vs[1]? = some .none := h1
  unfold noteFrame
  simp only [hf]
  refine wpAny_bind (wpAny_field (s := { s with heap := h, toks := tk }) he hd h1 ?_)
  rw [if_neg (by decide)]
  exact fly_entry hfr hf hl X.ext X.tab X.new X.P he hcls hd h0 (Array.getElem?_eq_some_iff.mp h1).1 (NotCode.fields hd h1 (by simp)) hm hQ

theorem note_same (hf : env.frame = some L) {S : List Addr} {h : Heap} {tk : Nat} (X : Fly G S hb h e cls msg (some (rawInt L)))
    (hQ : Q () { s with heap := h, toks := tk }) : wpAny M A (noteFrame (.ref e) env) Q E { s with heap := h, toks := tk } := by
  obtain ⟨oe, vs, a0, he, hcls, hd, h0, hm, T, oT, ts, h1, hT, hTe, eT, hcT, hdT, h3⟩ := X.exc
  exact wpAny_noteFrame_inFlight (s := { s with heap := h, toks := tk }) hf he hd h1 eT hdT h3 hQ

/-- the mark of the newest entry is set -/
theorem fly_mark {S : List Addr} {h : Heap} {y : Value} (X : Fly G S hb h e cls msg (some x)) :
    ∃ oe vs T oT ts, h.get? e = some oe ∧ oe.data = .fields vs ∧ vs[1]? = some (.ref T) ∧ h.get? T = some oT ∧ oT.data = .fields ts ∧ ts[3]? = some x ∧ Fly G S hb (h.update T (Obj.mapFields (·.setIfInBounds 3 y))) e cls msg (some y) := by
  obtain ⟨oe, vs, a0, he, hcls, hd, h0, hm, T, oT, ts, h1, hT, hTe, eT, hcT, hdT, h3⟩ := X.exc
  have hd₃ := Obj.data_mapFields hdT (·.setIfInBounds 3 y)
  have h3' : 3 < ts.size := (Array.getElem?_eq_some_iff.mp h3).1
  refine ⟨oe, vs, T, oT, ts, he, hd, h1, eT, hdT, h3, X.ext.upd hT, X.tab.upd eT hcT (ne_none hT X.P), X.new, X.P, oe, vs, a0, (Heap.get?_update_other _ _ hTe).trans he, hcls, hd, h0, ?_, T, _, _, h1, hT, hTe, Heap.get?_update_self _ eT (Obj.isFreed_of_fields hd₃), ?_, hd₃, by simp [h3']⟩
  · refine hm.keeps (fun b o ws n eb hdb => ⟨o.slots, ?_⟩) (fun _ => rfl)
    have hbe : T ≠ b := fun q => by subst q; rw [eT] at eb; cases eb; rw [hdT] at hdb; cases hdb
    exact (Heap.get?_update_other _ _ hbe).trans eb
  · intro ws z tz q r
    rw [hd₃] at q; cases q
    refine hcT ts z tz hdT ?_
    simpa using r

theorem flight_set {S : List Addr} {h : Heap} {tk : Nat} {f : Option Addr} (X : Fly G S hb h e cls msg (some x))
    (hQ : ∀ h', Fly G S hb h' e cls msg (some (f.elim .none fun f => rawInt f)) → Q () { s with heap := h', toks := tk }) : wpAny M A (setFlight (.ref e) f) Q E { s with heap := h, toks := tk } := by
  obtain ⟨oe, vs, T, oT, ts, he, hd, h1, eT, hdT, h3, X'⟩ := fly_mark (y := f.elim .none fun f => rawInt f) X
  unfold setFlight
  refine wpAny_bind (wpAny_field (s := { s with heap := h, toks := tk }) he hd h1 ?_)
  rw [if_pos (show (Value.ref T != Value.none) = true from by simp)]
  exact wpAny_setField (s := { s with heap := h, toks := tk }) eT hdT (Array.getElem?_eq_some_iff.mp h3).1 (hQ _ X')

theorem note_none (hfr : A.frames = some (env :: outer)) (hf : env.frame = some L) (hl : hb.FunFrames G.base (env :: outer)) {h : Heap} {tk : Nat} (X : Fly G (frs (env :: outer)) hb h e cls msg (some .none))
    (hQ : ∀ h', Fly G (frs (env :: outer)) hb h' e cls msg (some (rawInt L)) → Q () { s with heap := h', toks := tk }) : wpAny M A (noteFrame (.ref e) env) Q E { s with heap := h, toks := tk } := by
  obtain ⟨oe, vs, T, oT, ts, he, hd, h1, eT, hdT, h3, X'⟩ := fly_mark (y := .none) X
  unfold noteFrame
  simp only [hf]
  refine wpAny_bind (wpAny_field (s := { s with heap := h, toks := tk }) he hd h1 ?_)
  rw [if_pos (show (Value.ref T != Value.none) = true from by simp)]
  refine wpAny_bind (wpAny_field (s := { s with heap := h, toks := tk }) eT hdT h3 ?_)
  rw [if_neg (show ¬ ((Value.none == rawInt L) = true) from by simp [rawInt])]
  refine wpAny_bind (wpAny_setField (s := { s with heap := h, toks := tk }) eT hdT (Array.getElem?_eq_some_iff.mp h3).1 ?_)
  obtain ⟨oe', vs', a0', he', hcls', hd', h0', hm', T', oT', ts', h1', _⟩ := X'.exc
  exact fly_entry hfr hf hl X'.ext X'.tab X'.new X'.P he' hcls' hd' h0' (Array.getElem?_eq_some_iff.mp h1').1 (NotCode.fields hd' h1' (by simp)) hm' hQ

theorem leave_new (hfr : A.frames = some (env :: outer)) (hf : env.frame = some L) (hl : hb.FunFrames G.base (env :: outer)) {h : Heap} {tk : Nat} (X : Fly G (frs (env :: outer)) hb h e cls msg none)
    (hQ : ∀ h', Fly G (frs (env :: outer)) hb h' e cls msg (some .none) → Q () { s with heap := h', toks := tk }) : wpAny M A (leaving env (.ref e)) Q E { s with heap := h, toks := tk } := by
  unfold leaving
  exact wpAny_bind (note_new hfr hf hl X fun h' X' => flight_set (f := none) X' fun h'' X'' => hQ h'' X'')
theorem leave_same (hf : env.frame = some L) {S : List Addr} {h : Heap} {tk : Nat} (X : Fly G S hb h e cls msg (some (rawInt L)))
    (hQ : ∀ h', Fly G S hb h' e cls msg (some .none) → Q () { s with heap := h', toks := tk }) : wpAny M A (leaving env (.ref e)) Q E { s with heap := h, toks := tk } := by
  unfold leaving
  exact wpAny_bind (note_same hf X (flight_set (f := none) X fun h'' X'' => hQ h'' X''))
theorem leave_none (hfr : A.frames = some (env :: outer)) (hf : env.frame = some L) (hl : hb.FunFrames G.base (env :: outer)) {h : Heap} {tk : Nat} (X : Fly G (frs (env :: outer)) hb h e cls msg (some .none))
    (hQ : ∀ h', Fly G (frs (env :: outer)) hb h' e cls msg (some .none) → Q () { s with heap := h', toks := tk }) : wpAny M A (leaving env (.ref e)) Q E { s with heap := h, toks := tk } := by
  unfold leaving
  exact wpAny_bind (note_none hfr hf hl X fun h' X' => flight_set (f := none) X' fun h'' X'' => hQ h'' X'')

/-- behind a loop's or a handler's own code: the mark is set anew -/
theorem came_back (hf : env.frame = some L) {S : List Addr} {h : Heap} {tk : Nat} (X : Fly G S hb h e cls msg (some x))
    (hQ : ∀ h', Fly G S hb h' e cls msg (some (rawInt L)) → E (.ref e) { s with heap := h', toks := tk }) : cameBackBy M A env E (.ref e) { s with heap := h, toks := tk } := by
  obtain ⟨oe, vs, a0, he, hcls, hd, h0, hm, T, oT, ts, h1, hT, hTe, eT, hcT, hdT, h3⟩ := id X.exc
  unfold cameBackBy
  refine wpAny_bind (wpAny_field (s := { s with heap := h, toks := tk }) he hd h1 ?_)
  rw [if_neg (show ¬ ((Value.ref T == Value.none) = true) from by simp)]
  rw [hf]
  exact flight_set (f := some L) X fun h' X' => hQ h' X'

theorem Fly.of_new {h h' : Heap} {S : List Addr} {cls : String} (x : Heap.NewExc h h' e cls) (tab : G.Tab h) : Fly G S h h' e (.type cls) none none := by
  obtain ⟨ob, t, he, hc, hd⟩ := x.there
  exact ⟨⟨fun b o eb _ _ => x.keeps b o eb, fun b o eb _ => ⟨o.slots, x.keeps b o eb⟩⟩, tab.code fun b o _ eb _ => x.keeps b o eb, x.new, let ⟨ps, eP, _⟩ := tab; ⟨_, eP⟩, ob, _, t, he, hc, hd, by simp, by simp [MsgOk], by simp [FlyAt]⟩
end
end Mine
end

section
open PySem PySem.W PyProof.Rows PySem.Calls
open PySem.Builtin PySem.Builtin.Str
set_option maxRecDepth 100000
namespace Mine
open PySem.StrLaws

/-- a text of one sign at a place -/
theorem at_one (x : Str) (c hi i : Nat) (hh : hi ≤ x.length) : (i + (⟨#[c]⟩ : Str).length ≤ hi ∧ subAt x ⟨#[c]⟩ i = true) ↔ i < hi ∧ x.cps.toList[i]? = some c := by
  have h1 := subAt_one x c i
  have e : (⟨#[c]⟩ : Str).length = 1 := rfl
  rw [e] at h1 ⊢
  constructor
  · intro ⟨a, b⟩; exact ⟨by omega, h1.mp ⟨by omega, b⟩⟩
  · intro ⟨a, b⟩; exact ⟨by omega, (h1.mpr b).2⟩

theorem occ_one_run (x : Str) (c hi limit : Nat) (hh : hi ≤ x.length) : ∀ (l : List Nat) (arr : Array Nat) (free : Nat), (∀ i ∈ l, free ≤ i) → l.Pairwise (· < ·) → arr.size + l.length ≤ limit →
    (forIn l (arr, free) (occBody x ⟨#[c]⟩ hi limit)).run.fst.toList = arr.toList ++ l.filter fun i => decide (i < hi) && x.cps.toList[i]? == some c
  | [], arr, free, _, _, _ => by simp
  | a :: l, arr, free, hf, hp, hz => by
    rw [List.forIn_cons]
    unfold occBody
    have hp' := List.pairwise_cons.mp hp
    have ha : free ≤ a := hf a (List.mem_cons_self ..)
    simp only [List.length_cons] at hz
    by_cases hc : a < hi ∧ x.cps.toList[a]? = some c
    · have hc' := (at_one x c hi a hh).mpr hc
      rw [if_pos ⟨⟨⟨by show arr.size < limit; omega, ha⟩, hc'.1⟩, hc'.2⟩]
      have ih := occ_one_run x c hi limit hh l (arr.push a) (a + (⟨#[c]⟩ : Str).length) (fun i hi' => hp'.1 i hi') hp'.2 (by simp; omega)
      unfold occBody at ih
      refine Eq.trans ih ?_
      rw [Array.toList_push, List.filter_cons, decide_eq_true hc.1, hc.2]
      simp
    · have hc' : ¬ (a + (⟨#[c]⟩ : Str).length ≤ hi ∧ subAt x ⟨#[c]⟩ a = true) := fun q => hc ((at_one x c hi a hh).mp q)
      rw [if_neg (fun q => hc' ⟨q.1.2, q.2⟩)]
      have ih := occ_one_run x c hi limit hh l arr free (fun i hi' => hf i (List.mem_cons_of_mem _ hi')) hp'.2 (by omega)
      unfold occBody at ih
      refine Eq.trans ih ?_
      rw [List.filter_cons]
      have : (decide (a < hi) && x.cps.toList[a]? == some c) = false := by
        cases h1 : decide (a < hi) with
        | false => rfl
        | true => simp only [Bool.true_and, beq_eq_false_iff_ne, ne_eq]; exact fun q => hc ⟨of_decide_eq_true h1, q⟩
      rw [this]; simp

theorem occ_one (x : Str) (c lo hi limit : Nat) (hh : hi ≤ x.length) (hl : hi + 1 ≤ limit) :
    occurrences x ⟨#[c]⟩ lo hi limit = (List.range' lo (hi + 1 - lo)).filter fun i => decide (i < hi) && x.cps.toList[i]? == some c := by
  rw [occ_eq, occ_one_run x c hi limit hh _ #[] lo (fun i hi' => (List.mem_range'_1.mp hi').1) (by simpa using List.pairwise_lt_range' (s := lo) (n := hi + 1 - lo)) (by simp; omega)]
  simp

theorem filter_range_count (l : List Nat) (c : Nat) : ∀ (n lo : Nat), lo + n ≤ l.length → ((List.range' lo n).filter fun i => l[i]? == some c).length = ((l.drop lo).take n).count c
  | 0, lo, _ => by simp
  | n + 1, lo, h => by
    have hlt : lo < l.length := by omega
    rw [List.range'_succ, List.filter_cons, List.drop_eq_getElem_cons hlt, List.take_succ_cons, List.count_cons, List.getElem?_eq_getElem hlt]
    have ih := filter_range_count l c n (lo + 1) (by omega)
    by_cases hc : l[lo] = c
    · simp [hc, ih]
    · simp [hc, ih]

theorem occ_count (x : Str) (c hi : Nat) (hh : hi ≤ x.length) : (occurrences x ⟨#[c]⟩ 0 hi (x.length + 1)).length = (x.cps.toList.take hi).count c := by
  rw [occ_one x c 0 hi _ hh (by omega)]
  have e : List.range' 0 (hi + 1 - 0) = List.range' 0 hi ++ [hi] := by
    rw [Nat.sub_zero, List.range'_concat]; simp
  have h0 : (List.range' 0 hi).filter (fun i => decide (i < hi) && x.cps.toList[i]? == some c) = (List.range' 0 hi).filter fun i => x.cps.toList[i]? == some c := by
    refine List.filter_congr fun i hi' => ?_
    have := (List.mem_range'_1.mp hi').2
    rw [decide_eq_true (by omega), Bool.true_and]
  rw [e, List.filter_append, h0, List.length_append, filter_range_count _ _ _ _ (by simpa [Str.length] using hh)]
  simp

/-- the last c ahead of hi -/
theorem last_one (x : Str) (c hi : Nat) (hh : hi ≤ x.length) : (lastOccurrence x ⟨#[c]⟩ 0 hi = none ∧ c ∉ x.cps.toList.take hi) ∨
    ∃ i, lastOccurrence x ⟨#[c]⟩ 0 hi = some i ∧ i < hi ∧ x.cps.toList[i]? = some c ∧ ∀ k, i < k → k < hi → x.cps.toList[k]? ≠ some c := by
  rw [last_eq]
  have key := last_run x ⟨#[c]⟩ hi (List.range' 0 (hi + 1 - 0)) [] none (fun _ h => nomatch h) (fun _ h => nomatch h) (by simpa using List.pairwise_lt_range' (s := 0) (n := hi + 1 - 0))
  have mem : ∀ i, i < hi → i ∈ [] ++ List.range' 0 (hi + 1 - 0) := fun i hi => by simp; omega
  cases hr : (forIn (List.range' 0 (hi + 1 - 0)) none (lastBody x ⟨#[c]⟩ hi)).run with
  | none =>
    rw [hr] at key
    refine .inl ⟨rfl, fun hm => ?_⟩
    obtain ⟨i, hi', e⟩ := List.getElem_of_mem hm
    have hlt : i < hi := by simp at hi'; omega
    refine key i (mem i hlt) ((at_one x c hi i hh).mpr ⟨hlt, ?_⟩)
    rw [List.getElem_take] at e
    rw [← e]; exact List.getElem?_eq_getElem _
  | some a =>
    rw [hr] at key
    have := (at_one x c hi a hh).mp key.1
    exact .inr ⟨a, rfl, this.1, this.2, fun k hk hlt q => key.2 k (mem k hlt) hk ((at_one x c hi k hh).mpr ⟨hlt, q⟩)⟩

section
variable {prog : Program} {w : World} {A : Around} {E : Value → Shared → Prop} {s : Shared} {x y : Str} {t u v v' : Tok} {Q : Value → Shared → Prop}

theorem gives_count4 (x y : Str) (pos : Nat) (t u v v' : Tok) : Gives («str.count» ⟨[.str x t, .str y u, .int 0 v, .int pos v'], []⟩) (.int (occurrences x y 0 (min pos x.length) (x.length + 1)).length) := by
  show Gives (retInt (occurrences x y (max 0 (if (0 : Int) < 0 then 0 + (x.length : Int) else 0)).toNat (min (max 0 (if (pos : Int) < 0 then (pos : Int) + x.length else (pos : Int))).toNat x.length) (x.length + 1)).length) _
  have e1 : (max 0 (if (0 : Int) < 0 then 0 + (x.length : Int) else 0)).toNat = 0 := by simp
  have e2 : (max 0 (if (pos : Int) < 0 then (pos : Int) + x.length else (pos : Int))).toNat = pos := by
    rw [if_neg (by omega)]; omega
  rw [e1, e2]
  exact .of_eq rfl

theorem count4 {c pos : Nat} (hp : pos ≤ x.length) (h : Q (.int ((x.cps.toList.take pos).count c : Nat) s.toks) { s with toks := s.toks + 1 }) :
    wpAny (model prog w) A (call (.builtin "str.count") [.str x t, .str ⟨#[c]⟩ u, .int 0 v, .int pos v']) Q E s := by
  refine call_gives F.slot_str_count (typeIs_str _ _ _) F.entry_str_count (F.args_str_count_4 _ _ _ _) (gives_count4 x ⟨#[c]⟩ pos t u v v') ?_
  rw [Nat.min_eq_left hp, occ_count x c pos hp]
  exact h

theorem gives_rindex4 (x y : Str) (pos : Nat) (t u v v' : Tok) (i : Nat) (h : lastOccurrence x y 0 (min pos x.length) = some i) : Gives («str.rindex» ⟨[.str x t, .str y u, .int 0 v, .int pos v'], []⟩) (.int i) := by
  show Gives (match lastOccurrence x y (max 0 (if (0 : Int) < 0 then 0 + (x.length : Int) else 0)).toNat (min (max 0 (if (pos : Int) < 0 then (pos : Int) + x.length else (pos : Int))).toNat x.length) with | some i => retInt i | none => _) _
  have e1 : (max 0 (if (0 : Int) < 0 then 0 + (x.length : Int) else 0)).toNat = 0 := by simp
  have e2 : (max 0 (if (pos : Int) < 0 then (pos : Int) + x.length else (pos : Int))).toNat = pos := by
    rw [if_neg (by omega)]; omega
  rw [e1, e2, h]
  exact .of_eq rfl

theorem rindex4 {c pos : Nat} (hp : pos ≤ x.length) (hc : c ∈ x.cps.toList.take pos)
    (h : ∀ i : Nat, i < pos → x.cps.toList[i]? = some c → (∀ k, i < k → k < pos → x.cps.toList[k]? ≠ some c) → Q (.int i s.toks) { s with toks := s.toks + 1 }) :
    wpAny (model prog w) A (call (.builtin "str.rindex") [.str x t, .str ⟨#[c]⟩ u, .int 0 v, .int pos v']) Q E s := by
  rcases last_one x c pos hp with ⟨_, hn⟩ | ⟨i, e, h1, h2, h3⟩
  · exact absurd hc hn
  · refine call_gives F.slot_str_rindex (typeIs_str _ _ _) F.entry_str_rindex (F.args_str_rindex_4 _ _ _ _) (gives_rindex4 x ⟨#[c]⟩ pos t u v v' i (by rw [Nat.min_eq_left hp]; exact e)) ?_
    exact h i h1 h2 h3

/-- the first c at pos or behind it -/
noncomputable def indexFrom (x : Str) (c pos : Nat) : Option Nat := ((x.cps.toList.drop pos).findIdx? (· == c)).map (pos + ·)

theorem occ_from (x : Str) (c pos : Nat) : (occurrences x ⟨#[c]⟩ pos x.length 1 = [] ∧ indexFrom x c pos = none) ∨ ∃ i r, occurrences x ⟨#[c]⟩ pos x.length 1 = i :: r ∧ indexFrom x c pos = some i := by
  have ae : ∀ i, At x ⟨#[c]⟩ x.length i ↔ x.cps.toList[i]? = some c := fun i => subAt_one x c i
  rcases occ_head_from x ⟨#[c]⟩ pos 1 (Nat.le_refl 1) with ⟨h0, hn⟩ | ⟨i, r, h0, hlo, hA, hn⟩
  · refine .inl ⟨h0, ?_⟩
    unfold indexFrom
    rw [Option.map_eq_none_iff, List.findIdx?_eq_none_iff]
    intro d hd
    rw [beq_eq_false_iff_ne]
    rintro rfl
    obtain ⟨k, hk, e⟩ := List.getElem_of_mem hd
    rw [List.getElem_drop] at e
    exact hn (pos + k) (by omega) ((ae _).mpr (by rw [← e]; exact List.getElem?_eq_getElem _))
  · refine .inr ⟨i, r, h0, ?_⟩
    have hi := (ae i).mp hA
    unfold indexFrom
    obtain ⟨k, rfl⟩ : ∃ k, i = pos + k := ⟨i - pos, by omega⟩
    have hk : (x.cps.toList.drop pos)[k]? = some c := by rw [List.getElem?_drop]; exact hi
    have : (x.cps.toList.drop pos).findIdx? (· == c) = some k := by
      rw [List.findIdx?_eq_some_iff_getElem]
      obtain ⟨hlt, e⟩ := List.getElem?_eq_some_iff.mp hk
      refine ⟨hlt, by rw [e]; simp, fun j hj q => ?_⟩
      have hj' : (x.cps.toList.drop pos)[j]'(Nat.lt_trans hj hlt) = c := by simpa using q
      rw [List.getElem_drop] at hj'
      exact hn (pos + j) (by omega) (by omega) ((ae _).mpr (by rw [← hj']; exact List.getElem?_eq_getElem _))
    rw [this]; rfl

theorem index3_or {c pos : Nat} (hA : A.handled = none)
    (h0 : indexFrom x c pos = none → ∀ h' tk e, Heap.NewExc s.heap h' e "ValueError" → E (.ref e) { s with heap := h', toks := tk })
    (h1 : ∀ i : Nat, indexFrom x c pos = some i → Q (.int i s.toks) { s with toks := s.toks + 1 }) :
    wpAny (model prog w) A (call (.builtin "str.index") [.str x t, .str ⟨#[c]⟩ u, .int pos v]) Q E s := by
  have e1 : (max 0 (if (pos : Int) < 0 then (pos : Int) + x.length else (pos : Int))).toNat = pos := by rw [if_neg (by omega)]; omega
  rcases occ_from x c pos with ⟨ho, hi⟩ | ⟨i, r, ho, hi⟩
  · refine call_meets F.slot_str_index (typeIs_str _ _ _) F.entry_str_index (F.args_str_index_3 _ _ _) (S := raisesNew "ValueError") ?_ ⟨hA, h0 hi⟩
    intro prog w A R s hS
    show wpAny _ _ (match occurrences x ⟨#[c]⟩ (max 0 (if (pos : Int) < 0 then (pos : Int) + x.length else (pos : Int))).toNat (min x.length x.length) 1 with | i :: _ => retInt i | [] => _) _ _ s
    rw [Nat.min_self, e1, ho]
    first
      | exact wpAny_bind (wpAny_rule (by exact_raiseError plainExc_ValueError hS.1 hS.2))
      | exact wpAny_bind (wpAny_rule (wpAny_bind (by exact_raiseError plainExc_ValueError hS.1 hS.2)))
  · refine call_gives F.slot_str_index (typeIs_str _ _ _) F.entry_str_index (F.args_str_index_3 _ _ _) (m := .int i) ?_ (h1 i hi)
    show Gives (match occurrences x ⟨#[c]⟩ (max 0 (if (pos : Int) < 0 then (pos : Int) + x.length else (pos : Int))).toNat (min x.length x.length) 1 with | i :: _ => retInt i | [] => _) _
    rw [Nat.min_self, e1, ho]
    exact .of_eq rfl
end
end Mine
end

section
open PySem PySem.W PyProof.Rows PySem.Calls
open PySem.Builtin PySem.Builtin.Str
set_option maxRecDepth 100000
namespace Mine

section
variable {M : Model} {A : Around} {E : Value → Shared → Prop} {s : Shared} {G : Glb} {hin : Heap} {outer : List Env} {L a : Addr} {h₀ h : Heap} {m : Str → Option Value} {news : List (Addr × Obj)} {name : Str} {params : Arguments} {body : List Stmt} {scope cs : Scope} {cn : Str} {tk : Nat} {Q : Value → Shared → Prop}

/-- the def within suffixed_err is made: its code once, each time a function anew -/
theorem make_nest (K : G.Ok) (S : St G hin outer L h₀ h m news) (hcl : closureFor scope (envOf cn cs L a (.ref G.c)) = pure [])
    (hQ : ∀ h' tk f c' doc pm ctv, St G hin outer L h₀ h' m ((f, fnMade name nqual params body scope [] doc pm c' ctv) :: news) → h'.CodeRec (.ref c') nqual → Q (.ref f) { s with heap := h', toks := tk }) :
    wpAny M A (makeFunction name nqual params (.stmts body) scope (envOf cn cs L a (.ref G.c)) [] [] [] (fnPos nestSt) (fnPos nestSt).line) Q E { s with heap := h, toks := tk } := by
  have kb : ∀ b o, G.base.get? b = some o → h.get? b = some o := fun b o e => S.keep b o (S.bs b o e)
  obtain ⟨ps, eP, t⟩ := S.tab
  have hg := K.g.keeps kb
  have hC := K.hd.keeps kb
  have hgP : mainGlobals ≠ G.P := fun q => by
    obtain ⟨o, es, ep, e, hd, _⟩ := hg
    rw [q, eP] at e; cases e; cases hd
  have hb : h.BuiltinsAt G.mg G.P := let ⟨bm, o, b1, b2, b3, b4, b5, r⟩ := K.bmain; ⟨bm, o, b1, b2, b3, b4, kb _ _ b5, r⟩
  rcases t with rfl | ⟨c', oc, vs, tq, rfl, ec, dc, hv⟩
  · refine makeFunction_K (s := { s with heap := h, toks := tk }) (mg := G.mg) (c := G.c) (P := G.P) hcl rfl hg rfl hC eP trivial rfl hgP hb fun c' ctv doc h' tk' hx hge hlt hrec htb => ?_
    have hrec' := hrec
    obtain ⟨c₂, oc, vs, tq, e2, ec, dc, hv⟩ := hrec'
    cases e2
    have T' : G.Tab h' := ⟨_, htb, .inr ⟨c', oc, vs, tq, by simp, ec, dc, hv⟩⟩
    have S' := S.but hx T'
    exact hQ _ tk' _ c' doc _ ctv (S'.push _) (hrec.push _)
  · refine makeFunction_hit (s := { s with heap := h, toks := tk }) (mg := G.mg) (c := G.c) (P := G.P) (cv := .ref c') hcl rfl hg rfl hC eP (by simp [TriplesOk, rawInt]) (by simp [codeAmong, rawInt]) hb fun ctv doc h' tk' hk hsz => ?_
    have S' := S.grow hk
    exact hQ _ tk' _ c' doc _ ctv (S'.push _) (⟨c', oc, vs, tq, rfl, Heap.get?_push_of_some _ (hk _ _ ec), dc, hv⟩)
end

section
variable {w : World} {A : Around} {E : Value → Shared → Prop} {s : Shared} {C : Addr}

/-- an error of the text's own, new behind h, its words M -/
noncomputable def NewErr (C : Addr) (h h' : Heap) (e : Addr) (M : Str) : Prop :=
  ∃ ta tk, h'.get? e = some { cls := .ref C, data := .fields #[.ref ta, .none, .none, .none, .bool false, .none] } ∧ h'.get? ta = some { cls := .type "tuple", data := .seq #[.str M tk] } ∧ h.get? e = none ∧ h.get? ta = none

theorem callWith_exc {cpos : Pos} {e₀ : Expr} {rest : List Expr} {env : Env} {Q : Value → Shared → Prop}
    (h : wpAny (model pw w) A (spliced (backTo cpos (starEach (e₀ :: rest) env))) (fun vs s₂ => vs.length ≤ sizeLine ∧ ClsOk s₂.heap C ∧ ∀ h' e, Heap.MadeExcOf s₂.heap h' e (.ref C) vs → Q (.ref e) { s₂ with heap := h' }) E s)
    (he : starEach (e₀ :: rest) env = (false, eval e₀ env) :: starEach rest env := by rfl)
    (hplain : (backTo cpos (starEach rest env)).any (·.1) = false := by rfl) :
    wpAny (model pw w) A (callWith cpos (.ref C) [] (backTo cpos (starEach (e₀ :: rest) env)) []) Q E s := by
  have hpl : (backTo cpos (starEach (e₀ :: rest) env)).any (·.1) = false := by rw [he]; show (false || (backTo cpos (starEach rest env)).any (·.1)) = false; rw [hplain]; rfl
  rw [he] at h hpl ⊢
  unfold callWith
  refine wpAny_bind (wpAny_holding (Calls.evalArgs_plain (wpAny_mono h (fun vs s₂ h₂ => wpAny_bind (wpAny_standAt ?_)) fun _ _ x => x)))
  obtain ⟨hlen, ⟨nm, q, N, bs, hdct, sn, sub, ab, col, dd, k0, k1, k2, k3, k5, mN, hC, hn, hni, _⟩, h₂⟩ := h₂
  obtain ⟨hp, g, d, tk, os⟩ := s₂
  simp only [hpl]
  refine wpAny_bind (wpAny_keeperOf_exc hC ?_)
  exact wpAny_bind (wpAny_call_exc_sub (hrest := hlen) F.excBase_ValueError hC hn hni fun h' e hm => wpAny_bind (wpAny_holding (wpAny_point (wpAny_pure (h₂ h' e hm)))))
end
end Mine
end

section
open PySem PySem.W PyProof.Rows PySem.Calls
set_option maxRecDepth 100000
namespace Mine

section
variable {G : Glb} {S : List Addr} {hb h h' : Heap} {e : Addr} {M : Str} {cls : Value} {msg : Option Str} {fl : Option Value}

theorem Fly.of_err (ext : Ext S G.P hb h) (tab : G.Tab h) (P : ∃ o, hb.get? G.P = some o) (x : NewErr G.C hb h e M) : Fly G S hb h e (.ref G.C) (some M) none := by
  obtain ⟨ta, tk, he, ht, n1, n2⟩ := x
  exact ⟨ext, tab, n1, P, _, _, .ref ta, he, rfl, rfl, by simp, ⟨ta, tk, rfl, _, ht, rfl, _, rfl⟩, by simp [FlyAt]⟩

/-- a field behind the second is set -/
theorem Fly.setE {i : Nat} {v : Value} (X : Fly G S hb h e cls (some M) none) (hi : 2 ≤ i) : Fly G S hb (h.update e (Obj.mapFields (·.setIfInBounds i v))) e cls (some M) none := by
  obtain ⟨oe, vs, a0, he, hcls, hd, h0, hm, h1⟩ := X.exc
  have h1 : vs[1]? = some .none := h1
  have hd₃ := Obj.data_mapFields hd (·.setIfInBounds i v)
  refine ⟨X.ext.upd X.new, X.tab.upd he (NotCode.fields hd h1 (by simp)) X.neP, X.new, X.P, _, _, a0, Heap.get?_update_self _ he (Obj.isFreed_of_fields hd₃), (Obj.cls_mapFields ..).trans hcls, hd₃, ?_, ?_, ?_⟩
  · rw [Array.getElem?_setIfInBounds_ne (by omega)]; exact h0
  · refine hm.keeps (fun b o ws n eb hdb => ⟨o.slots, ?_⟩) (fun q => by cases q)
    have hbe : e ≠ b := fun q => by subst q; rw [he] at eb; cases eb; rw [hd] at hdb; cases hdb
    exact (Heap.get?_update_other _ _ hbe).trans eb
  · show _ = _
    rw [Array.getElem?_setIfInBounds_ne (by omega)]; exact h1
end

section
variable {w : World} {A : Around} {E : Value → Shared → Prop} {s : Shared} {env : Env} {G : Glb} {S : List Addr} {hb : Heap} {M : Str}

theorem entry_unchain : entryFor table "proto.unchain" = some Builtin.«proto.unchain» := entryFor_of_tree (by kernel_rfl)
theorem plain_unchain : plainId "proto.unchain" = true := by decide +kernel

/-- the error that the text made is raised -/
theorem raise_own {x : Expr} {pos : Pos} {Q : Flow → Shared → Prop} (hh : A.handled = none) 
    (h : wpAny (model pw w) A (eval x env) (fun v s₁ => ∃ e t, v = .ref e ∧ ClsOk s₁.heap G.C ∧ s₁.heap.get? e = some { cls := .ref G.C, data := .fields #[.ref t, .none, .none, .none, .bool false, .none] } ∧ E (.ref e) s₁) E s) :
    wpAny (model pw w) A (exec (.Raise (some x) none pos) env) Q E s := by
  show wpAny _ A (do standAt pos; raiseStmt env (some (do let v ← eval x env; standAt pos; pure v)) none) Q E s
  refine wpAny_bind (wpAny_standAt ?_)
  unfold raiseStmt
  refine wpAny_bind (wpAny_bind (wpAny_mono h (fun v s₁ h₁ => wpAny_bind (wpAny_standAt (wpAny_pure ?_))) fun _ _ x => x))
  obtain ⟨e, t, rfl, ⟨nm, q, N, bs, hdct, sn, sub, ab, col, dd, k0, k1, k2, k3, k5, mN, hC, _⟩, he, hE⟩ := h₁
  have hcB : (Value.ref G.C :: bmVE).contains (.type "BaseException") = true := by simp [bmVE]
  obtain ⟨hp, g, d, tk, os⟩ := s₁
  repeat (first | with_reducible refine wpAny_loadPart_at he ?_ | with_reducible refine wpAny_loadPart_at hC ?_ | (with_reducible refine wpAny_isSubtype_exc hC ?_; rw [hcB]) | wp_step)
  exact wpAny_raiseNew_none hh hE

/-- the error that the text made is raised, from None, where another is handled -/
theorem raise_from_none {x : Expr} {pos np : Pos} {k : Nat} {e₁ : Addr} {Q : Flow → Shared → Prop} (hh : A.handled = some (.ref e₁))
    (h : wpAny (model pw w) A (eval x env) (fun v s₁ => ∃ e t o₁ vs₁, v = .ref e ∧ e₁ ≠ e ∧ s₁.heap.get? e₁ = some o₁ ∧ o₁.data = .fields vs₁ ∧ vs₁[2]? = some .none ∧ ClsOk s₁.heap G.C ∧
      s₁.heap.get? e = some { cls := .ref G.C, data := .fields #[.ref t, .none, .none, .none, .bool false, .none] } ∧ 
      E (.ref e) { s₁ with heap := ((s₁.heap.update e (Obj.mapFields (·.setIfInBounds 3 .none))).update e (Obj.mapFields (·.setIfInBounds 4 (.bool true)))).update e (Obj.mapFields (·.setIfInBounds 2 (.ref e₁))) }) E s) :
    wpAny (model pw w) A (exec (.Raise (some x) (some (.Constant .none k np)) pos) env) Q E s := by
  show wpAny _ A (do standAt pos; raiseStmt env (some (do let v ← eval x env; standAt pos; pure v)) (some (do let v ← eval (.Constant .none k np) env; standAt pos; pure v))) Q E s
  refine wpAny_bind (wpAny_standAt ?_)
  unfold raiseStmt
  refine wpAny_bind (wpAny_bind (wpAny_mono h (fun v s₁ h₁ => wpAny_bind (wpAny_standAt (wpAny_pure ?_))) fun _ _ x => x))
  obtain ⟨e, t, o₁, vs₁, rfl, hne, he1, hd1, h12, ⟨nm, q, N, bs, hdct, sn, sub, ab, col, dd, k0, k1, k2, k3, k5, mN, hC, _⟩, he, hE⟩ := h₁
  have hcB : (Value.ref G.C :: bmVE).contains (.type "BaseException") = true := by simp [bmVE]
  obtain ⟨hp, g, d, tk, os⟩ := s₁
  have neC : e ≠ G.C := fun q => by
    have hC' := hC
    rw [← q] at hC'
    have he' : hp.get? e = _ := he
    rw [he'] at hC'; cases hC'
  refine wpAny_bind (wpAny_holding (wpAny_bind (Constant_none (wpAny_bind (wpAny_standAt (wpAny_pure (wpAny_bind (wpAny_pure ?_))))))))
  have fe : ∀ {a : Addr} {c : Value} {vs : Array Value} {f : Array Value → Array Value} {h : Heap}, h.get? a = some { cls := c, data := .fields vs } → (h.update a (Obj.mapFields f)).get? a = some { cls := c, data := .fields (f vs) } := fun x => Heap.get?_update_self _ x rfl
  have he3 := fe (f := (·.setIfInBounds 3 .none)) he
  have he4 := fe (f := (·.setIfInBounds 4 (.bool true))) he3
  have oth : ∀ {f : Obj → Obj} {h : Heap} {b : Addr}, b ≠ e → (h.update e f).get? b = h.get? b := fun hb => Heap.get?_update_other _ _ (Ne.symm hb)
  have hC4 : ((hp.update e (Obj.mapFields (·.setIfInBounds 3 .none))).update e (Obj.mapFields (·.setIfInBounds 4 (.bool true)))).get? G.C = _ := ((oth (Ne.symm neC)).trans (oth (Ne.symm neC))).trans hC
  have he14 : ((hp.update e (Obj.mapFields (·.setIfInBounds 3 .none))).update e (Obj.mapFields (·.setIfInBounds 4 (.bool true)))).get? e₁ = _ := ((oth hne).trans (oth hne)).trans he1
  repeat (first | with_reducible refine wpAny_loadPart_at he ?_ | with_reducible refine wpAny_loadPart_at hC ?_ | (with_reducible refine wpAny_isSubtype_exc hC ?_; rw [hcB]) | wp_step)
  unfold raiseNew
  refine wpAny_bind (wpAny_handled ?_)
  rw [hh]
  dsimp only
  rw [if_pos (show (Value.ref e₁ != Value.ref e) = true from by simp [hne])]
  refine wpAny_bind (wpAny_holding (wpAny_runValue (codeAny_builtin entry_unchain ?_)))
  rw [Around.under_plainId plain_unchain _]
  unfold Builtin.«proto.unchain»
  dsimp only
  refine wpAny_bind (wpAny_field (s := { heap := _, gens := g, drawn := d, toks := tk, os := os }) he14 hd1 h12 ?_)
  rw [if_pos (by rfl)]
  refine wpAny_pure ?_
  dsimp only
  unfold updateField
  refine wpAny_bind ?_
  refine wpAny_bind (wpAny_load (s := { heap := _, gens := g, drawn := d, toks := tk, os := os }) he4 ?_)
  dsimp only
  rw [if_pos (by simp)]
  exact wpAny_update (s := { heap := _, gens := g, drawn := d, toks := tk, os := os }) he4 (wpAny_throw hE)
end
end Mine
end

section
open PySem PySem.W PyProof.Rows PySem.Calls
set_option maxRecDepth 100000
namespace Mine

section
variable {G : Glb} {hin : Heap} {outer : List Env} {L : Addr} {h₀ h h' : Heap} {m : Str → Option Value} {news : List (Addr × Obj)} {e : Addr} {cls : Value} {msg : Option Str} {fl : Option Value}

theorem St.fresh (S : St G hin outer L h₀ h m news) {b : Addr} (q : h.get? b = none) : hin.get? b = none := by
  cases q' : hin.get? b with
  | none => rfl
  | some o' =>
    by_cases hbf : b ∈ frs outer
    · obtain ⟨sl, e'⟩ := S.ext.slots b o' q' hbf
      rw [q] at e'; cases e'
    · by_cases hbP : b = G.P
      · obtain ⟨ps, eP, _⟩ := S.tab
        rw [← hbP, q] at eP; cases eP
      · have := S.ext.same b o' q' hbf hbP
        rw [q] at this; cases this

/-- the exception has left the frame -/
theorem Fly.out (S : St G hin outer L h₀ h m news) (hP : ∃ o, hin.get? G.P = some o) (X : Fly G (L :: frs outer) h h' e cls msg fl) : Fly G (frs outer) hin h' e cls msg fl := by
  obtain ⟨oe, vs, a0, he, hc, hd, h0, hm, hf⟩ := X.exc
  refine ⟨(S.call X.ext X.tab).ext, X.tab, S.fresh X.new, hP, oe, vs, a0, he, hc, hd, h0, hm, ?_⟩
  cases fl with
  | none => exact hf
  | some x =>
    obtain ⟨T, oT, ts, h1, hT, r⟩ := hf
    exact ⟨T, oT, ts, h1, S.fresh hT, r⟩
end

section
variable {prog : Program} {w : World} {A : Around} {E : Value → Shared → Prop} {s : Shared} {env : Env}
noncomputable abbrev sliceObj (l u : Value) : Obj := { cls := .type "slice", data := .fields #[l, u, .none] }
theorem slice_ss {value lo up : Expr} {p pos : Pos} {Q : Value → Shared → Prop}
    (h : wpAny (model prog w) A (eval value env) (fun o s₁ => wpAny (model prog w) A (eval lo env) (fun vl s₂ => wpAny (model prog w) A (eval up env) (fun vu s₃ =>
      ∃ x t i ti j tj, o = .str x t ∧ vl = .int i ti ∧ vu = .int j tj ∧ x.length ≤ sizeLine ∧ ∀ t' k h', (∀ b o, s₃.heap.get? b = some o → h'.get? b = some o) → Q (.str (Txt.slice x (some i) (some j)) t') { s₃ with heap := h', toks := k }) E s₂) E s₁) E s)
    (ht : ∀ o r, letTemporaryGo value o r = pure () := by intro _ _; rfl) :
    wpAny (model prog w) A (eval (.Subscript value (.Slice (some lo) (some up) none p) pos) env) Q E s := by
  refine wpAny_Subscript_str_slice (wpAny_mono h (fun o s₁ h₁ => evalPart_some_step (wpAny_mono h₁ (fun vl s₂ h₂ => evalPart_some_step (wpAny_mono h₂ (fun vu s₃ h₃ => ?_) fun _ _ e => e)) fun _ _ e => e)) fun _ _ e => e) ht
  obtain ⟨x, t, i, ti, j, tj, rfl, rfl, rfl, hx, hQ⟩ := h₃
  exact ⟨x, t, some (i, ti), some (j, tj), rfl, rfl, rfl, post_val_or_str ⟨Nat.le_trans (Txt.slice_le x _ _) hx, fun t' k => hQ t' k _ fun _ _ e => Heap.get?_push_of_some _ e⟩⟩
theorem slice_sn {value lo : Expr} {p pos : Pos} {Q : Value → Shared → Prop}
    (h : wpAny (model prog w) A (eval value env) (fun o s₁ => wpAny (model prog w) A (eval lo env) (fun vl s₃ =>
      ∃ x t i ti, o = .str x t ∧ vl = .int i ti ∧ x.length ≤ sizeLine ∧ ∀ t' k h', (∀ b o, s₃.heap.get? b = some o → h'.get? b = some o) → Q (.str (Txt.slice x (some i) none) t') { s₃ with heap := h', toks := k }) E s₁) E s)
    (ht : ∀ o r, letTemporaryGo value o r = pure () := by intro _ _; rfl) :
    wpAny (model prog w) A (eval (.Subscript value (.Slice (some lo) none none p) pos) env) Q E s := by
  refine wpAny_Subscript_str_slice (wpAny_mono h (fun o s₁ h₁ => evalPart_some_step (wpAny_mono h₁ (fun vl s₂ h₂ => evalPart_none_step ?_) fun _ _ e => e)) fun _ _ e => e) ht
  obtain ⟨x, t, i, ti, rfl, rfl, hx, hQ⟩ := h₂
  exact ⟨x, t, some (i, ti), none, rfl, rfl, rfl, post_val_or_str ⟨Nat.le_trans (Txt.slice_le x _ _) hx, fun t' k => hQ t' k _ fun _ _ e => Heap.get?_push_of_some _ e⟩⟩
end

section
variable {M : Model} {A : Around} {E : Value → Shared → Prop} {s : Shared} {env : Env}
theorem callDefKw {pos : Pos} {f : Addr} {o : Obj} {fd : FuncData} {e : Expr} {rest : List Expr} {kws : List Keyword} {Q : Value → Shared → Prop} (hdat : o.data = .func fd)
    (h : wpAny M A (spliced (backTo pos (starEach (e :: rest) env))) (fun vs s₁ => wpAny M A (evalAll ((backToKw pos (keywordEach kws env)).map (·.2)))
      (fun kvs s₂ => s₂.heap.get? f = some o ∧ wpAny M A (call (.ref f) vs (((backToKw pos (keywordEach kws env)).filterMap (·.1)).zip kvs)) Q E s₂) E s₁) E s)
    (he : backTo pos (starEach (e :: rest) env) = (false, eval e env) :: backTo pos (starEach rest env) := by rfl)
    (hall : (backToKw pos (keywordEach kws env)).all (·.1.isSome) = true := by rfl) :
    wpAny M A (callWith pos (.ref f) [] (backTo pos (starEach (e :: rest) env)) (backToKw pos (keywordEach kws env))) Q E s := by
  refine callWith_def_kw hdat ?_
  rw [he] at h ⊢
  exact evalArgs_kw hall h
end

section
variable {M : Model} {A : Around} {E : Value → Shared → Prop} {s : Shared} {G : Glb} {hin : Heap} {outer : List Env} {L : Addr} {h₀ : Heap} {m : Str → Option Value} {news : List (Addr × Obj)}
noncomputable abbrev tupObj (vs : List Value) : Obj := { cls := .type "tuple", data := .seq vs.toArray }
noncomputable abbrev listObj (vs : List Value) : Obj := { cls := .type "list", data := .seq vs.toArray }
theorem mkTup {vs : List Value} {Q : Value → Shared → Prop} (S : St G hin outer L h₀ s.heap m news) (hsz : vs.length ≤ 100000)
    (hQ : ∀ a h', a = s.heap.objs.size → (∀ b o, s.heap.get? b = some o → h'.get? b = some o) → St G hin outer L h₀ h' m ((a, tupObj vs) :: news) → Q (.ref a) { s with heap := h' }) : wpAny M A (newTuple vs) Q E s :=
  wpAny_newTuple (hQ _ _ rfl (fun _ _ e => Heap.get?_push_of_some _ e) (S.push _)) (by rw [sizeLine_eq]; omega)
theorem mkList {vs : List Value} {Q : Value → Shared → Prop} (S : St G hin outer L h₀ s.heap m news) (hsz : vs.length ≤ 100000)
    (hQ : ∀ a h', a = s.heap.objs.size → (∀ b o, s.heap.get? b = some o → h'.get? b = some o) → St G hin outer L h₀ h' m ((a, listObj vs) :: news) → Q (.ref a) { s with heap := h' }) : wpAny M A (newList vs) Q E s :=
  wpAny_newObj_type (hQ _ _ rfl (fun _ _ e => Heap.get?_push_of_some _ e) (S.push _)) (by show vs.toArray.size ≤ sizeLine; rw [List.size_toArray, sizeLine_eq]; omega)
end

/-- the signs of a text -/
noncomputable def inText (l : List Nat) (k : Str) : Bool := l.any fun c => k == ⟨#[c]⟩
noncomputable abbrev wsNl : Str → Bool := inText [32, 9, 10]
noncomputable abbrev illegal : Str → Bool := inText (((List.range 32).filter (· != 9)) ++ [127])

noncomputable def Glb.Bi (G : Glb) (x : Str) (v : Value) : Prop := G.mg x = none ∧ G.mb x = some v

/-- what the text's defs find under the text's names -/
structure Fns (w : World) (G : Glb) : Prop where
  dedent : G.Fn "_dedent" 1
  skip_chars : G.Fn "skip_chars" 10
  skip_until : G.Fn "skip_until" 11
  skip_comment : G.Fn "skip_comment" 12
  skip_ws : G.Fn "skip_comments_and_array_ws" 13
  parse_lit : G.Fn "parse_literal_str" 14
  suffixed : ∃ f o pm doc, G.mg "suffixed_err" = some (.ref f) ∧ G.base.get? f = some o ∧ o.data = .func (docDef "suffixed_err" (fnParams (stAt 15)) (fnBody (stAt 15)) (fnScope (stAt 15)) pm (.ref G.c) doc) ∧ G.base.CodeRec (.ref G.c) "suffixed_err"
  word : G.Fn "_law_word" 17
  body : G.Fn "_law_body" 18
  rows : G.Fn "_law_rows" 19
  due : G.Fn "_law_due" 20
  read : G.Fn "_law_read" 21
  ws : ∃ a, G.mg "TOML_WS_AND_NEWLINE" = some (.ref a) ∧ FSet w G.base a wsNl
  illC : ∃ a, G.mg "ILLEGAL_COMMENT_CHARS" = some (.ref a) ∧ FSet w G.base a illegal
  illL : ∃ a, G.mg "ILLEGAL_LITERAL_STR_CHARS" = some (.ref a) ∧ FSet w G.base a illegal
  b_enumerate : G.Bi "enumerate" (.type "enumerate")
  b_str : G.Bi "str" (.type "str")
  b_type : G.Bi "type" (.type "type")
  b_max : G.Bi "max" (.builtin "max")
  b_sum : G.Bi "sum" (.builtin "sum")
  b_any : G.Bi "any" (.builtin "any")
end Mine
end

section
open PySem PySem.W PyProof.Rows PySem.Calls
open PySem.Builtin PySem.Builtin.Str PySem.Builtin.BaseException PySem.Builtin.Exceptions
set_option maxRecDepth 100000
namespace Mine

section
variable {prog : Program} {w : World} {A : Around} {E : Value → Shared → Prop} {s : Shared} {C e : Addr} {m : Str}
/-- an error of the text's own, its words m -/
noncomputable def ErrAt (h : Heap) (C e : Addr) (m : Str) : Prop := ∃ o vs ta tk, h.get? e = some o ∧ o.cls = .ref C ∧ o.data = .fields vs ∧ vs[0]? = some (.ref ta) ∧ IsTup h ta #[.str m tk]

theorem err_args {M : Model} {o : Obj} {vs : Array Value} {ta : Addr} {tk : Tok} {Q : Value × List Value → Shared → Prop} (ho : s.heap.get? e = some o) (hd : o.data = .fields vs) (h0 : vs[0]? = some (.ref ta)) (ht : IsTup s.heap ta #[.str m tk]) (hq : Q (.ref ta, [.str m tk]) s) :
    wpAny M A (bexcArgs (.ref e)) Q E s := by
  obtain ⟨ot, hto, _, n, htd⟩ := ht
  unfold bexcArgs
  exact wpAny_bind (wpAny_field ho hd h0 (wpAny_bind (wpAny_seqItems hto htd (wpAny_pure hq))))

theorem bexc_entry {o : Obj} {vs : Array Value} {ta : Addr} {tk : Tok} {Q : Fin → Shared → Prop} (ho : s.heap.get? e = some o) (hd : o.data = .fields vs) (h0 : vs[0]? = some (.ref ta)) (ht : IsTup s.heap ta #[.str m tk]) (hq : Q (.done (.ret (.str m tk))) s) :
    wpAny (model prog w) A (Builtin.«BaseException.__str__» ⟨[.ref e], []⟩) Q E s := by
  unfold Builtin.«BaseException.__str__»
  repeat (first | with_reducible refine err_args ho hd h0 ht ?_ | wp_step)
  exact hq

theorem bexc_kind : builtinKind "BaseException.__str__" = some .slot := by decide +kernel
theorem bexc_split : splitId "BaseException.__str__" = some ("BaseException", "__str__") := by decide +kernel

theorem check_own_str {o : Obj} {Q : Unit → Shared → Prop} (hC : ClsOk s.heap C) (ho : s.heap.get? e = some o) (hc : o.cls = .ref C) (hq : Q () s) : wpAny (model prog w) A (checkBuiltinCall "BaseException.__str__" ⟨[.ref e], []⟩) Q E s := by
  obtain ⟨nm, q, N, bs, hdct, sn, sub, ab, col, dd, k0, k1, k2, k3, k5, mN, hC, _⟩ := hC
  obtain ⟨hp, g, d, t, os⟩ := s
  have hcB : (Value.ref C :: bmVE).contains (.type "BaseException") = true := by simp [bmVE]
  have ha := F.args_bexc_str (.ref e)
  simp only [checkBuiltinCall, bexc_kind, bexc_split]
  refine wpAny_bind ?_
  unfold isInstance
  repeat (first | (with_reducible refine wpAny_loadPart_at ho ?_; rw [hc]) | (with_reducible refine wpAny_isSubtype_exc hC ?_; rw [hcB]) | wp_step)
  exact hq

theorem call_own_str {Q : Value → Shared → Prop} (hC : ClsOk s.heap C) (x : ErrAt s.heap C e m) (h : ∀ tk, Q (.str m tk) s) :
    wpAny (model prog w) A (call (.builtin "BaseException.__str__") [.ref e]) Q E s := by
  obtain ⟨o, vs, ta, tk, ho, hc, hd, h0, ht⟩ := x
  refine wpAny_call (codeAny_call_builtin F.excStr_ValueError.str.plain F.entry_bexc_str (check_own_str hC ho hc ?_))
  refine bexc_entry ho hd h0 ht ?_
  exact h _

theorem strOf_own {Q : Value → Shared → Prop} (hu : A.units < cLine) (hC : ClsOk s.heap C) (x : ErrAt s.heap C e m) (h : ∀ tk, Q (.str m tk) s) :
    wpAny (model prog w) A (Str.strOf (.ref e)) Q E s := by
  obtain ⟨o, vs, ta, tk, ho, hc, hd, h0, ht⟩ := id x
  obtain ⟨nm, q, N, bs, hdct, sn, sub, ab, col, dd, k0, k1, k2, k3, k5, mN, hC, hn, _, hns⟩ := hC
  obtain ⟨hp, g, d, t, os⟩ := s
  unfold Str.strOf
  rw [if_neg (by simp [isExactStr])]
  refine wpAny_bind (wpAny_cRoomFor hu ?_)
  refine wpAny_bind ?_
  unfold callSpecial? specialOf
  repeat (first | (with_reducible refine wpAny_loadPart_at ho ?_; rw [hc]) | (with_reducible refine wpAny_typeLookup_exc hC hn F.excBase_ValueError.mroIs F.excStr_ValueError.str.lookup ?_; rw [hns]) | wp_step)
  rw [F.excStr_ValueError.str.bind]
  refine wpAny_pure ?_
  dsimp only
  refine wpAny_bind (call_own_str (s := ⟨hp, g, d, t, os⟩) ⟨nm, q, N, bs, hdct, sn, sub, ab, col, dd, k0, k1, k2, k3, k5, mN, hC, hn, ‹_›, hns⟩ x fun tk => ?_)
  repeat (first | wp_step)
  exact h _

theorem str_of_own {Q : Value → Shared → Prop} (hu : A.units + 2 < cLine) (hC : ClsOk s.heap C) (x : ErrAt s.heap C e m) (h : ∀ tk, Q (.str m tk) s) :
    wpAny (model prog w) A (call (.type "str") [.ref e]) Q E s :=
  callType_new F.called_str (by decide) (F.typeCall_str_1 _) (F.newCall_str_1 _) (fun obj => F.args_object_init_2 obj _) F.entry_str_new
    (meets_str_new (S := fun A' R s' => A'.units + 1 < cLine ∧ ClsOk s'.heap C ∧ ErrAt s'.heap C e m ∧ ∀ tk, R (.ok (.ret (.str m tk))) s')
      fun _ _ A' _ _ hq => strOf_own (A := A'.in1) hq.1 hq.2.1 hq.2.2.1 hq.2.2.2)
    ⟨(show A.units + 1 + 1 < cLine from hu), hC, x, fun tk => ⟨typeIs_str _ _ _, h tk⟩⟩
theorem type_of_own {Q : Value → Shared → Prop} (x : ErrAt s.heap C e m) (h : Q (.ref C) s) : wpAny (model prog w) A (call (.type "type") [.ref e]) Q E s := by
  obtain ⟨o, vs, ta, tk, ho, hc, hd, h0, ht⟩ := x
  obtain ⟨hp, g, d, t, os⟩ := s
  exact call_type_obj ho (by rw [hc]; simp) (by rw [hc]; exact h)

/-- except C as n -/
theorem handle_own {env : Env} {t : Expr} {n : Str} {b₀ : Stmt} {suite : List Stmt} {pos : Pos} {rest : List ExceptHandler} {Q : Flow → Shared → Prop}
    (h : wpAny (model prog w) (A.mark (some (.ref e))) (eval t env) (fun c s₁ => c = .ref C ∧ ClsOk s₁.heap C ∧ (∃ oe, s₁.heap.get? e = some oe ∧ oe.cls = .ref C) ∧
      wpAny (model prog w) (A.mark (some (.ref e))) (setFlight (.ref e) none) (fun _ s₂ =>
          wpAny (model prog w) (A.mark (some (.ref e))) (storeName env n (.ref e)) (fun _ s₃ =>
            wpAny (model prog w) (A.mark (some (.ref e))) (execs (b₀ :: suite) env)
              (fun f s₄ => wpAny (model prog w) A (do bindName env n .none; unbindBehindTheSuite env n pos) (fun _ s₅ => Q f s₅) E s₄)
              (AsSuiteRaised (model prog w) (A.mark (some (.ref e))) env n pos (notedBy (model prog w) (A.mark (some (.ref e))) env (cameBackBy (model prog w) A env E))) s₃) (notedBy (model prog w) (A.mark (some (.ref e))) env (cameBackBy (model prog w) A env E)) s₂) (notedBy (model prog w) (A.mark (some (.ref e))) env (cameBackBy (model prog w) A env E)) s₁) (notedBy (model prog w) (A.mark (some (.ref e))) env (cameBackBy (model prog w) A env E)) s) :
    wpAny (model prog w) A (handleBy (.ref e) env (.ExceptHandler (some t) (some n) (b₀ :: suite) pos :: rest)) Q E s := by
  refine wpAny_handleBy_cons (codeAny_handlers_test (wpAny_mono h (fun c s₁ h₁ => ?_) fun _ _ y => y)) (by intro q; cases q)
  obtain ⟨rfl, ⟨nm, q, N, bs, hdct, sn, sub, ab, col, dd, k0, k1, k2, k3, k5, mN, hC, _⟩, ⟨oe, he, hcls⟩, hk⟩ := h₁
  obtain ⟨hh, g, d, tk, os⟩ := s₁
  exact wpAny_excMatches_sub_self hC he hcls (by simp [bmVE]) (codeAny_handlers_suite_as hk)
end
end Mine
end

section
open PySem PySem.W PyProof.Rows PySem.Calls
set_option maxRecDepth 100000
namespace Mine

/-- the part of a heap from n on -/
noncomputable def cut (n : Nat) (h : Heap) : Heap := hideAll h (List.range n)
theorem cut_get {n : Nat} {h : Heap} {a : Addr} {o : Obj} (hn : n ≤ a) (e : h.get? a = some o) : (cut n h).get? a = some o :=
  hideAll_get _ e fun q => by have := List.mem_range.mp q; omega
theorem of_cut {n : Nat} {h : Heap} {a : Addr} {o : Obj} (e : (cut n h).get? a = some o) : h.get? a = some o ∧ n ≤ a := by
  refine ⟨of_hideAll _ e, ?_⟩
  by_cases q : n ≤ a
  · exact q
  · have : (cut n h).get? a = none := hideAll_none _ (List.mem_range.mpr (by omega))
    rw [this] at e; cases e
theorem cut_mono {n n' : Nat} {h h' : Heap} (hn : n ≤ n') (k : (cut n' h).StaysIn h') : (cut n' h).StaysIn (cut n h') :=
  fun b o e => cut_get (Nat.le_trans hn (of_cut e).2) (k b o e)
theorem cut_keeps {n : Nat} {h h' : Heap} (k : h.StaysIn h') : (cut n h).StaysIn (cut n h') := fun b o e => cut_get (of_cut e).2 (k b o (of_cut e).1)
theorem cut_in {n : Nat} {h : Heap} : (cut n h).StaysIn h := fun _ _ e => (of_cut e).1

noncomputable def Rd (h : Heap) (v : Value) (d : PyData) : Prop := ∃ as, Reads h v d as
noncomputable def RdAll (h : Heap) (vs : List Value) (ds : List PyData) : Prop := ∃ as, ReadsAll h vs ds as
theorem Rd.keeps {h h' : Heap} {v : Value} {d : PyData} (x : Rd h v d) (k : h.StaysIn h') : Rd h' v d := let ⟨as, r⟩ := x; ⟨as, PyProof.Rows.Reads.keeps k r⟩
theorem RdAll.keeps {h h' : Heap} {vs : List Value} {ds : List PyData} (x : RdAll h vs ds) (k : h.StaysIn h') : RdAll h' vs ds := let ⟨as, r⟩ := x; ⟨as, PyProof.Rows.ReadsAll.keeps k r⟩
theorem Rd.str {h : Heap} {x : Str} {t : Tok} : Rd h (.str x t) (.str x) := ⟨_, .str x t⟩
theorem Rd.int {h : Heap} {x : Int} {t : Tok} : Rd h (.int x t) (.int x) := ⟨_, .int x t⟩
theorem Rd.none {h : Heap} : Rd h .none .none := ⟨_, .none⟩
theorem RdAll.nil {h : Heap} : RdAll h [] [] := ⟨_, .nil⟩
theorem RdAll.cons {h : Heap} {v : Value} {vs : List Value} {d : PyData} {ds : List PyData} (x : Rd h v d) (y : RdAll h vs ds) : RdAll h (v :: vs) (d :: ds) := let ⟨_, a⟩ := x; let ⟨_, b⟩ := y; ⟨_, .cons a b⟩
theorem RdAll.append {h : Heap} : ∀ {vs : List Value} {ds : List PyData} {us : List Value} {es : List PyData}, RdAll h vs ds → RdAll h us es → RdAll h (vs ++ us) (ds ++ es)
  | [], _, _, _, ⟨_, .nil⟩, y => y
  | _ :: _, _, _, _, ⟨_, .cons a b⟩, y => RdAll.cons ⟨_, a⟩ (RdAll.append ⟨_, b⟩ y)
theorem RdAll.length {h : Heap} : ∀ {vs : List Value} {ds : List PyData}, RdAll h vs ds → vs.length = ds.length
  | [], _, ⟨_, .nil⟩ => rfl
  | _ :: _, _, ⟨_, .cons a b⟩ => by have := RdAll.length ⟨_, b⟩; simp [this]
theorem RdAll.get {h : Heap} {vs : List Value} {ds : List PyData} {i : Nat} {v : Value} (x : RdAll h vs ds) (e : vs[i]? = some v) : ∃ d, ds[i]? = some d ∧ Rd h v d := by
  induction vs generalizing ds i with
  | nil => simp at e
  | cons a vs ih =>
    obtain ⟨_, r⟩ := x
    cases r with
    | cons p q =>
      cases i with
      | zero => simp at e; subst e; exact ⟨_, rfl, _, p⟩
      | succ i =>
        obtain ⟨d, h1, h2⟩ := ih ⟨_, q⟩ (by simpa using e)
        exact ⟨d, by simpa using h1, h2⟩
noncomputable abbrev lst (n : Nat) (vs : List Value) : Obj := { cls := .type "list", data := .seq vs.toArray n }
theorem Rd.list {h : Heap} {a : Addr} {n : Nat} {vs : List Value} {ds : List PyData} (e : h.get? a = some (lst n vs)) (x : RdAll h vs ds) : Rd h (.ref a) (.list ds) := let ⟨_, r⟩ := x; ⟨_, .list e rfl rfl (by simpa using r)⟩
theorem Rd.tuple {h : Heap} {a : Addr} {vs : List Value} {ds : List PyData} (e : h.get? a = some (tupObj vs)) (x : RdAll h vs ds) : Rd h (.ref a) (.tuple ds) := let ⟨_, r⟩ := x; ⟨_, .tuple e rfl rfl (by simpa using r)⟩
theorem Rd.list_inv {h : Heap} {v : Value} {ds : List PyData} (x : Rd h v (.list ds)) : ∃ a o vs n, v = .ref a ∧ h.get? a = some o ∧ o.cls = .type "list" ∧ o.data = .seq vs n ∧ RdAll h vs.toList ds := by
  obtain ⟨_, r⟩ := x
  cases r with | list h1 h2 h3 h4 => exact ⟨_, _, _, _, rfl, h1, h2, h3, _, h4⟩
theorem Rd.tuple_inv {h : Heap} {v : Value} {ds : List PyData} (x : Rd h v (.tuple ds)) : ∃ a o vs n, v = .ref a ∧ h.get? a = some o ∧ o.cls = .type "tuple" ∧ o.data = .seq vs n ∧ RdAll h vs.toList ds := by
  obtain ⟨_, r⟩ := x
  cases r with | tuple h1 h2 h3 h4 => exact ⟨_, _, _, _, rfl, h1, h2, h3, _, h4⟩
theorem Rd.int_inv {h : Heap} {v : Value} {i : Int} (x : Rd h v (.int i)) : ∃ t, v = .int i t := by obtain ⟨_, r⟩ := x; cases r; exact ⟨_, rfl⟩
theorem Rd.str_inv {h : Heap} {v : Value} {i : Str} (x : Rd h v (.str i)) : ∃ t, v = .str i t := by obtain ⟨_, r⟩ := x; cases r; exact ⟨_, rfl⟩
theorem Rd.none_inv {h : Heap} {v : Value} (x : Rd h v .none) : v = .none := by obtain ⟨_, r⟩ := x; cases r; rfl
theorem RdAll.nil_inv {h : Heap} {vs : List Value} (x : RdAll h vs []) : vs = [] := by obtain ⟨_, r⟩ := x; cases r; rfl
theorem RdAll.cons_inv {h : Heap} {vs : List Value} {d : PyData} {ds : List PyData} (x : RdAll h vs (d :: ds)) : ∃ v us, vs = v :: us ∧ Rd h v d ∧ RdAll h us ds := by
  obtain ⟨_, r⟩ := x; cases r with | cons a b => exact ⟨_, _, rfl, ⟨_, a⟩, ⟨_, b⟩⟩

/-- the heap without the frames and the table: what a call may be handed -/
noncomputable def grd (G : Glb) (outer : List Env) (h : Heap) : Heap := hideAll h (G.P :: frs outer)
theorem grd_in {G : Glb} {outer : List Env} {h : Heap} : (grd G outer h).StaysIn h := fun _ _ e => of_hideAll _ e
theorem of_grd {G : Glb} {outer : List Env} {h : Heap} {b : Addr} {o : Obj} (e : (grd G outer h).get? b = some o) : h.get? b = some o ∧ b ∉ frs outer ∧ b ≠ G.P := by
  refine ⟨of_hideAll _ e, fun q => ?_, fun q => ?_⟩
  · have : (grd G outer h).get? b = none := hideAll_none _ (.tail _ q)
    rw [this] at e; cases e
  · have : (grd G outer h).get? b = none := hideAll_none _ (q ▸ .head _)
    rw [this] at e; cases e
theorem grd_into {G : Glb} {outer : List Env} {h h₀ : Heap} (hin : ∀ b o, h.get? b = some o → b ∉ frs outer → b ≠ G.P → h₀.get? b = some o) : (grd G outer h).StaysIn h₀ :=
  fun b o e => let ⟨e1, e2, e3⟩ := of_grd e; hin b o e1 e2 e3

section
variable {G : Glb} {hin : Heap} {outer : List Env} {L : Addr} {h₀ h h' : Heap} {m m' : Str → Option Value} {news news' : List (Addr × Obj)}

theorem St.gr (S : St G hin outer L h₀ h m news) {env : Env} (hf : env.frame = some L) : h₀.StaysIn (grd G (env :: outer) h) := fun b o e =>
  hideAll_get _ (S.keep b o e) fun q => by
    rcases List.mem_cons.mp q with q | q
    · rw [q, S.nP] at e; cases e
    · unfold frs at q
      rw [List.filterMap_cons, hf] at q
      rcases List.mem_cons.mp q with q | q
      · rw [q, S.nL] at e; cases e
      · rw [(S.nfr b q).1] at e; cases e
/-- objects of the ledger are young -/
theorem St.low (S : St G hin outer L h₀ h m news) {p : Addr × Obj} (hp : p ∈ news) : p.1 < h.objs.size := Heap.lt_size (S.N p hp).1
theorem St.big (S : St G hin outer L h₀ h m news) : hin.objs.size ≤ h.objs.size := S.size

/-- behind a call: the ground anew, with all that the call made -/
theorem St.anew (S : St G hin outer L h₀ h m news) (x : Ext (L :: frs outer) G.P h h') (t : G.Tab h') :
    ∃ h₁, St G hin outer L h₁ h' m news ∧ h₀.StaysIn h₁ ∧ (cut h.objs.size h').StaysIn h₁ ∧ ∀ b o, h.get? b = none → h'.get? b = some o → h₁.get? b = some o := by
  have S' := S.call x t
  obtain ⟨S₁, k⟩ := S'.rebase
  have key : ∀ b o, h.get? b = none → h'.get? b = some o → (hideAll h' (hidden G outer L news)).get? b = some o := fun b o e2 e1 => by
    refine hideAll_get _ e1 fun q => ?_
    unfold hidden at q
    rcases List.mem_cons.mp q with q | q
    · obtain ⟨oL, _, _, eL, _⟩ := S.ns
      rw [q, eL] at e2; cases e2
    · rcases List.mem_cons.mp q with q | q
      · obtain ⟨ps, eP, _⟩ := S.tab
        rw [q, eP] at e2; cases e2
      · rcases List.mem_append.mp q with q | q
        · obtain ⟨_, oo, eo, _⟩ := S.ff.mem q
          rw [e2] at eo; cases eo
        · obtain ⟨p, hp, rfl⟩ := List.mem_map.mp q
          rw [(S.N p hp).1] at e2; cases e2
  refine ⟨_, S₁, k, fun b o e => ?_, key⟩
  obtain ⟨e1, e2⟩ := of_cut e
  refine key b o ?_ e1
  cases q : h.get? b with
  | none => rfl
  | some o' => exact absurd (Heap.lt_size q) (Nat.not_lt.mpr e2)

/-- an object of the ledger is laid into the ground -/
theorem St.settle {a : Addr} {o : Obj} (S : St G hin outer L h₀ h m ((a, o) :: news)) :
    ∃ h₁, St G hin outer L h₁ h m news ∧ h₀.StaysIn h₁ ∧ h₁.get? a = some o := by
  have hne : ∀ p ∈ news, p.1 ≠ a := (nd_apart (pre := []) S.nd).2
  have S' := S.sub (news' := news) (List.sublist_cons_self _ _)
  obtain ⟨S₁, k⟩ := S'.rebase
  obtain ⟨a1, a2, a3, a4, a5⟩ := S.N (a, o) (.head _)
  refine ⟨_, S₁, k, hideAll_get _ a1 fun q => ?_⟩
  unfold hidden at q
  rcases List.mem_cons.mp q with q | q
  · exact a2 q
  · rcases List.mem_cons.mp q with q | q
    · exact a5 q
    · rcases List.mem_append.mp q with q | q
      · exact a4 q
      · obtain ⟨p, hp, e⟩ := List.mem_map.mp q
        exact hne p hp e
end

section
variable {prog : Program} {w : World} {A : Around} {E : Value → Shared → Prop} {s : Shared} {G : Glb} {hin : Heap} {outer : List Env} {L a : Addr} {h₀ : Heap} {m : Str → Option Value} {news : List (Addr × Obj)} {name : Str} {scope : Scope} {cd : Value}

theorem NotCode.lst {n : Nat} {vs : List Value} : NotCode (lst n vs) := NotCode.seq rfl
theorem meth_append {D : Addr} {n : Nat} {vs : List Value} {pl : Sem Bool} {Q : Value × List Value → Shared → Prop} (e : s.heap.get? D = some (lst n vs)) (h : Q (.builtin "list.append", [.ref D]) s) :
    wpAny (model prog w) A (getMethod (.ref D) "append" pl) Q E s := Calls.getMethod_list_append e rfl rfl h
theorem append_St {D : Addr} {n : Nat} {vs : List Value} {v : Value} {Q : Value → Shared → Prop} (pre post : List (Addr × Obj)) (S : St G hin outer L h₀ s.heap m (pre ++ (D, lst n vs) :: post)) (hsz : vs.length ≤ 100000)
    (hQ : ∀ h', (∀ b o, b ≠ D → s.heap.get? b = some o → h'.get? b = some o) → St G hin outer L h₀ h' m (pre ++ (D, lst (n + 1) (vs ++ [v])) :: post) → Q .none { s with heap := h' }) :
    wpAny (model prog w) A (call (.builtin "list.append") [.ref D, v]) Q E s := by
  have hD := S.get (a := D) (o := lst n vs) (by simp)
  refine append_at hD (fun h' hs hD' => ?_) (by rw [sizeLine_eq]; simp; omega)
  have hD' : h'.get? D = some (lst (n + 1) (vs ++ [v])) := by rw [hD']; simp
  have k : ∀ b o, b ≠ D → s.heap.get? b = some o → h'.get? b = some o := fun b o hb e => (hs.2 b hb).trans e
  exact hQ h' k (S.turnAt hD' NotCode.lst k)

theorem St.newBut {h h' : Heap} (S : St G hin outer L h₀ h m news) (k : Heap.ExtBut h.objs.size h h') : St G hin outer L h₀ h' m news :=
  S.grow fun b o e => k b o (Nat.ne_of_lt (Heap.lt_size e)) e
/-- a tuple is taken apart -/
theorem unpack_St {elts : List Expr} {k : Nat} {pos : Pos} {t : Addr} {items : Array Value} {Q : Unit → Shared → Prop} (hh : A.handled = none) (S : St G hin outer L h₀ s.heap m news) (ht : IsTup s.heap t items)
    (hQ : ∀ h', (∀ b o, s.heap.get? b = some o → h'.get? b = some o) → St G hin outer L h₀ h' m news → wpAny (model prog w) A (assignInOrder ((assignEach elts (envOf name scope L a cd)).map (·.2)) items.toList) Q E { s with heap := h' })
    (hn : (assignEach elts (envOf name scope L a cd)).length = items.size := by rfl) (hstar : (assignEach elts (envOf name scope L a cd)).findIdx? (·.1) = none := by rfl) :
    wpAny (model prog w) A (assign (.Tuple elts k pos) (envOf name scope L a cd) (.ref t)) Q E s :=
  assign_Tuple_tuple hh ht hn hstar fun h' he => hQ h' (fun b o e => he b o (Nat.ne_of_lt (Heap.lt_size e)) e) (S.newBut he)

/-- the name of a handler goes -/
theorem goes_St {n : Str} {pos : Pos} {Q : Unit → Shared → Prop} (S : St G hin outer L h₀ s.heap m news)
    (hQ : ∀ h' m' tk, St G hin outer L h₀ h' m' news → Q () { s with heap := h', toks := tk })
    (hk : scope.kind = .function := by rfl) (hl : (envOf name scope L a cd).kindOf n = some .local := by rfl) :
    wpAny (model prog w) A (do bindName (envOf name scope L a cd) n .none; unbindBehindTheSuite (envOf name scope L a cd) n pos) Q E s :=
  wpAny_nameGoes hl S.ns (by show (scope.kind == .class || (scope.kind == .module && L != mainGlobals)) = false; rw [hk]; rfl) fun h' m' hn hs => hQ h' m' _ (S.set hn hs)
end
end Mine
end

section
open PySem PySem.W PyProof.Rows PySem.Calls
open PySem.Builtin PySem.Builtin.Str
set_option maxRecDepth 100000
namespace Mine

noncomputable def LIt (l : Addr) (i : Nat) (o : Obj) : Prop := o.cls = .type "list_iterator" ∧ o.data = .fields #[.ref l, .int i 0]
noncomputable def TIt (l : Addr) (i : Nat) (o : Obj) : Prop := o.cls = .type "tuple_iterator" ∧ o.data = .fields #[.ref l, .int i 0]
theorem LIt.code {l : Addr} {i : Nat} {o : Obj} (x : LIt l i o) : NotCode o := NotCode.fields x.2 (v := .int i 0) (by simp) (by simp)
theorem TIt.code {l : Addr} {i : Nat} {o : Obj} (x : TIt l i o) : NotCode o := NotCode.fields x.2 (v := .int i 0) (by simp) (by simp)

section
variable {prog : Program} {w : World} {A : Around} {E : Value → Shared → Prop} {s : Shared} {G : Glb} {hin : Heap} {outer : List Env} {L a : Addr} {h₀ : Heap} {m : Str → Option Value} {news : List (Addr × Obj)} {name : Str} {scope : Scope} {cd : Value}

theorem iter_list {l : Addr} {items : Array Value} {Q : Value → Shared → Prop} (S : St G hin outer L h₀ s.heap m news) (hl : s.heap.IsList l items)
    (hQ : ∀ it h' o, it = s.heap.objs.size → (∀ b o, s.heap.get? b = some o → h'.get? b = some o) → LIt l 0 o → St G hin outer L h₀ h' m ((it, o) :: news) → Q (.ref it) { s with heap := h' }) :
    wpAny (model prog w) A (pyIter (.ref l)) Q E s :=
  wpAny_pyIter_list hl (hQ _ _ _ rfl (fun _ _ e => Heap.get?_push_of_some _ e) ⟨rfl, rfl⟩ (S.push _))
theorem next_list {it l : Addr} {i : Nat} {items : Array Value} {o : Obj} {Q : Option Value → Shared → Prop} (hh : A.handled = none) (pre post : List (Addr × Obj)) (S : St G hin outer L h₀ s.heap m (pre ++ (it, o) :: post)) (hi : LIt l i o) (hl : s.heap.IsList l items)
    (h1 : ∀ v, items[i]? = some v → ∀ h' o', (∀ b x, b ≠ it → s.heap.get? b = some x → h'.get? b = some x) → LIt l (i + 1) o' → St G hin outer L h₀ h' m (pre ++ (it, o') :: post) → Q (some v) { s with heap := h' })
    (h2 : items[i]? = none → ∀ h', (∀ b x, b ≠ it → s.heap.get? b = some x → h'.get? b = some x) → St G hin outer L h₀ h' m (pre ++ post) → Q none { s with heap := h' }) :
    wpAny (model prog w) A (pyNext (.ref it)) Q E s := by
  have hit : s.heap.IsListIter it l i := ⟨o, S.get (by simp), hi.1, hi.2⟩
  cases hv : items[i]? with
  | some v =>
    refine wpAny_pyNext_list_item hit hl hv fun h' hit' hs => ?_
    obtain ⟨o', e', c', d'⟩ := hit'
    have k : ∀ b x, b ≠ it → s.heap.get? b = some x → h'.get? b = some x := fun b x hb e => (hs.2 b hb).trans e
    exact h1 v hv h' o' k ⟨c', d'⟩ (S.turnAt e' hi.code k)
  | none =>
    refine wpAny_pyNext_list_end hh hit hl hv fun h' he => ?_
    exact h2 hv h' (fun b x hb e => he b x hb e) (S.dropAt hi.code fun b x hb e => he b x hb e)
theorem go_list {it l : Addr} {i : Nat} {o : Obj} {elts : List Expr} {k : Nat} {pos : Pos} {T : Addr} {Q : Unit → Shared → Prop} (ho : s.heap.get? it = some o) (hi : LIt l i o) (hQ : Q () s) : wpAny (model prog w) A (letOwnedTupleGo (.Tuple elts k pos) (.ref it) (.ref T)) Q E s :=
  wpAny_letOwnedTupleGo_listiter ⟨o, ho, hi.1, hi.2⟩ hQ
theorem go_name {x : Str} {p : Pos} {it v : Value} {Q : Unit → Shared → Prop} (hQ : Q () s) : wpAny (model prog w) A (letOwnedTupleGo (.Name x p) it v) Q E s := wpAny_pure hQ

theorem iter_tup {l : Addr} {items : Array Value} {Q : Value → Shared → Prop} (S : St G hin outer L h₀ s.heap m news) (hl : IsTup s.heap l items)
    (hQ : ∀ it h' o, it = s.heap.objs.size → (∀ b o, s.heap.get? b = some o → h'.get? b = some o) → TIt l 0 o → St G hin outer L h₀ h' m ((it, o) :: news) → Q (.ref it) { s with heap := h' }) :
    wpAny (model prog w) A (pyIter (.ref l)) Q E s :=
  iter_tuple hl (hQ _ _ _ rfl (fun _ _ e => Heap.get?_push_of_some _ e) ⟨rfl, rfl⟩ (S.push _))
theorem next_tup {it l : Addr} {i : Nat} {items : Array Value} {o : Obj} {Q : Option Value → Shared → Prop} (hh : A.handled = none) (pre post : List (Addr × Obj)) (S : St G hin outer L h₀ s.heap m (pre ++ (it, o) :: post)) (hi : TIt l i o) (hl : IsTup s.heap l items)
    (h1 : ∀ v, items[i]? = some v → ∀ h' o', (∀ b x, b ≠ it → s.heap.get? b = some x → h'.get? b = some x) → TIt l (i + 1) o' → St G hin outer L h₀ h' m (pre ++ (it, o') :: post) → Q (some v) { s with heap := h' })
    (h2 : items[i]? = none → ∀ h', (∀ b x, b ≠ it → s.heap.get? b = some x → h'.get? b = some x) → St G hin outer L h₀ h' m (pre ++ post) → Q none { s with heap := h' }) :
    wpAny (model prog w) A (pyNext (.ref it)) Q E s := by
  have hit : IsTupIter s.heap it l i := ⟨o, S.get (by simp), hi.1, hi.2⟩
  cases hv : items[i]? with
  | some v =>
    refine next_tuple_item hit hl hv fun h' hit' hs => ?_
    obtain ⟨o', e', c', d'⟩ := hit'
    have k : ∀ b x, b ≠ it → s.heap.get? b = some x → h'.get? b = some x := fun b x hb e => (hs.2 b hb).trans e
    exact h1 v hv h' o' k ⟨c', d'⟩ (S.turnAt e' hi.code k)
  | none =>
    refine next_tuple_end hh hit hl hv fun h' he => ?_
    exact h2 hv h' (fun b x hb e => he b x hb e) (S.dropAt hi.code fun b x hb e => he b x hb e)

/-- text.split(sign) -/
theorem split_St {x y : Str} {t u : Tok} {Q : Value → Shared → Prop} (S : St G hin outer L h₀ s.heap m news) (hy : (y.length == 0) = false) (hsz : x.length ≤ 100000)
    (hQ : ∀ D l h' k, l.map (·.1) = Txt.split x y → D = s.heap.objs.size → (∀ b o, s.heap.get? b = some o → h'.get? b = some o) → St G hin outer L h₀ h' m ((D, listObj (strValues l)) :: news) → Q (.ref D) { s with heap := h', toks := k }) :
    wpAny (model prog w) A (call (.builtin "str.split") [.str x t, .str y u]) Q E s := by
  have hsz2 : (partsBetween x (occurrences x y 0 x.length (x.length + 1)) y.length).length ≤ sizeLine := by
    have e1 := StrLaws.occ_length_le_len x y 0 x.length (x.length + 1)
    rw [length_partsBetween, sizeLine_eq]; omega
  have hsz1 : x.length ≤ sizeLine := by rw [sizeLine_eq]; omega
  have kp : ∀ (ob : Obj) b o, s.heap.get? b = some o → (s.heap.push ob).get? b = some o := fun ob _ _ e => Heap.get?_push_of_some ob e
  cases h1 : (decide (x.length < y.length) || decide (PySem.Builtin.Str.strKind x < PySem.Builtin.Str.strKind y))
  · cases hf : (occurrences x y 0 x.length (x.length + 1)).isEmpty
    · refine call_meets F.slot_str_split (typeIs_str _ _ _) F.entry_str_split (F.args_str_split_2 _ _) (meets_str_split_sep x y t u h1 hy hf hsz1 hsz2) ?_
      show wants Q E _ { s with toks := _, heap := s.heap.push { cls := .type "list", data := .seq (strsFrom s.toks (partsBetween x (occurrences x y 0 x.length (x.length + 1)) y.length)).toArray } }
      rw [strsFrom_eq]
      exact hQ _ (numbered s.toks _) _ _ ((numbered_texts _ _).trans ((if_neg (ne_true_of_eq_false h1)).trans (if_neg (ne_true_of_eq_false hf))).symm) rfl (kp _) (S.push _)
    · exact call_meets F.slot_str_split (typeIs_str _ _ _) F.entry_str_split (F.args_str_split_2 _ _) (meets_str_split_not_found x y t u h1 hy hf)
        (hQ _ [(x, t)] _ s.toks ((if_neg (ne_true_of_eq_false h1)).trans (if_pos hf)).symm rfl (kp _) (S.push _))
  · exact call_meets F.slot_str_split (typeIs_str _ _ _) F.entry_str_split (F.args_str_split_2 _ _) (meets_str_split_cannot_occur x y t u h1)
      (hQ _ [(x, t)] _ s.toks (if_pos h1).symm rfl (kp _) (S.push _))
end
end Mine
end

section
open PySem PySem.W PyProof.Rows PySem.Calls
open PySem.Builtin PySem.Builtin.Str
set_option maxRecDepth 100000
namespace Mine

noncomputable def enumObj (it : Addr) (i : Int) (old : Value) : Obj := { cls := .type "enumerate", dict := none, data := .fields #[.none, .bool false, .ref it, rawInt i, .none, old], slots := #[] }
theorem enumObj.code {it : Addr} {i : Int} {old : Value} : NotCode (enumObj it i old) := NotCode.fields rfl (v := .bool false) (by simp) (by simp)
noncomputable def SIt (x : Str) (t : Tok) (i : Nat) (o : Obj) : Prop := o.cls = .type (strIterType x) ∧ o.data = .fields #[.str x t, .int i 0]
theorem SIt.code {x : Str} {t : Tok} {i : Nat} {o : Obj} (x : SIt x t i o) : NotCode o := NotCode.fields x.2 (v := .int i 0) (by simp) (by simp)

section
variable {prog : Program} {w : World} {A : Around} {E : Value → Shared → Prop} {s : Shared} {G : Glb} {hin : Heap} {outer : List Env} {L a : Addr} {h₀ h h' : Heap} {m : Str → Option Value} {news : List (Addr × Obj)} {name : Str} {scope : Scope} {cd : Value}

/-- an object made is put into the ledger -/
theorem St.adopt {o : Obj} (S : St G hin outer L h₀ h m news) (k : ∀ b o, h.get? b = some o → h'.get? b = some o) (ha : h.objs.size ≤ a) (e : h'.get? a = some o) : St G hin outer L h₀ h' m ((a, o) :: news) :=
  let S' := S.grow k
  { S' with
    N := fun p hp => by
      rcases List.mem_cons.mp hp with rfl | hp
      · refine ⟨e, fun q => ?_, ?_, fun q => ?_, fun q => ?_⟩
        · have q : a = L := q
          rw [q] at ha; exact absurd S.ns.lt (Nat.not_lt.mpr ha)
        · cases q : h₀.get? a with
          | none => rfl
          | some o' => exact absurd (Heap.lt_size (S.keep _ _ q)) (Nat.not_lt.mpr ha)
        · exact absurd (S.lt_of_frs q) (Nat.not_lt.mpr ha)
        · have q : a = G.P := q
          rw [q] at ha; exact absurd S.lt_P (Nat.not_lt.mpr ha)
      · exact S'.N p hp
    nd := List.nodup_cons.mpr ⟨fun q => by
      obtain ⟨p, hp, e⟩ := List.mem_map.mp q
      have := Heap.lt_size (S.N p hp).1
      rw [e] at this
      exact absurd this (Nat.not_lt.mpr ha), S.nd⟩ }
/-- one more, beside one just made -/
theorem St.adopt2 {a₁ a₂ : Addr} {o₁ o₂ : Obj} (S : St G hin outer L h₀ h m news) (k : ∀ b o, h.get? b = some o → h'.get? b = some o) (h1 : h.objs.size ≤ a₁) (h2 : h.objs.size ≤ a₂) (hn : a₁ ≠ a₂) (e₁ : h'.get? a₁ = some o₁) (e₂ : h'.get? a₂ = some o₂) : St G hin outer L h₀ h' m ((a₁, o₁) :: (a₂, o₂) :: news) :=
  let S₁ := S.adopt k h1 e₁
  let S₂ := S.adopt k h2 e₂
  { S₂ with
    N := fun p hp => by
      rcases List.mem_cons.mp hp with rfl | hp
      · exact S₁.N _ (.head _)
      · exact S₂.N p hp
    nd := List.nodup_cons.mpr ⟨fun q => by
      rw [List.map_cons] at q
      rcases List.mem_cons.mp q with q | q
      · exact hn q
      · exact (List.nodup_cons.mp S₁.nd).1 q, S₂.nd⟩ }

theorem St.turn {news' : List (Addr × Obj)} (S : St G hin outer L h₀ h m news) (hn : news'.map (·.1) = news.map (·.1)) (xs : List Addr) (hxs : ∀ x ∈ xs, ∃ o, (x, o) ∈ news ∧ NotCode o) (hN : ∀ p ∈ news', h'.get? p.1 = some p.2) (k : ∀ b x, b ∉ xs → h.get? b = some x → h'.get? b = some x) :
    St G hin outer L h₀ h' m news' := by
  have nL : L ∉ xs := fun q => let ⟨_, ho, _⟩ := hxs L q; (S.N _ ho).2.1 rfl
  have nP : G.P ∉ xs := fun q => let ⟨_, ho, _⟩ := hxs _ q; (S.N _ ho).2.2.2.2 rfl
  have nf : ∀ b ∈ frs outer, b ∉ xs := fun b hb q => let ⟨_, ho, _⟩ := hxs _ q; (S.N _ ho).2.2.2.1 hb
  obtain ⟨oL, es, ep, hL, r⟩ := S.ns
  refine ⟨⟨oL, es, ep, k L _ nL hL, r⟩, S.nL, fun b o q => k b o (fun z => ?_) (S.keep b o q), S.inn, fun b o q hb => ?_, S.nfr, ?_, S.bs, S.nP, S.LP, ?_, fun p hp => ?_, S.sz, by rw [hn]; exact S.nd⟩
  · obtain ⟨_, ho, _⟩ := hxs b z
    rw [(S.N _ ho).2.2.1] at q; cases q
  · obtain ⟨sl, e'⟩ := S.fro b o q hb
    exact ⟨sl, k b _ (nf b hb) e'⟩
  · have key : ∀ l : List Env, (∀ b ∈ frs l, b ∉ xs) → h.FunFrames G.base l → h'.FunFrames G.base l := by
      intro l
      induction l with
      | nil => intro _ _; trivial
      | cons env rest ih =>
        intro hne hl
        obtain ⟨hk, ⟨A, o, hf', hn, ho, hd⟩, hr⟩ := hl
        refine ⟨hk, ⟨A, o, hf', hn, k A _ (hne A ?_) ho, hd⟩, ih (fun b hb => hne b ?_) hr⟩
        · simp [frs, hf']
        · unfold frs at hb ⊢
          rw [List.filterMap_cons, hf']
          exact .tail _ hb
    exact key outer nf S.ff
  · obtain ⟨ps, eP, t⟩ := S.tab
    refine ⟨ps, k _ _ nP eP, ?_⟩
    rcases t with t | ⟨c', o, vs, tq, e1, e2, e4, e5⟩
    · exact .inl t
    · refine .inr ⟨c', o, vs, tq, e1, k _ _ (fun z => ?_) e2, e4, e5⟩
      obtain ⟨o', ho, hc⟩ := hxs _ z
      have := (S.N _ ho).1
      rw [e2] at this; cases this; exact hc _ _ _ e4 e5
  · have : p.1 ∈ news.map (·.1) := hn ▸ List.mem_map_of_mem hp
    obtain ⟨q, hq, e⟩ := List.mem_map.mp this
    have := (S.N q hq).2
    rw [e] at this
    exact ⟨hN p hp, this⟩
theorem St.two {pre post : List (Addr × Obj)} {d₁ d₂ : Addr} {o₁ o₂ o₁' o₂' : Obj} (S : St G hin outer L h₀ h m (pre ++ (d₁, o₁) :: (d₂, o₂) :: post)) (e₁ : h'.get? d₁ = some o₁') (e₂ : h'.get? d₂ = some o₂') (c₁ : NotCode o₁) (c₂ : NotCode o₂) (k : ∀ b x, b ≠ d₁ → b ≠ d₂ → h.get? b = some x → h'.get? b = some x) :
    St G hin outer L h₀ h' m (pre ++ (d₁, o₁') :: (d₂, o₂') :: post) := by
  obtain ⟨a1, a2⟩ := nd_apart S.nd
  have S2 := S.nd
  rw [show pre ++ (d₁, o₁) :: (d₂, o₂) :: post = (pre ++ [(d₁, o₁)]) ++ (d₂, o₂) :: post by simp] at S2
  obtain ⟨b1, b2⟩ := nd_apart S2
  refine S.turn (by simp) [d₁, d₂] (fun x hx => ?_) (fun p hp => ?_) fun b x hb e => k b x (fun q => hb (by simp [q])) (fun q => hb (by simp [q])) e
  · rcases List.mem_cons.mp hx with rfl | hx
    · exact ⟨o₁, by simp, c₁⟩
    · rw [List.mem_singleton.mp hx]; exact ⟨o₂, by simp, c₂⟩
  · rcases List.mem_append.mp hp with q | q
    · exact k _ _ (a1 p q) (b1 p (List.mem_append_left _ q)) (S.N p (List.mem_append_left _ q)).1
    · rcases List.mem_cons.mp q with rfl | q
      · exact e₁
      · rcases List.mem_cons.mp q with rfl | q
        · exact e₂
        · exact k _ _ (a2 p (.tail _ q)) (b2 p q) (S.N p (List.mem_append_right _ (.tail _ (.tail _ q)))).1

theorem enum_str {x : Str} {t : Tok} {Q : Value → Shared → Prop} (S : St G hin outer L h₀ s.heap m news)
    (hQ : ∀ e it oi h', SIt x t 0 oi → (∀ b o, s.heap.get? b = some o → h'.get? b = some o) → St G hin outer L h₀ h' m ((e, enumObj it 0 .none) :: (it, oi) :: news) → Q (.ref e) { s with heap := h' }) :
    wpAny (model prog w) A (call (.type "enumerate") [.str x t]) Q E s := by
  refine call_enumerate_str fun h' he hi hz k => ?_
  obtain ⟨oi, ei, ci, di⟩ := hi
  exact hQ _ _ oi h' ⟨ci, di⟩ k (S.adopt2 k (Nat.le_succ _) (Nat.le_refl _) (Nat.succ_ne_self _) he ei)
theorem enum_list {l : Addr} {items : Array Value} {Q : Value → Shared → Prop} (S : St G hin outer L h₀ s.heap m news) (hl : s.heap.IsList l items)
    (hQ : ∀ e it oi h', LIt l 0 oi → (∀ b o, s.heap.get? b = some o → h'.get? b = some o) → St G hin outer L h₀ h' m ((e, enumObj it 0 .none) :: (it, oi) :: news) → Q (.ref e) { s with heap := h' }) :
    wpAny (model prog w) A (call (.type "enumerate") [.ref l]) Q E s := by
  refine call_enumerate_list hl fun h' he hi hz k => ?_
  obtain ⟨oi, ei, ci, di⟩ := hi
  exact hQ _ _ oi h' ⟨ci, di⟩ k (S.adopt2 k (Nat.le_succ _) (Nat.le_refl _) (Nat.succ_ne_self _) he ei)

/-- the next of an enumerate over a text: the pair, taken at once -/
theorem next_enum_str {x : Str} {t : Tok} {e it : Addr} {i : Nat} {old : Value} {oi : Obj} {elts : List Expr} {k : Nat} {pos : Pos} {Q : Option Value → Shared → Prop} {Q' : Addr → Shared → Prop} {E' : Value → Shared → Prop} (hh : A.handled = none) (pre post : List (Addr × Obj))
    (S : St G hin outer L h₀ s.heap m (pre ++ (e, enumObj it i old) :: (it, oi) :: post)) (hi : SIt x t i oi) (hle : i ≤ x.cps.size)
    (h1 : ∀ c, x.cps[i]? = some c → ∀ h' tk t₁ t₂ T oi', SIt x t (i + 1) oi' → (∀ b o, b ≠ e → b ≠ it → s.heap.get? b = some o → h'.get? b = some o) → St G hin outer L h₀ h' m (pre ++ (e, enumObj it ((i + 1 : Nat) : Int) (.str ⟨#[c]⟩ t₂)) :: (it, oi') :: post) → IsTup h' T #[.int i t₁, .str ⟨#[c]⟩ t₂] → Q' T { s with heap := h', toks := tk })
    (h2 : x.cps[i]? = none → ∀ h', St G hin outer L h₀ h' m (pre ++ post) → Q none { s with heap := h' })
    (hQ : ∀ T s₁, wpAny (model prog w) A (letOwnedTupleGo (.Tuple elts k pos) (.ref e) (.ref T)) (fun _ s₂ => Q' T s₂) E' s₁ → Q (some (.ref T)) s₁) :
    wpAny (model prog w) A (pyNext (.ref e)) Q E s := by
  have he : IsEnum s.heap e it i old := S.get (o := enumObj it i old) (by simp)
  have hit : s.heap.IsStrIter it (strIterType x) x t i := ⟨oi, S.get (by simp), hi.1, hi.2⟩
  have hne : e ≠ it := Ne.symm ((nd_apart S.nd).2 _ (.head _))
  have D : Draws prog w A.in1 it [it] x.cps.size (fun i v => ∃ c u, x.cps[i]? = some c ∧ v = .str ⟨#[c]⟩ u) (fun i h => h.IsStrIter it (strIterType x) x t i) := by
    unfold strIterType
    split
    · exact Draws.strAscii (A := A.in1) hh it x t
    · exact Draws.strWide (A := A.in1) hh it x t
  cases hv : x.cps[i]? with
  | some c =>
    have hlt : i < x.cps.size := (Array.getElem?_eq_some_iff.mp hv).1
    refine wpAny_pyNext_enum_itemD D he hit hlt hne (by simp [hne]) fun v h₁ tk hv' ho hs hT hz k₁ => ?_
    obtain ⟨c', u, hc', rfl⟩ := hv'
    rw [hv] at hc'; cases hc'
    refine hQ _ _ ?_
    refine wpAny_letOwnedTupleGo_enum ho fun h₂ he₂ hs₂ => ?_
    have hs₂ : Heap.SameBut e h₁ h₂ := hs₂
    obtain ⟨oi', ei', ci', di'⟩ := hs
    have helt : e < s.heap.objs.size := Heap.lt_size he
    have k₂ : ∀ b o, b ≠ e → b ≠ it → s.heap.get? b = some o → h₂.get? b = some o := fun b o hb1 hb2 eb => (hs₂.2 b hb1).trans (k₁ b o hb1 hb2 eb)
    refine h1 c hv h₂ _ tk u _ oi' ⟨ci', di'⟩ k₂ ?_ ⟨_, (hs₂.2 _ (Nat.ne_of_gt helt)).trans hT, rfl, 0, rfl⟩
    exact S.two he₂ ((hs₂.2 _ (Ne.symm hne)).trans ei') enumObj.code hi.code k₂
  | none =>
    have hsz : i = x.cps.size := Nat.le_antisymm hle (by simpa using hv)
    subst hsz
    refine wpAny_pyNext_enum_endD D he hit fun h' hx => ?_
    have S' : St G hin outer L h₀ s.heap m ((pre ++ [(e, enumObj it x.cps.size old)]) ++ (it, oi) :: post) := by simpa using S
    exact h2 hv h' ((S'.dropAt hi.code fun b o hb eb => hx b o hb eb).sub (by simp))

/-- the next of an enumerate over a list -/
theorem next_enum_list {l : Addr} {items : Array Value} {e it : Addr} {i : Nat} {old : Value} {oi : Obj} {elts : List Expr} {k : Nat} {pos : Pos} {Q : Option Value → Shared → Prop} {Q' : Addr → Shared → Prop} {E' : Value → Shared → Prop} (hh : A.handled = none) (pre post : List (Addr × Obj))
    (S : St G hin outer L h₀ s.heap m (pre ++ (e, enumObj it i old) :: (it, oi) :: post)) (hi : LIt l i oi) (hl : s.heap.IsList l items) (hle : i ≤ items.size) (hne₁ : l ≠ e) (hne₂ : l ≠ it)
    (h1 : ∀ v, items[i]? = some v → ∀ h' tk t₁ T oi', LIt l (i + 1) oi' → (∀ b o, b ≠ e → b ≠ it → s.heap.get? b = some o → h'.get? b = some o) → St G hin outer L h₀ h' m (pre ++ (e, enumObj it ((i + 1 : Nat) : Int) v) :: (it, oi') :: post) → IsTup h' T #[.int i t₁, v] → Q' T { s with heap := h', toks := tk })
    (h2 : items[i]? = none → ∀ h', (∀ b o, b ≠ it → s.heap.get? b = some o → h'.get? b = some o) → St G hin outer L h₀ h' m (pre ++ post) → Q none { s with heap := h' })
    (hQ : ∀ T s₁, wpAny (model prog w) A (letOwnedTupleGo (.Tuple elts k pos) (.ref e) (.ref T)) (fun _ s₂ => Q' T s₂) E' s₁ → Q (some (.ref T)) s₁) :
    wpAny (model prog w) A (pyNext (.ref e)) Q E s := by
  have he : IsEnum s.heap e it i old := S.get (o := enumObj it i old) (by simp)
  have hit : s.heap.IsListIter it l i := ⟨oi, S.get (by simp), hi.1, hi.2⟩
  have hne : e ≠ it := Ne.symm ((nd_apart S.nd).2 _ (.head _))
  have D := Draws.list (prog := prog) (w := w) (A := A.in1) hh it l hne₂ items
  cases hv : items[i]? with
  | some v =>
    have hlt : i < items.size := (Array.getElem?_eq_some_iff.mp hv).1
    refine wpAny_pyNext_enum_itemD D he ⟨hit, hl⟩ hlt hne (by simp [hne, Ne.symm hne₁]) fun v' h₁ tk hv' ho hs hT hz k₁ => ?_
    rw [hv] at hv'; cases hv'
    refine hQ _ _ ?_
    refine wpAny_letOwnedTupleGo_enum ho fun h₂ he₂ hs₂ => ?_
    have hs₂ : Heap.SameBut e h₁ h₂ := hs₂
    obtain ⟨⟨oi', ei', ci', di'⟩, _⟩ := hs
    have helt : e < s.heap.objs.size := Heap.lt_size he
    have k₂ : ∀ b o, b ≠ e → b ≠ it → s.heap.get? b = some o → h₂.get? b = some o := fun b o hb1 hb2 eb => (hs₂.2 b hb1).trans (k₁ b o hb1 hb2 eb)
    refine h1 v hv h₂ _ tk _ oi' ⟨ci', di'⟩ k₂ ?_ ⟨_, (hs₂.2 _ (Nat.ne_of_gt helt)).trans hT, rfl, 0, rfl⟩
    exact S.two he₂ ((hs₂.2 _ (Ne.symm hne)).trans ei') enumObj.code hi.code k₂
  | none =>
    have hsz : i = items.size := Nat.le_antisymm hle (by simpa using hv)
    subst hsz
    refine wpAny_pyNext_enum_endD D he ⟨hit, hl⟩ fun h' hx => ?_
    have S' : St G hin outer L h₀ s.heap m ((pre ++ [(e, enumObj it items.size old)]) ++ (it, oi) :: post) := by simpa using S
    exact h2 hv h' (fun b o hb eb => hx b o hb eb) ((S'.dropAt hi.code fun b o hb eb => hx b o hb eb).sub (by simp))

/-- a list, no matter how much room it has -/
noncomputable def IsL (items : Array Value) (o : Obj) : Prop := o.cls = .type "list" ∧ ∃ n, o.data = .seq items n
theorem IsL.code {items : Array Value} {o : Obj} (x : IsL items o) : NotCode o := let ⟨_, _, hd⟩ := x; NotCode.seq hd
theorem IsL.at {items : Array Value} {o : Obj} {h : Heap} {D : Addr} (x : IsL items o) (e : h.get? D = some o) : h.IsList D items := ⟨o, e, x⟩
/-- lines[j] = v -/
theorem set_St {D : Addr} {o : Obj} {items : Array Value} {j : Nat} {t : Tok} {v : Value} {Q : Unit → Shared → Prop} (pre post : List (Addr × Obj)) (S : St G hin outer L h₀ s.heap m (pre ++ (D, o) :: post)) (hl : IsL items o) (hj : j < items.size) (hz : j < 1000000)
    (hQ : ∀ h' o', (∀ b o, b ≠ D → s.heap.get? b = some o → h'.get? b = some o) → St G hin outer L h₀ h' m (pre ++ (D, o') :: post) → IsL (items.setIfInBounds j v) o' → Q () { s with heap := h' }) :
    wpAny (model prog w) A (setItem (.ref D) (.int j t) v) Q E s := by
  refine wpAny_setItem_list (hl.at (S.get (by simp))) (Int.natCast_nonneg _) (by omega) (by omega) fun h' hl' hs => ?_
  obtain ⟨o', ho', r⟩ := id hl'
  have k : ∀ b x, b ≠ D → s.heap.get? b = some x → h'.get? b = some x := fun b x hb e => (hs.2 b hb).trans e
  exact hQ h' o' k (S.turnAt ho' hl.code k) (by simpa [IsL] using r)
end
end Mine
end

section
open PySem PySem.W PyProof.Rows PySem.Calls
open PySem.Builtin PySem.Builtin.Str
set_option maxRecDepth 100000
namespace Mine

/-- the digits of a number, as code points -/
noncomputable abbrev digs (l : Nat) : List Nat := (Str.ofString (toString (l : Int))).cps.toList

section
variable {prog : Program} {w : World} {A : Around} {E : Value → Shared → Prop} {s : Shared}

/-- a loop over a range, one turn -/
theorem forIn_turn {β : Type} {M : Model} {n k : Nat} {b : β} {B : Nat → β → Sem (ForInStep β)} {Q : β → Shared → Prop}
    (h : wpAny M A (B k b) (fun r s₁ => match r with | .done b' => Q b' s₁ | .yield b' => wpAny M A (forIn (List.range' (k + 1) n) b' B) Q E s₁) E s) :
    wpAny M A (forIn (List.range' k (n + 1)) b B) Q E s := by
  rw [List.range'_succ, List.forIn_cons]
  refine wpAny_bind (wpAny_mono h (fun r s₁ h₁ => ?_) fun _ _ x => x)
  cases r with
  | done b' => exact wpAny_pure h₁
  | yield b' => exact h₁

theorem log_small' {i : Nat} (h : i ≤ 10000000) : (i : Int).natAbs.log2 < 1920 := by
  rw [Int.natAbs_natCast]
  by_cases h0 : i = 0
  · subst h0; decide
  · have := Nat.log2_lt h0 (k := 1920)
    rw [this]
    exact Nat.lt_of_le_of_lt h (Nat.lt_of_lt_of_le (by decide : 10000000 < 2 ^ 24) (Nat.pow_le_pow_right (by decide) (by decide)))
structure PctB (prog : Program) (w : World) (A : Around) (E : Value → Shared → Prop) (fl : Nat) (fo : Value) (B : Nat → List Value × Writer × List Nat → Sem (ForInStep (List Value × Writer × List Nat))) : Prop where
  stop : ∀ k p W, tooLong W.total = false → B k (p, W, []) = pure (.done (p, W, []))
  lit : ∀ k p W r x r', tooLong W.total = false → r ≠ [] → r.span (· != 37) = (x, r') → x ≠ [] → B k (p, W, r) = pure (.yield (p, W.add ⟨x.toArray⟩ (if x.length == fl then some fo else none), r'))
  dec : ∀ k (i : Nat) t p W r' s Q, tooLong W.total = false → i ≤ 10000000 → (∀ tk, Q (.yield (p, W.add ⟨(digs i).toArray⟩ none, r')) { s with toks := tk }) → wpAny (model prog w) A (B k (.int i t :: p, W, 37 :: 100 :: r')) Q E s
  rep : ∀ k (y : Str) t p W c r' s Q, tooLong W.total = false → (reprText y).length ≤ 1000 → (∀ tk, Q (.yield (p, W.add ⟨(reprText y).cps.toList.toArray⟩ none, c :: r')) { s with toks := tk }) → wpAny (model prog w) A (B k (.str y t :: p, W, 37 :: 114 :: c :: r')) Q E s

theorem reprUnder_str {b : Nat} {x : Str} {t : Tok} {Q : Value → Shared → Prop} (h : Q (.str (reprText x) s.toks) { s with toks := s.toks + 1 }) (hsz : (reprText x).length ≤ sizeLine) : wpAny (model prog w) A (pyReprObjUnder b (.str x t)) Q E s := by
  have hv : [Value.str x t].any Value.onHeap = false := rfl
  unfold pyReprObjUnder pyReprObjBy
  simp only [cRoomFor, hv, Bool.false_eq_true, if_false, pure_bind]
  refine wpAny_bind (wpAny_specialOf (name := Str.ofString "__repr__") (typeIs_str s x t) F.slot_str_repr.lookup ?_)
  refine wpAny_bind (wpAny_callSpecialIfBoundBy?_slotG (name := Str.ofString "__repr__") (typeIs_str s x t) F.slot_str_repr.toG ?_)
  have hu : reprUnder? (.builtin "str.__repr__") = none := rfl
  simp only [hu]
  refine call_gives F.slot_str_repr (typeIs_str s x t) F.entry_str_repr (F.args_str_repr_1 _) (gives_str_repr x t) ⟨hsz, ?_⟩
  exact wpAny_bind (wpAny_isInstance (T := "str") (b := true) rfl isSubtype_str_str (wpAny_pure h))

theorem w_neg {α : Type} {M : Model} {c : Prop} [Decidable c] {t e : Sem α} {Q : α → Shared → Prop} (h : ¬ c) (hh : wpAny M A e Q E s) : wpAny M A (if c then t else e) Q E s := by rw [if_neg h]; exact hh
theorem w_pos {α : Type} {M : Model} {c : Prop} [Decidable c] {t e : Sem α} {Q : α → Shared → Prop} (h : c) (hh : wpAny M A t Q E s) : wpAny M A (if c then t else e) Q E s := by rw [if_pos h]; exact hh
theorem e_span {α β γ : Type} {x : α × β} {a : α} {b : β} {f : α → β → γ} {y : γ} (h : x = (a, b)) (hh : f a b = y) : Prod.casesOn (motive := fun _ => γ) x f = y := by subst h; exact hh
theorem w_span {α β γ : Type} {M : Model} {x : α × β} {a : α} {b : β} {f : α → β → Sem γ} {Q : γ → Shared → Prop} (h : x = (a, b)) (hh : wpAny M A (f a b) Q E s) : wpAny M A (Prod.casesOn (motive := fun _ => Sem γ) x f) Q E s := by subst h; exact hh

set_option maxHeartbeats 8000000 in
theorem pctB {fmt : Str} {t : Tok} {a : Addr} {items : Array Value} {o : Obj} {Q : Fin → Shared → Prop} (ho : s.heap.get? a = some o) (hc : o.cls = .type "tuple") (hd : o.data = .seq items n)
    (h : ∀ B, PctB prog w A E fmt.length (.str fmt t) B → wpAny (model prog w) A (forIn (List.range' 0 fmt.length) (items.toList, ({} : Writer), fmt.cps.toList) B) (fun r s₁ => r.1 = [] ∧ wpAny (model prog w) A (r.2.1.finish "str.__mod__") Q E s₁) E s) :
    wpAny (model prog w) A (Builtin.«str.__mod__» ⟨[.str fmt t, .ref a], []⟩) Q E s := by
  obtain ⟨hp, g, d, tk, os⟩ := s
  unfold Builtin.«str.__mod__»
  show wpAny _ _ (percentFormat (.str fmt t) fmt (.ref a)) _ _ _
  unfold percentFormat
  refine wpAny_bind (wpAny_isInstance (T := "tuple") (b := true) ⟨o, ho, hc⟩ (by rw [isSubtype_type]; kernel_rfl) ?_)
  refine wpAny_bind (wpAny_mono (Q := fun r s' => r = none ∧ s' = ⟨hp, g, d, tk, os⟩) (E := E) ?_ ?_ (fun _ _ x => x))
  · repeat (first | with_reducible refine wpAny_loadPart_at ho ?_ | wp_step)
    rw [hd]
    exact wpAny_pure ⟨rfl, rfl⟩
  rintro _ _ ⟨rfl, rfl⟩
  refine wpAny_bind (wpAny_mono (Q := fun r s' => s' = ⟨hp, g, d, tk, os⟩) (E := E) ?_ ?_ (fun _ _ x => x))
  · repeat (first | with_reducible refine wpAny_loadPart_at ho ?_ | wp_step)
    rw [hc]
    refine wpAny_of_eq slot_tuple_getitem.lookup ?_
    exact wpAny_pure rfl
  rintro sub _ rfl
  refine w_pos rfl ?_
  refine wpAny_bind (wpAny_seqItems ho hd ?_)
  refine wpAny_bind (wpAny_pure ?_)
  refine wpAny_bind ?_
  rw [Std.Legacy.Range.forIn_eq_forIn_range']
  have er : List.range' ([:fmt.length] : Std.Legacy.Range).start ([:fmt.length] : Std.Legacy.Range).size ([:fmt.length] : Std.Legacy.Range).step = List.range' 0 fmt.length := by
    simp [Std.Legacy.Range.size]
  rw [er]
  refine wpAny_mono (h _ ⟨?_, ?_, ?_, ?_⟩) ?_ (fun _ _ x => x)
  · intro k p W hW
    refine (if_neg (show ¬ (tooLong W.total = true) by rw [hW]; decide)).trans ?_
    exact (if_pos rfl).trans rfl
  · intro k p W r x r' hW hr hs hx
    have h1 : r.isEmpty = false := by simpa using hr
    have h2 : x.isEmpty = false := by simpa using hx
    refine (if_neg (show ¬ (tooLong W.total = true) by rw [hW]; decide)).trans ?_
    refine (if_neg (show ¬ (r.isEmpty = true) by rw [h1]; decide)).trans ?_
    rw [hs]
    exact (if_pos (show (!x.isEmpty) = true by rw [h2]; rfl)).trans rfl
  · intro k i ti p W r' s' Q' hW hi hQ
    refine w_neg (show ¬ (tooLong W.total = true) by rw [hW]; decide) ?_
    refine w_neg (show ¬ ((37 :: 100 :: r').isEmpty = true) by simp) ?_
    rw [show List.span (fun x => x != 37) (37 :: 100 :: r') = ([], 37 :: 100 :: r') from rfl]
    refine w_neg (show ¬ ((!([] : List Nat).isEmpty) = true) by decide) ?_
    refine w_neg (show ¬ ((some 100 == some 37) = true) by decide) ?_
    refine w_neg (show ¬ ((some 100 == some 40) = true) by decide) ?_
    dsimp -zeta -proj only
    rw [show List.span (fun c => c == 45 || c == 43 || c == 32 || c == 35 || c == 48) (List.drop 1 (37 :: 100 :: r')) = ([], 100 :: r') from rfl]
    refine w_neg (show ¬ ((some 100 == some 42) = true) by decide) ?_
    refine w_neg (show ¬ ((some 100).any isAsciiDigit = true) by decide) ?_
    refine w_neg (show ¬ ((some 100 == some 46) = true) by decide) ?_
    refine w_neg (show ¬ ((some 100).any (fun c => c == 104 || c == 108 || c == 76) = true) by decide) ?_
    refine w_neg (show ¬ (tooLong 0 = true) by decide) ?_
    refine wpAny_bind (wpAny_holding ?_)
    refine w_neg (show ¬ ((100 == 115 || 100 == 114 || 100 == 97) = true) by decide) ?_
    refine w_pos (show ((100 == 100 || 100 == 105 || 100 == 117 || 100 == 111 || 100 == 120 || 100 == 88) = true) by decide) ?_
    refine wpAny_bind (wpAny_mono (Q := fun r s₁ => r = (i : Int) ∧ s₁ = s') (E := E) ?_ ?_ (fun _ _ x => x))
    · unfold percentIntOf
      refine wpAny_bind (wpAny_pure ?_)
      exact wpAny_pure ⟨rfl, rfl⟩
    rintro _ _ ⟨rfl, rfl⟩
    refine w_neg (show ¬ ((none : Option Nat).any (fun x => decide (x > 2 ^ 31 - 4)) = true) by decide) ?_
    refine w_neg (show ¬ (tooLong 0 = true) by decide) ?_
    refine w_neg (show ¬ ((100 == 111) = true) by decide) ?_
    refine w_neg (show ¬ ((100 == 120 || 100 == 88) = true) by decide) ?_
    refine wpAny_bind (wpAny_mkInt ?_)
    have hab : ((i : Int).natAbs : Int) = i := by simp
    rw [hab]
    refine wpAny_bind ?_
    refine call_gives F.slot_int_repr (typeIs_int _ _ _) F.entry_int_repr (F.args_int_repr_1 _) (gives_int_repr (i : Int) _ (log_small' hi)) ?_
    refine ⟨int_text_fits (log_small' hi), ?_⟩
    refine wpAny_bind (wpAny_pure ?_)
    refine wpAny_bind (wpAny_pure ?_)
    refine wpAny_pure ?_
    have hneg : decide ((i : Int) < 0) = false := by simp
    have hpi : ∀ ds, percentInt { ljust := ([] : List Nat).contains 45, sign := ([] : List Nat).contains 43, blank := ([] : List Nat).contains 32, alt := ([] : List Nat).contains 35, zero := ([] : List Nat).contains 48, type := 100 } false ds = ds := by
      intro ds
      simp [percentInt]
    have hpf : ∀ ds, percentField { ljust := ([] : List Nat).contains 45, sign := ([] : List Nat).contains 43, blank := ([] : List Nat).contains 32, alt := ([] : List Nat).contains 35, zero := ([] : List Nat).contains 48, type := 100 } true ds = none := by
      intro ds
      simp [percentField]
    dsimp only
    rw [hneg, hpi, hpf]
    dsimp only
    rw [ite_self]
    exact wpAny_pure (hQ _)
  · intro k y ti p W c r' s' Q' hW hy hQ
    refine w_neg (show ¬ (tooLong W.total = true) by rw [hW]; decide) ?_
    refine w_neg (show ¬ ((37 :: 114 :: c :: r').isEmpty = true) by simp) ?_
    rw [show List.span (fun x => x != 37) (37 :: 114 :: c :: r') = ([], 37 :: 114 :: c :: r') from rfl]
    refine w_neg (show ¬ ((!([] : List Nat).isEmpty) = true) by decide) ?_
    refine w_neg (show ¬ ((some 114 == some 37) = true) by decide) ?_
    refine w_neg (show ¬ ((some 114 == some 40) = true) by decide) ?_
    dsimp -zeta -proj only
    rw [show List.span (fun c => c == 45 || c == 43 || c == 32 || c == 35 || c == 48) (List.drop 1 (37 :: 114 :: c :: r')) = ([], 114 :: c :: r') from rfl]
    refine w_neg (show ¬ ((some 114 == some 42) = true) by decide) ?_
    refine w_neg (show ¬ ((some 114).any isAsciiDigit = true) by decide) ?_
    refine w_neg (show ¬ ((some 114 == some 46) = true) by decide) ?_
    refine w_neg (show ¬ ((some 114).any (fun c => c == 104 || c == 108 || c == 76) = true) by decide) ?_
    refine w_neg (show ¬ (tooLong 0 = true) by decide) ?_
    refine wpAny_bind (wpAny_holding ?_)
    refine w_pos (show ((114 == 115 || 114 == 114 || 114 == 97) = true) by decide) ?_
    refine w_neg (show ¬ ((114 == 115) = true) by decide) ?_
    refine w_pos (show ((114 == 114) = true) by decide) ?_
    refine wpAny_bind (reprUnder_str ?_ (by rw [sizeLine_eq]; omega))
    refine wpAny_bind (wpAny_pure ?_)
    refine wpAny_pure ?_
    have hpf : ∀ ds, percentField { ljust := ([] : List Nat).contains 45, sign := ([] : List Nat).contains 43, blank := ([] : List Nat).contains 32, alt := ([] : List Nat).contains 35, zero := ([] : List Nat).contains 48, type := 114 } false ds = none := by
      intro ds
      simp [percentField]
    dsimp only
    rw [hpf]
    dsimp only
    exact wpAny_pure (hQ _)
  · rintro ⟨p, W, r⟩ s₁ ⟨hp, hf⟩
    refine w_neg ?_ hf
    simp [show p = [] from hp]
end
end Mine
end

section
open PySem PySem.W PyProof.Rows PySem.Calls
open PySem.Builtin PySem.Builtin.Str
set_option maxRecDepth 100000
namespace Mine

/-- what a writer holds -/
structure WI (W : Writer) (l : List Nat) : Prop where
  text : W.text.cps.toList = l
  total : W.total = l.length
  whole : W.whole = none
  some : W.pieces.isEmpty = false
theorem foldl_pieces (ps : List Str) : ∀ acc : Array Nat, (ps.foldl (fun acc p => acc ++ p.cps) acc).toList = acc.toList ++ ps.flatMap (·.cps.toList) := by
  induction ps with
  | nil => intro acc; simp
  | cons p ps ih => intro acc; simp [ih]
theorem WI.start {x : List Nat} (h : x ≠ []) : WI (({} : Writer).add ⟨x.toArray⟩ none) x := by
  have hl : ((⟨x.toArray⟩ : Str).length == 0) = false := by
    show (x.toArray.size == 0) = false
    simp [h]
  unfold Writer.add
  rw [hl]
  refine ⟨?_, ?_, rfl, rfl⟩
  · simp [Writer.text]
  · show 0 + x.toArray.size = x.length
    simp
theorem WI.add {W : Writer} {l x : List Nat} {o : Option Value} (h : WI W l) : WI (W.add ⟨x.toArray⟩ o) (l ++ x) := by
  unfold Writer.add
  by_cases hx : x = []
  · subst hx
    rw [if_pos (by decide)]; simpa using h
  · have hl : ((⟨x.toArray⟩ : Str).length == 0) = false := by
      show (x.toArray.size == 0) = false
      simp [hx]
    rw [hl]
    obtain ⟨h1, h2, h3, h4⟩ := h
    refine ⟨?_, ?_, ?_, rfl⟩
    · unfold Writer.text at h1 ⊢
      rw [if_neg (by decide)]
      simp only [List.reverse_cons, List.foldl_append, List.foldl_cons, List.foldl_nil]
      rw [Array.toList_append, h1]
    · show W.total + x.toArray.size = _
      simp [h2]
    · show (if W.pieces.isEmpty = true then o else none) = none
      rw [h4]; rfl

section
variable {prog : Program} {w : World} {A : Around} {E : Value → Shared → Prop} {s : Shared} {G : Glb} {hin : Heap} {outer : List Env} {L a : Addr} {h₀ h h' : Heap} {m : Str → Option Value} {news : List (Addr × Obj)} {name : Str} {scope : Scope} {cd : Value}

theorem WI.finish {W : Writer} {l : List Nat} {id : String} {Q : Fin → Shared → Prop} (h : WI W l) (hl : l.length ≤ 100000) (hQ : ∀ t k, Q (.done (.ret (.str ⟨l.toArray⟩ t))) { s with toks := k }) :
    wpAny (model prog w) A (W.finish id) Q E s := by
  obtain ⟨h1, h2, h3, h4⟩ := h
  have ht : W.text = ⟨l.toArray⟩ := by rw [← h1]
  have htl : tooLong W.total = false := by
    unfold tooLong
    rw [h2, sizeLine_eq]; simp; omega
  unfold Writer.finish
  rw [h3]
  dsimp only
  rw [htl]
  rw [if_neg (by decide)]
  unfold retStr
  rw [ht]
  have hsz : (⟨l.toArray⟩ : Str).length ≤ sizeLine := by
    show l.toArray.size ≤ sizeLine
    rw [sizeLine_eq]; simp; omega
  exact wpAny_bind (wpAny_mkStr (wpAny_pure (hQ _ _)) hsz)

noncomputable abbrev fText : Str := ⟨#[116, 101, 120, 116, 32, 40, 97, 116, 32, 108, 105, 110, 101, 32, 37, 100, 44, 32, 99, 111, 108, 117, 109, 110, 32, 37, 100, 41]⟩
noncomputable abbrev fFault : Str := ⟨#[70, 111, 117, 110, 100, 32, 105, 110, 118, 97, 108, 105, 100, 32, 99, 104, 97, 114, 97, 99, 116, 101, 114, 32, 37, 114, 32, 40, 97, 116, 32, 108, 105, 110, 101, 32, 37, 100, 44, 32, 99, 111, 108, 117, 109, 110, 32, 37, 100, 41]⟩
theorem fText_eq : ("text (at line %d, column %d)" : Str) = fText := by decide +kernel
theorem fFault_eq : ("Found invalid character %r (at line %d, column %d)" : Str) = fFault := by decide +kernel
noncomputable abbrev pText (line col : Nat) : List Nat := ((([116, 101, 120, 116, 32, 40, 97, 116, 32, 108, 105, 110, 101, 32] ++ digs line) ++ [44, 32, 99, 111, 108, 117, 109, 110, 32]) ++ digs col) ++ [41]
noncomputable abbrev pFault (r : List Nat) (line col : Nat) : List Nat := ((((([70, 111, 117, 110, 100, 32, 105, 110, 118, 97, 108, 105, 100, 32, 99, 104, 97, 114, 97, 99, 116, 101, 114, 32] ++ r) ++ [32, 40, 97, 116, 32, 108, 105, 110, 101, 32]) ++ digs line) ++ [44, 32, 99, 111, 108, 117, 109, 110, 32]) ++ digs col) ++ [41]

theorem digs_len {l : Nat} (h : l ≤ 10000000) : (digs l).length ≤ 9 := by
  have h1 : (l : Int).natAbs < 100000000 := by omega
  have : (Str.ofString (toString (l : Int))).length ≤ 9 := by
    exact PyProof.Rows.toString_length_le (by omega) (k := 9) (by decide) (by omega)
  unfold digs; rw [Array.length_toList]; exact this
theorem WI.tl {W : Writer} {l : List Nat} (h : WI W l) (hl : l.length ≤ 100000) : tooLong W.total = false := by
  unfold tooLong
  rw [h.total, sizeLine_eq]; simp; omega

theorem PctB.lit' {fl : Nat} {fo : Value} {B : Nat → List Value × Writer × List Nat → Sem (ForInStep (List Value × Writer × List Nat))} (hB : PctB prog w A E fl fo B) (k : Nat) (p : List Value) (W : Writer) (r x r' : List Nat) (hW : tooLong W.total = false) (hr : r ≠ []) (hs : r.span (· != 37) = (x, r')) (hx : x ≠ []) (hne : (x.length == fl) = false) :
    B k (p, W, r) = pure (.yield (p, W.add ⟨x.toArray⟩ none, r')) := by
  rw [hB.lit k p W r x r' hW hr hs hx, hne]; rfl

theorem pct_text_entry {a : Addr} {t t1 t2 : Tok} {line col : Nat} {Q : Fin → Shared → Prop} (hl : line ≤ 10000000) (hc : col ≤ 10000000) (hT : IsTup s.heap a #[.int line t1, .int col t2])
    (hQ : ∀ t k, Q (.done (.ret (.str ⟨(pText line col).toArray⟩ t))) { s with toks := k }) :
    wpAny (model prog w) A (Builtin.«str.__mod__» ⟨[.str fText t, .ref a], []⟩) Q E s := by
  obtain ⟨o, ho, hcl, n, hd⟩ := hT
  have d1 := digs_len hl
  have d2 := digs_len hc
  refine pctB ho hcl hd fun B hB => ?_
  have i1 := WI.start (x := [116, 101, 120, 116, 32, 40, 97, 116, 32, 108, 105, 110, 101, 32]) (by decide)
  have i2 := i1.add (x := digs line) (o := none)
  have i3 := i2.add (x := [44, 32, 99, 111, 108, 117, 109, 110, 32]) (o := none)
  have i4 := i3.add (x := digs col) (o := none)
  have i5 := i4.add (x := [41]) (o := none)
  have t0 : tooLong ({} : Writer).total = false := by decide
  show wpAny _ _ (forIn (List.range' 0 (27 + 1)) _ B) _ _ _
  refine forIn_turn ?_
  rw [hB.lit' 0 _ _ _ [116, 101, 120, 116, 32, 40, 97, 116, 32, 108, 105, 110, 101, 32] [37, 100, 44, 32, 99, 111, 108, 117, 109, 110, 32, 37, 100, 41] t0 (by decide) (by decide) (by decide) (by decide)]
  refine wpAny_pure ?_
  dsimp only
  show wpAny _ _ (forIn (List.range' 1 (26 + 1)) _ B) _ _ _
  refine forIn_turn (hB.dec _ _ _ _ _ _ _ _ (i1.tl (by decide)) hl fun tk => ?_)
  dsimp only
  show wpAny _ _ (forIn (List.range' 2 (25 + 1)) _ B) _ _ _
  refine forIn_turn ?_
  rw [hB.lit' 2 _ _ _ [44, 32, 99, 111, 108, 117, 109, 110, 32] [37, 100, 41] (i2.tl (by simp only [List.length_append, List.length_cons, List.length_nil]; omega)) (by decide) (by decide) (by decide) (by decide)]
  refine wpAny_pure ?_
  dsimp only
  show wpAny _ _ (forIn (List.range' 3 (24 + 1)) _ B) _ _ _
  refine forIn_turn (hB.dec _ _ _ _ _ _ _ _ (i3.tl (by simp only [List.length_append, List.length_cons, List.length_nil]; omega)) hc fun tk => ?_)
  dsimp only
  show wpAny _ _ (forIn (List.range' 4 (23 + 1)) _ B) _ _ _
  refine forIn_turn ?_
  rw [hB.lit' 4 _ _ _ [41] [] (i4.tl (by simp only [List.length_append, List.length_cons, List.length_nil]; omega)) (by decide) (by decide) (by decide) (by decide)]
  refine wpAny_pure ?_
  dsimp only
  show wpAny _ _ (forIn (List.range' 5 (22 + 1)) _ B) _ _ _
  refine forIn_turn ?_
  rw [hB.stop 5 _ _ (i5.tl (by simp only [List.length_append, List.length_cons, List.length_nil]; omega))]
  refine wpAny_pure ?_
  dsimp only
  exact ⟨rfl, i5.finish (by simp only [List.length_append, List.length_cons, List.length_nil]; omega) hQ⟩

theorem pct_fault_entry {a : Addr} {y : Str} {t t0 t1 t2 : Tok} {line col : Nat} {Q : Fin → Shared → Prop} (hl : line ≤ 10000000) (hc : col ≤ 10000000) (hy : (reprText y).length ≤ 1000) (hT : IsTup s.heap a #[.str y t0, .int line t1, .int col t2])
    (hQ : ∀ t k, Q (.done (.ret (.str ⟨(pFault (reprText y).cps.toList line col).toArray⟩ t))) { s with toks := k }) :
    wpAny (model prog w) A (Builtin.«str.__mod__» ⟨[.str fFault t, .ref a], []⟩) Q E s := by
  obtain ⟨o, ho, hcl, n, hd⟩ := hT
  have d1 := digs_len hl
  have d2 := digs_len hc
  have d3 : (reprText y).cps.toList.length ≤ 1000 := by rw [Array.length_toList]; exact hy
  refine pctB ho hcl hd fun B hB => ?_
  have i1 := WI.start (x := [70, 111, 117, 110, 100, 32, 105, 110, 118, 97, 108, 105, 100, 32, 99, 104, 97, 114, 97, 99, 116, 101, 114, 32]) (by decide)
  have i2 := i1.add (x := (reprText y).cps.toList) (o := none)
  have i3 := i2.add (x := [32, 40, 97, 116, 32, 108, 105, 110, 101, 32]) (o := none)
  have i4 := i3.add (x := digs line) (o := none)
  have i5 := i4.add (x := [44, 32, 99, 111, 108, 117, 109, 110, 32]) (o := none)
  have i6 := i5.add (x := digs col) (o := none)
  have i7 := i6.add (x := [41]) (o := none)
  have t0 : tooLong ({} : Writer).total = false := by decide
  show wpAny _ _ (forIn (List.range' 0 (49 + 1)) _ B) _ _ _
  refine forIn_turn ?_
  rw [hB.lit' 0 _ _ _ [70, 111, 117, 110, 100, 32, 105, 110, 118, 97, 108, 105, 100, 32, 99, 104, 97, 114, 97, 99, 116, 101, 114, 32] [37, 114, 32, 40, 97, 116, 32, 108, 105, 110, 101, 32, 37, 100, 44, 32, 99, 111, 108, 117, 109, 110, 32, 37, 100, 41] t0 (by decide) (by decide) (by decide) (by decide)]
  refine wpAny_pure ?_
  dsimp only
  show wpAny _ _ (forIn (List.range' 1 (48 + 1)) _ B) _ _ _
  refine forIn_turn (hB.rep _ _ _ _ _ _ _ _ _ (i1.tl (by decide)) hy fun tk => ?_)
  dsimp only
  show wpAny _ _ (forIn (List.range' 2 (47 + 1)) _ B) _ _ _
  refine forIn_turn ?_
  rw [hB.lit' 2 _ _ _ [32, 40, 97, 116, 32, 108, 105, 110, 101, 32] [37, 100, 44, 32, 99, 111, 108, 117, 109, 110, 32, 37, 100, 41] (i2.tl (by simp only [List.length_append, List.length_cons, List.length_nil]; omega)) (by decide) (by decide) (by decide) (by decide)]
  refine wpAny_pure ?_
  dsimp only
  show wpAny _ _ (forIn (List.range' 3 (46 + 1)) _ B) _ _ _
  refine forIn_turn (hB.dec _ _ _ _ _ _ _ _ (i3.tl (by simp only [List.length_append, List.length_cons, List.length_nil]; omega)) hl fun tk => ?_)
  dsimp only
  show wpAny _ _ (forIn (List.range' 4 (45 + 1)) _ B) _ _ _
  refine forIn_turn ?_
  rw [hB.lit' 4 _ _ _ [44, 32, 99, 111, 108, 117, 109, 110, 32] [37, 100, 41] (i4.tl (by simp only [List.length_append, List.length_cons, List.length_nil]; omega)) (by decide) (by decide) (by decide) (by decide)]
  refine wpAny_pure ?_
  dsimp only
  show wpAny _ _ (forIn (List.range' 5 (44 + 1)) _ B) _ _ _
  refine forIn_turn (hB.dec _ _ _ _ _ _ _ _ (i5.tl (by simp only [List.length_append, List.length_cons, List.length_nil]; omega)) hc fun tk => ?_)
  dsimp only
  show wpAny _ _ (forIn (List.range' 6 (43 + 1)) _ B) _ _ _
  refine forIn_turn ?_
  rw [hB.lit' 6 _ _ _ [41] [] (i6.tl (by simp only [List.length_append, List.length_cons, List.length_nil]; omega)) (by decide) (by decide) (by decide) (by decide)]
  refine wpAny_pure ?_
  dsimp only
  show wpAny _ _ (forIn (List.range' 7 (42 + 1)) _ B) _ _ _
  refine forIn_turn ?_
  rw [hB.stop 7 _ _ (i7.tl (by simp only [List.length_append, List.length_cons, List.length_nil]; omega))]
  refine wpAny_pure ?_
  dsimp only
  exact ⟨rfl, i7.finish (by simp only [List.length_append, List.length_cons, List.length_nil]; omega) hQ⟩

theorem mod_road {fmt : Str} {t : Tok} {a : Addr} {items : Array Value} {T : Str} {Q : Value → Shared → Prop} (hT : IsTup s.heap a items)
    (hm : ∀ (A : Around) (E : Value → Shared → Prop) (Q : Fin → Shared → Prop), (∀ t k, Q (.done (.ret (.str T t))) { s with toks := k }) → wpAny (model prog w) A (Builtin.«str.__mod__» ⟨[.str fmt t, .ref a], []⟩) Q E s)
    (hQ : ∀ t k, Q (.str T t) { s with toks := k }) : wpAny (model prog w) A (binaryOp .Mod (.str fmt t) (.ref a)) Q E s := by
  obtain ⟨o, ho, hc, n, hd⟩ := hT
  refine KPt.bin_left (T := "str") (U := "tuple") (op := .Mod) (by decide) (typeIs_str s fmt t) ⟨o, ho, hc⟩ F.fills_str_mod KPt.fills_tuple F.slot_str_mod ?_
  refine wpAny_call (codeAny_call_builtin F.slot_str_mod.plain F.entry_str_mod (F.slot_str_mod.check _ _ _ _ _ _ _ _ (typeIs_str _ _ _) (F.args_str_mod_2 _ _) ?_))
  refine hm _ _ _ fun t k => ?_
  exact ⟨(fun e => nomatch e), hQ t k⟩

theorem pct_text {a : Addr} {t t1 t2 : Tok} {line col : Nat} {Q : Value → Shared → Prop} (hl : line ≤ 10000000) (hc : col ≤ 10000000) (hT : IsTup s.heap a #[.int line t1, .int col t2])
    (hQ : ∀ t k, Q (.str ⟨(pText line col).toArray⟩ t) { s with toks := k }) : wpAny (model prog w) A (binaryOp .Mod (.str fText t) (.ref a)) Q E s :=
  mod_road hT (fun _ _ _ h => pct_text_entry hl hc hT h) hQ
theorem pct_fault {a : Addr} {y : Str} {t t0 t1 t2 : Tok} {line col : Nat} {Q : Value → Shared → Prop} (hl : line ≤ 10000000) (hc : col ≤ 10000000) (hy : (reprText y).length ≤ 1000) (hT : IsTup s.heap a #[.str y t0, .int line t1, .int col t2])
    (hQ : ∀ t k, Q (.str ⟨(pFault (reprText y).cps.toList line col).toArray⟩ t) { s with toks := k }) : wpAny (model prog w) A (binaryOp .Mod (.str fFault t) (.ref a)) Q E s :=
  mod_road hT (fun _ _ _ h => pct_fault_entry hl hc hy hT h) hQ
end
end Mine
end

section
open PySem PySem.W PyProof.Rows PySem.Calls
open PySem.Builtin PySem.Builtin.Str
set_option maxRecDepth 100000
namespace Mine

section
variable {prog : Program} {w : World} {A : Around} {E : Value → Shared → Prop} {s : Shared} {G : Glb} {hin : Heap} {outer : List Env} {L a : Addr} {h₀ h h' : Heap} {m m' : Str → Option Value} {news : List (Addr × Obj)} {name : Str} {scope : Scope} {cd : Value}

theorem St.adoptN {o : Obj} (S : St G hin outer L h₀ h m news) (k : ∀ b o, h.get? b = some o → h'.get? b = some o) (ha : h.get? a = none) (e : h'.get? a = some o) : St G hin outer L h₀ h' m ((a, o) :: news) :=
  let S' := S.grow k
  { S' with
    N := fun p hp => by
      rcases List.mem_cons.mp hp with rfl | hp
      · refine ⟨e, fun q => ?_, ?_, fun q => ?_, fun q => ?_⟩
        · have q : a = L := q
          obtain ⟨oL, es, ep, eL, _⟩ := S.ns
          rw [q, eL] at ha; cases ha
        · cases q : h₀.get? a with
          | none => rfl
          | some o' => have := S.keep _ _ q; rw [ha] at this; cases this
        · obtain ⟨_, x, ex, _⟩ := S.ff.mem q
          have ex : h.get? a = some x := ex
          rw [ha] at ex; cases ex
        · have q : a = G.P := q
          obtain ⟨ps, eP, _⟩ := S.tab
          rw [q, eP] at ha; cases ha
      · exact S'.N p hp
    nd := List.nodup_cons.mpr ⟨fun q => (by
      obtain ⟨p, hp, e⟩ := List.mem_map.mp q
      have := (S.N p hp).1
      rw [e, ha] at this; cases this), S.nd⟩ }

/-- a store into the frame, other things may be made beside -/
theorem St.setW (S : St G hin outer L h₀ h m news) (hn : h'.Ns L m') (hs : ∀ b o, b ≠ L → h.get? b = some o → h'.get? b = some o) : St G hin outer L h₀ h' m' news where
  ns := hn
  nL := S.nL
  keep := fun b o e => hs b o (fun q => by rw [q, S.nL] at e; cases e) (S.keep b o e)
  inn := S.inn
  fro := fun b o e hb => let ⟨sl, e'⟩ := S.fro b o e hb; ⟨sl, hs b _ (S.nfr b hb).2.1 e'⟩
  nfr := S.nfr
  ff := by
    have key : ∀ l : List Env, (∀ b ∈ frs l, b ≠ L) → h.FunFrames G.base l → h'.FunFrames G.base l := by
      intro l
      induction l with
      | nil => intro _ _; trivial
      | cons env rest ih =>
        intro hne hl
        obtain ⟨hk, ⟨A, o, hf, hn, ho, hd⟩, hr⟩ := hl
        refine ⟨hk, ⟨A, o, hf, hn, hs A _ (hne A ?_) ho, hd⟩, ih (fun b hb => hne b ?_) hr⟩
        · simp [frs, hf]
        · unfold frs at hb ⊢
          rw [List.filterMap_cons, hf]
          exact .tail _ hb
    exact key outer (fun b hb => (S.nfr b hb).2.1) S.ff
  bs := S.bs
  nP := S.nP
  LP := S.LP
  tab := by
    obtain ⟨oL, es, ep, eL, dL, _⟩ := S.ns
    refine S.tab.code fun b o vs e hd => hs b o ?_ e
    rintro rfl
    rw [eL] at e; cases e; rw [dL] at hd; cases hd
  N := fun p hp => ⟨hs p.1 _ (S.N p hp).2.1 (S.N p hp).1, (S.N p hp).2⟩
  sz := S.sz
  nd := S.nd

theorem paired_filter {α β : Type} {F : α → β → Prop} {l : List α} {ys : List β} (h : Paired F (l.filter fun _ => true) ys) : Paired F l ys := by
  have e : l.filter (fun _ => true) = l := List.filter_eq_self.mpr fun _ _ => rfl
  rwa [e] at h
theorem items_eq {items : Array Value} {vs : List Value} (hl : vs.length = items.size) (h : ∀ (j : Nat) v, vs[j]? = some v → items[j]? = some v) : vs = items.toList := by
  refine List.ext_getElem? fun j => ?_
  cases q : vs[j]? with
  | some v => rw [Array.getElem?_toList, h j v q]
  | none =>
    have : vs.length ≤ j := by simpa using q
    symm
    simp; omega

/-- a list comprehension over a list -/
theorem comp_St {env : Env} {elt iter : Expr} {x : Str} {px pos : Pos} {sc : Scope} {cl : List (Str × Addr)} {Q : Value → Shared → Prop} (F : Value → Value → Prop) (hh : A.handled = none)
    (h : wpAny (model prog w) A (eval iter env) (fun xv s₁ => ∃ l items m news, xv = .ref l ∧ s₁.heap.IsList l items ∧ items.size ≤ 100000 ∧ St G hin outer L h₀ s₁.heap m news ∧
      (∀ C v (i : Nat) s₃ m₃ E', items[i]? = some v → s₃.heap.Ns C m₃ → m₃ x = some v → (∀ b o, s₁.heap.get? b = some o → s₃.heap.get? b = some o) → wpAny (model prog w) A (eval elt (compEnvC sc cl C env)) (fun y s₄ => F v y ∧ Keeps s₃ s₄) E' s₃) ∧
      (∀ D n h' tk (ys : List Value), Paired F items.toList ys → (∀ b o, s₁.heap.get? b = some o → h'.get? b = some o) → St G hin outer L h₀ h' m ((D, lst n ys) :: news) → Q (.ref D) { s₁ with heap := h', toks := tk })) E s)
    (hclos : closureFor sc env = pure cl := by rfl) (hcell : ∀ y ∈ sc.names, y.2 ≠ .cell := by decide) (hkind : sc.kind = .function := by rfl)
    (hnames : ∀ y ∈ sc.names, y.2 = .local → sc.names.lookup y.1 = some .local := by decide +kernel) (hx : sc.names.lookup x = some .local := by decide +kernel)
    (hs : ∀ x, foldedSetIterable iter env x = pure x := by intro _; rfl) :
    wpAny (model prog w) A (eval (.ListComp elt [⟨.Name x px, iter, [], 0⟩] sc pos) env) Q E s := by
  refine wpAny_ListComp_free (fun _ => true) F hclos hcell hkind hnames hx (wpAny_mono h (fun xv s₁ h₁ => ?_) fun _ _ e => e) hs
  obtain ⟨l, items, m, news, rfl, hl, hsz, S, he, hQ⟩ := h₁
  have hlt : l < s₁.heap.objs.size := by obtain ⟨_, e, _⟩ := hl; exact Heap.lt_size e
  refine wpAny_pyIter_list hl ?_
  have up : ∀ b o, s₁.heap.get? b = some o → (s₁.heap.push { cls := .type "list_iterator", data := .fields #[.ref l, .int 0 0] }).get? b = some o := fun b o e => Heap.get?_push_of_some _ e
  have hb : ∀ b o, s₁.heap.get? b = some o → b ∉ [s₁.heap.objs.size] := fun b o e q => by rw [List.mem_singleton.mp q] at e; exact absurd (Heap.lt_size e) (Nat.lt_irrefl _)
  refine ⟨_, _, _, _, _, _, rfl, Walks.list hh s₁.heap.objs.size l (Nat.ne_of_lt hlt) items, by rw [sizeLine_eq]; omega, ⟨⟨_, Heap.get?_push_size _ rfl, rfl, rfl⟩, hl.push _⟩, ?_, ⟨?_, ?_⟩, ?_⟩
  · intro b hb
    show b < (s₁.heap.push _).objs.size
    rw [Heap.size_push]
    rcases List.mem_cons.mp hb with rfl | hb
    · exact Nat.lt_succ_self _
    · rw [List.mem_singleton.mp hb]; exact Nat.lt_succ_of_lt hlt
  · intro C i v s₃ m₃ E' _ _ _ _ _ _
    exact wpAny_pure ⟨rfl, _, _, rfl, fun _ _ e => e⟩
  · intro C i v s₃ m₃ E' _ hP _ hn hm hk _
    exact he C v i s₃ m₃ E' hP hn hm fun b o e => hk b o (hb b o e) (up b o e)
  · intro D h' tk ys vs hD _ hpl hlen hP hF hk
    obtain ⟨n, hpl⟩ := hpl
    have hvs := items_eq hlen hP
    subst hvs
    have hD' : s₁.heap.get? D = none := by
      cases q : s₁.heap.get? D with
      | none => rfl
      | some o => rw [up _ _ q] at hD; cases hD
    have k : ∀ b o, s₁.heap.get? b = some o → h'.get? b = some o := fun b o e => hk b o (hb b o e) (up b o e)
    refine hQ D n h' tk ys.toList (paired_filter hF) k (S.adoptN k hD' ?_)
    rw [hpl]

/-- y = [.. for x in ..] -/
theorem compA_St {elt iter : Expr} {x y : Str} {px py pos spos : Pos} {sc : Scope} {cl : List (Str × Addr)} {Q : Flow → Shared → Prop} (F : Value → Value → Prop) (hh : A.handled = none)
    (h : wpAny (model prog w) A (eval iter (envOf name scope L a cd)) (fun xv s₁ => ∃ l items m news, xv = .ref l ∧ s₁.heap.IsList l items ∧ items.size ≤ 100000 ∧ St G hin outer L h₀ s₁.heap m news ∧
      (∀ C v (i : Nat) s₃ m₃ E', items[i]? = some v → s₃.heap.Ns C m₃ → m₃ x = some v → (∀ b o, s₁.heap.get? b = some o → s₃.heap.get? b = some o) → wpAny (model prog w) A (eval elt (compEnvC sc cl C (envOf name scope L a cd))) (fun y s₄ => F v y ∧ Keeps s₃ s₄) E' s₃) ∧
      (∀ D n h' tk (ys : List Value), Paired F items.toList ys → St G hin outer L h₀ h' (upd m y (.ref D)) ((D, lst n ys) :: news) → Q .next { s₁ with heap := h', toks := tk })) E s)
    (hsw : swapsWith (.ListComp elt [⟨.Name x px, iter, [], 0⟩] sc pos) (some (.Name y py)) spos.line (envOf name scope L a cd) = pure true := by rfl)
    (hclos : closureFor sc (envOf name scope L a cd) = pure cl := by rfl) (hcell : ∀ y ∈ sc.names, y.2 ≠ .cell := by decide) (hkind : sc.kind = .function := by rfl)
    (hnames : ∀ y ∈ sc.names, y.2 = .local → sc.names.lookup y.1 = some .local := by decide +kernel) (hx : sc.names.lookup x = some .local := by decide +kernel)
    (hk : scope.kind = .function := by rfl) (hy : (envOf name scope L a cd).kindOf y = some .local := by rfl)
    (hs : ∀ x, foldedSetIterable iter (envOf name scope L a cd) x = pure x := by intro _; rfl) :
    wpAny (model prog w) A (exec (.Assign [.Name y py] (.ListComp elt [⟨.Name x px, iter, [], 0⟩] sc pos) spos) (envOf name scope L a cd)) Q E s := by
  refine wpAny_Assign_ListComp_free (fun _ => true) F hsw hclos hcell hkind hnames hx hy (by show (scope.kind == .class || (scope.kind == .module && L != mainGlobals)) = false; rw [hk]; rfl) (wpAny_mono h (fun xv s₁ h₁ => ?_) fun _ _ e => e) hs
  obtain ⟨l, items, m, news, rfl, hl, hsz, S, he, hQ⟩ := h₁
  have hlt : l < s₁.heap.objs.size := by obtain ⟨_, e, _⟩ := hl; exact Heap.lt_size e
  refine wpAny_pyIter_list hl ?_
  have up : ∀ b o, s₁.heap.get? b = some o → (s₁.heap.push { cls := .type "list_iterator", data := .fields #[.ref l, .int 0 0] }).get? b = some o := fun b o e => Heap.get?_push_of_some _ e
  have hb : ∀ b o, s₁.heap.get? b = some o → b ∉ [s₁.heap.objs.size] := fun b o e q => by rw [List.mem_singleton.mp q] at e; exact absurd (Heap.lt_size e) (Nat.lt_irrefl _)
  refine ⟨_, _, _, _, _, _, m, rfl, Walks.list hh s₁.heap.objs.size l (Nat.ne_of_lt hlt) items, by rw [sizeLine_eq]; omega, ⟨⟨_, Heap.get?_push_size _ rfl, rfl, rfl⟩, hl.push _⟩, ?_, ?_, S.ns.keeps up, ⟨?_, ?_⟩, ?_⟩
  · intro b hb
    show b < (s₁.heap.push _).objs.size
    rw [Heap.size_push]
    rcases List.mem_cons.mp hb with rfl | hb
    · exact Nat.lt_succ_self _
    · rw [List.mem_singleton.mp hb]; exact Nat.lt_succ_of_lt hlt
  · obtain ⟨oL, es, ep, eL, _⟩ := S.ns
    exact hb L _ eL
  · intro C i v s₃ m₃ E' _ _ _ _ _ _
    exact wpAny_pure ⟨rfl, _, _, rfl, fun _ _ e => e⟩
  · intro C i v s₃ m₃ E' _ hP _ hn hm hk _
    exact he C v i s₃ m₃ E' hP hn hm fun b o e => hk b o (hb b o e) (up b o e)
  · intro D h' tk ys vs hD _ hpl hlen hP hF hN hk
    obtain ⟨n, hpl⟩ := hpl
    have hvs := items_eq hlen hP
    subst hvs
    have hD' : s₁.heap.get? D = none := by
      cases q : s₁.heap.get? D with
      | none => rfl
      | some o => rw [up _ _ q] at hD; cases hD
    have k : ∀ b o, b ≠ L → s₁.heap.get? b = some o → h'.get? b = some o := fun b o hbL e => hk b o hbL (hb b o e) (up b o e)
    have S₁ : St G hin outer L h₀ h' (upd m y (.ref D)) news := S.setW hN k
    have S₂ := S₁.N
    refine hQ D n h' tk ys.toList (paired_filter hF) ?_
    refine { S₁ with N := fun p hp => ?_, nd := List.nodup_cons.mpr ⟨fun q => ?_, S₁.nd⟩ }
    · rcases List.mem_cons.mp hp with rfl | hp
      · refine ⟨by rw [hpl], fun q => ?_, ?_, fun q => ?_, fun q => ?_⟩
        · have q : D = L := q
          obtain ⟨oL, es, ep, eL, _⟩ := S.ns
          rw [q, eL] at hD'; cases hD'
        · cases q : h₀.get? D with
          | none => rfl
          | some o' => have := S.keep _ _ q; rw [hD'] at this; cases this
        · obtain ⟨_, x, ex, _⟩ := S.ff.mem q
          have ex : s₁.heap.get? D = some x := ex
          rw [hD'] at ex; cases ex
        · have q : D = G.P := q
          obtain ⟨ps, eP, _⟩ := S.tab
          rw [q, eP] at hD'; cases hD'
      · exact S₁.N p hp
    · obtain ⟨p, hp, e⟩ := List.mem_map.mp q
      have := (S.N p hp).1
      rw [e, hD'] at this; cases this

/-- any([..]) -/
theorem any_St {D : Addr} {vs : List Value} {bs : List Bool} {Q : Value → Shared → Prop} (hh : A.handled = none) (S : St G hin outer L h₀ s.heap m news) (hl : s.heap.IsList D vs.toArray) (hb : vs = bs.map .bool)
    (hQ : ∀ h' tk, (∀ b o, s.heap.get? b = some o → h'.get? b = some o) → St G hin outer L h₀ h' m news → Q (.bool (bs.any _root_.id)) { s with heap := h', toks := tk }) :
    wpAny (model prog w) A (call (.builtin "any") [.ref D]) Q E s := by
  have hlt : D < s.heap.objs.size := by obtain ⟨_, e, _⟩ := hl; exact Heap.lt_size e
  refine call_any_walk (wpAny_pyIter_list hl ?_)
  have up : ∀ b o, s.heap.get? b = some o → (s.heap.push { cls := .type "list_iterator", data := .fields #[.ref D, .int 0 0] }).get? b = some o := fun b o e => Heap.get?_push_of_some _ e
  have hbn : ∀ b o, s.heap.get? b = some o → b ∉ [s.heap.objs.size] := fun b o e q => by rw [List.mem_singleton.mp q] at e; exact absurd (Heap.lt_size e) (Nat.lt_irrefl _)
  refine ⟨_, _, _, _, _, _, fun i => bs.getD i false, rfl, Walks.list (A := A.in1) hh s.heap.objs.size D (Nat.ne_of_lt hlt) vs.toArray, ⟨⟨_, Heap.get?_push_size _ rfl, rfl, rfl⟩, hl.push _⟩, ?_, ?_⟩
  · intro i v s' Q' E' hv hq
    subst hb
    simp only [List.getElem?_toArray, List.getElem?_map] at hv
    cases q : bs[i]? with
    | none => rw [q] at hv; cases hv
    | some b =>
      rw [q] at hv
      cases hv
      refine wpAny_truthy_bool ?_
      have hq : Q' (bs.getD i false) s' := hq
      rw [List.getD_eq_getElem?_getD, q] at hq
      exact hq
  · intro h' tk hk
    have k : ∀ b o, s.heap.get? b = some o → h'.get? b = some o := fun b o e => hk b o (hbn b o e) (up b o e)
    have e : (List.range vs.toArray.size).any (fun i => bs.getD i false) = bs.any _root_.id := by
      subst hb
      rw [List.size_toArray, List.length_map]
      clear hl hQ hk k
      rw [Bool.eq_iff_iff]
      simp only [List.any_eq_true, List.mem_range, _root_.id]
      constructor
      · rintro ⟨i, hi, hx⟩
        rw [List.getD_eq_getElem?_getD, List.getElem?_eq_getElem hi] at hx
        exact ⟨_, List.getElem_mem hi, hx⟩
      · rintro ⟨x, hx, hxt⟩
        obtain ⟨i, hi, rfl⟩ := List.mem_iff_getElem.mp hx
        exact ⟨i, hi, by rw [List.getD_eq_getElem?_getD, List.getElem?_eq_getElem hi]; exact hxt⟩
    rw [e]
    exact hQ h' tk k (S.grow k)

theorem preSum_list (val : Nat → Int) (l : List Int) (h : ∀ i, i < l.length → val i = l.getD i 0) : ∀ n, n ≤ l.length → preSum val n = (l.take n).sum
  | 0, _ => by simp [preSum]
  | n + 1, hn => by
    rw [preSum, preSum_list val l h n (by omega), h n (by omega), List.take_add_one, List.getElem?_eq_getElem (by omega), List.sum_append, List.getD_eq_getElem?_getD, List.getElem?_eq_getElem (by omega)]
    simp
/-- sum([..]) -/
theorem sum_St {D : Addr} {vs : List Value} {ns : List Int} {Q : Value → Shared → Prop} (hh : A.handled = none) (S : St G hin outer L h₀ s.heap m news) (hl : s.heap.IsList D vs.toArray) (hv : IntsAre vs ns)
    (hQ : ∀ h' tk t, (∀ b o, s.heap.get? b = some o → h'.get? b = some o) → St G hin outer L h₀ h' m news → Q (.int ns.sum t) { s with heap := h', toks := tk }) :
    wpAny (model prog w) A (call (.builtin "sum") [.ref D]) Q E s := by
  have hlt : D < s.heap.objs.size := by obtain ⟨_, e, _⟩ := hl; exact Heap.lt_size e
  refine call_sum_walkAnyS (wpAny_pyIter_list hl ?_)
  have up : ∀ b o, s.heap.get? b = some o → (s.heap.push { cls := .type "list_iterator", data := .fields #[.ref D, .int 0 0] }).get? b = some o := fun b o e => Heap.get?_push_of_some _ e
  have hbn : ∀ b o, s.heap.get? b = some o → b ∉ [s.heap.objs.size] := fun b o e q => by rw [List.mem_singleton.mp q] at e; exact absurd (Heap.lt_size e) (Nat.lt_irrefl _)
  refine ⟨_, _, _, _, _, _, _, fun i => ns.getD i 0, rfl, (Walks.list (A := A.in1) hh s.heap.objs.size D (Nat.ne_of_lt hlt) vs.toArray).toS, ⟨⟨_, Heap.get?_push_size _ rfl, rfl, rfl⟩, hl.push _⟩, ?_, ?_, ?_⟩
  · intro b hb
    show b < (s.heap.push _).objs.size
    rw [Heap.size_push]
    rcases List.mem_cons.mp hb with rfl | hb
    · exact Nat.lt_succ_self _
    · rw [List.mem_singleton.mp hb]; exact Nat.lt_succ_of_lt hlt
  · intro i v hi
    have hi : vs[i]? = some v := by simpa using hi
    have hlt : i < ns.length := by
      have := (List.getElem?_eq_some_iff.mp hi).1
      rw [hv.length] at this; exact this
    obtain ⟨t, ht⟩ := hv.get i ns[i] (List.getElem?_eq_getElem hlt)
    rw [hi] at ht
    refine ⟨t, ?_⟩
    show v = .int (ns.getD i 0) t
    rw [List.getD_eq_getElem?_getD, List.getElem?_eq_getElem hlt]; exact Option.some.inj ht
  · intro s' t' hm
    have k : ∀ b o, s.heap.get? b = some o → s'.heap.get? b = some o := fun b o e => hm.heap b o (hbn b o e) (up b o e)
    have e : preSum (fun i => ns.getD i 0) vs.toArray.size = ns.sum := by
      rw [List.size_toArray, hv.length, preSum_list _ ns (fun _ _ => rfl) _ (Nat.le_refl _), List.take_length]
    rw [e]
    have es : s' = { s with heap := s'.heap, toks := s'.toks } := by
      obtain ⟨a, b, c, d, f⟩ := s'
      have g1 := hm.gens
      have g2 := hm.drawn
      have g3 := hm.os
      dsimp only at g1 g2 g3
      subst g1 g2 g3
      rfl
    rw [es]
    exact hQ _ _ _ k (S.grow k)
end
end Mine
end

section
open PySem PySem.W PyProof.Rows PySem.Calls
open PySem.Builtin PySem.Builtin.Str
set_option maxRecDepth 100000
namespace Mine

theorem slicePick_rev (items : Array Value) : slicePick items none none (some (-1)) = items.toList.reverse.toArray := by
  have e : sliceBounds none none (some (-1)) items.size = ((items.size : Int) - 1, -1, -1) := by simp [sliceBounds]
  have er : sliceRange ((items.size : Int) - 1) (-1) (-1) = (List.range items.size).map (fun k => items.size - 1 - k) := by
    unfold sliceRange
    simp only [show ¬ ((-1 : Int) > 0) by decide, if_false]
    have hc : (if (items.size : Int) - 1 > -1 then ((items.size : Int) - 1 - -1 - -1 - 1) / (- -1) else 0).toNat = items.size := by
      split
      · have : ((items.size : Int) - 1 - -1 - -1 - 1) / (- -1) = items.size := by
          rw [show (- -1 : Int) = 1 by decide, Int.ediv_one]; omega
        rw [this]; simp
      · have : items.size = 0 := by omega
        simp [this]
    rw [hc]
    apply List.map_congr_left
    intro k hk
    have := List.mem_range.mp hk
    omega
  unfold slicePick
  rw [e, er]
  congr 1
  refine List.ext_getElem? fun j => ?_
  rw [List.filterMap_map]
  have h1 : ∀ l : List Nat, (∀ k ∈ l, k < items.size) → (l.filterMap ((fun x => items[x]?) ∘ fun k => items.size - 1 - k)) = l.map fun k => items.getD (items.size - 1 - k) .none := by
    intro l
    induction l with
    | nil => intro _; rfl
    | cons x l ih =>
      intro hl
      have hx := hl x (.head _)
      have hlt : items.size - 1 - x < items.size := by omega
      rw [List.filterMap_cons]
      simp only [Function.comp, Array.getElem?_eq_getElem hlt]
      rw [List.map_cons, Array.getD_eq_getD_getElem?, Array.getElem?_eq_getElem hlt]
      congr 1
      exact ih fun k hk => hl k (.tail _ hk)
  rw [h1 _ fun k hk => List.mem_range.mp hk]
  by_cases hj : j < items.size
  · rw [List.getElem?_map, List.getElem?_range hj, List.getElem?_reverse (by simpa using hj)]
    have hlt : items.size - 1 - j < items.size := by omega
    simp [Array.getD_eq_getD_getElem?, hlt]
  · rw [List.getElem?_eq_none (by simp; omega), List.getElem?_eq_none (by simp; omega)]

section
variable {prog : Program} {w : World} {A : Around} {E : Value → Shared → Prop} {s : Shared} {G : Glb} {hin : Heap} {outer : List Env} {L a : Addr} {h₀ h h' : Heap} {m m' : Str → Option Value} {news : List (Addr × Obj)} {name : Str} {scope : Scope} {cd : Value} {env : Env}

theorem St.push2 (S : St G hin outer L h₀ h m news) (o₁ o₂ : Obj) (hf₁ : o₁.isFreed = false := by rfl) (hf₂ : o₂.isFreed = false := by rfl) : St G hin outer L h₀ ((h.push o₁).push o₂) m ((h.objs.size + 1, o₂) :: news) := by
  have S₂ := ((S.push o₁ hf₁).push o₂ hf₂).sub (news' := ((h.push o₁).objs.size, o₂) :: news) (by simp)
  rw [Heap.size_push] at S₂
  exact S₂

/-- l[i:] -/
theorem lslice_sn {value lo : Expr} {p pos : Pos} {Q : Value → Shared → Prop}
    (h : wpAny (model prog w) A (eval value env) (fun o s₁ => wpAny (model prog w) A (eval lo env) (fun vl s₃ =>
      ∃ l items i t m news, o = .ref l ∧ vl = .int ((i : Nat) : Int) t ∧ s₃.heap.IsList l items ∧ items.size ≤ 100000 ∧ St G hin outer L h₀ s₃.heap m news ∧
        ∀ D h', (∀ b o, s₃.heap.get? b = some o → h'.get? b = some o) → St G hin outer L h₀ h' m ((D, listObj (items.toList.drop i)) :: news) → Q (.ref D) { s₃ with heap := h' }) E s₁) E s)
    (ht : ∀ o r, letTemporaryGo value o r = pure () := by intro _ _; rfl) :
    wpAny (model prog w) A (eval (.Subscript value (.Slice (some lo) none none p) pos) env) Q E s := by
  refine wpAny_Subscript_list_slice (wpAny_mono h (fun o s₁ h₁ => evalPart_some_step (wpAny_mono h₁ (fun vl s₂ h₂ => evalPart_none_step ?_) fun _ _ e => e)) fun _ _ e => e) ht
  obtain ⟨l, items, i, t, m, news, rfl, rfl, hl, hsz, S, hQ⟩ := h₂
  refine ⟨l, items, some (i : Int), none, rfl, hl, by rw [sizeLine_eq]; omega, .int _ _, .none, ?_⟩
  rw [slicePick_from']
  exact hQ _ _ (fun _ _ e => Heap.get?_push_of_some _ (Heap.get?_push_of_some _ e)) (S.push2 _ _)
/-- l[:i] -/
theorem lslice_ns {value up : Expr} {p pos : Pos} {Q : Value → Shared → Prop}
    (h : wpAny (model prog w) A (eval value env) (fun o s₁ => wpAny (model prog w) A (eval up env) (fun vu s₃ =>
      ∃ l items i t m news, o = .ref l ∧ vu = .int ((i : Nat) : Int) t ∧ s₃.heap.IsList l items ∧ items.size ≤ 100000 ∧ St G hin outer L h₀ s₃.heap m news ∧
        ∀ D h', (∀ b o, s₃.heap.get? b = some o → h'.get? b = some o) → St G hin outer L h₀ h' m ((D, listObj (items.toList.take i)) :: news) → Q (.ref D) { s₃ with heap := h' }) E s₁) E s)
    (ht : ∀ o r, letTemporaryGo value o r = pure () := by intro _ _; rfl) :
    wpAny (model prog w) A (eval (.Subscript value (.Slice none (some up) none p) pos) env) Q E s := by
  refine wpAny_Subscript_list_slice (wpAny_mono h (fun o s₁ h₁ => evalPart_none_step (evalPart_some_step (wpAny_mono h₁ (fun vl s₂ h₂ => ?_) fun _ _ e => e))) fun _ _ e => e) ht
  obtain ⟨l, items, i, t, m, news, rfl, rfl, hl, hsz, S, hQ⟩ := h₂
  refine ⟨l, items, none, some (i : Int), rfl, hl, by rw [sizeLine_eq]; omega, .none, .int _ _, ?_⟩
  rw [slicePick_upto']
  exact hQ _ _ (fun _ _ e => Heap.get?_push_of_some _ (Heap.get?_push_of_some _ e)) (S.push2 _ _)
/-- l[::-1] -/
theorem lslice_rev {value st : Expr} {p pos : Pos} {Q : Value → Shared → Prop}
    (h : wpAny (model prog w) A (eval value env) (fun o s₁ => wpAny (model prog w) A (eval st env) (fun vs s₃ =>
      ∃ l items t m news, o = .ref l ∧ vs = .int (-1) t ∧ s₃.heap.IsList l items ∧ items.size ≤ 100000 ∧ St G hin outer L h₀ s₃.heap m news ∧
        ∀ D h', (∀ b o, s₃.heap.get? b = some o → h'.get? b = some o) → St G hin outer L h₀ h' m ((D, listObj items.toList.reverse) :: news) → Q (.ref D) { s₃ with heap := h' }) E s₁) E s)
    (ht : ∀ o r, letTemporaryGo value o r = pure () := by intro _ _; rfl) :
    wpAny (model prog w) A (eval (.Subscript value (.Slice none none (some st) p) pos) env) Q E s := by
  refine wpAny_Subscript_Slice_step (T := "list") list_getitem_lookup (wpAny_mono h (fun o s₁ h₁ => wpAny_Slice (evalPart_none_step (evalPart_none_step (evalPart_some_step (wpAny_mono h₁ (fun vs s₃ h₃ => ?_) fun _ _ e => e))))) fun _ _ e => e) ht
  obtain ⟨l, items, t, m, news, rfl, rfl, hl, hsz, S, hQ⟩ := h₃
  refine ⟨(hl.push _).typeIs, wpAny_getItem_list_slice (hl.push _) (Heap.IsSliceOf.new ..) .none .none (.int _ _) (by decide) ?_ (by rw [sizeLine_eq]; omega)⟩
  rw [slicePick_rev, Heap.size_push]
  exact hQ _ _ (fun _ _ e => Heap.get?_push_of_some _ (Heap.get?_push_of_some _ e)) (S.push2 _ _)

/-- l + l' -/
theorem ladd_St {l b : Addr} {vs ws : List Value} {Q : Value → Shared → Prop} (S : St G hin outer L h₀ s.heap m news) (hl : s.heap.IsList l vs.toArray) (hb : s.heap.IsList b ws.toArray) (hsz : vs.length + ws.length ≤ 100000)
    (hQ : ∀ D h', (∀ b o, s.heap.get? b = some o → h'.get? b = some o) → St G hin outer L h₀ h' m ((D, listObj (vs ++ ws)) :: news) → Q (.ref D) { s with heap := h' }) :
    wpAny (model prog w) A (binaryOp .Add (.ref l) (.ref b)) Q E s := by
  obtain ⟨⟨cls, dd, data, sl⟩, ho, hc, n, hd⟩ := id hl
  obtain ⟨⟨cls2, dd2, data2, sl2⟩, ho2, hc2, n2, hd2⟩ := id hb
  simp only at hc hd hc2 hd2
  subst hc hd hc2 hd2
  have e : vs.toArray ++ ws.toArray = (vs ++ ws).toArray := by simp
  refine concat_meets ⟨_, ho, rfl⟩ ⟨_, ho2, rfl⟩ noFill_list_add seq_list_add PySem.F.slot_list_add PySem.F.entry_list_add (PySem.F.args_list_add_2 _ _) (list_addW l b vs.toArray ws.toArray n n2 dd dd2 sl sl2 (by rw [sizeLine_eq]; simp; omega)) ⟨ho, ho2, ?_⟩
  rw [e]
  exact hQ _ _ (fun _ _ e => Heap.get?_push_of_some _ e) (S.push _)

/-- blanks -/
noncomputable abbrev blanks (n : Nat) : Str := ⟨(List.replicate n 32).toArray⟩
theorem foldl_rep (n : Nat) : ∀ acc : Array Nat, ((List.replicate n (#[32] : Array Nat)).foldl (· ++ ·) acc).toList = acc.toList ++ List.replicate n 32 := by
  induction n with
  | zero => intro acc; simp
  | succ n ih => intro acc; simp [List.replicate_succ, ih]
theorem mul_sp {n : Nat} {t u : Tok} {Q : Value → Shared → Prop} (hn : n ≤ 10000) (hQ : ∀ t k, Q (.str (blanks n) t) { s with toks := k }) : wpAny (model prog w) A (binaryOp .Mult (.str ⟨#[32]⟩ t) (.int n u)) Q E s := by
  have hx : (⟨#[32]⟩ : Str).length = 1 := rfl
  refine P.mul_str ?_ (fun h1 h2 => ?_) (fun h1 h2 => ?_) ?_
  · have h1 : ¬ ((n : Int) < -(2 ^ 63 : Int)) := by omega
    have h2 : ¬ ((n : Int) ≥ 2 ^ 63) := by omega
    rw [decide_eq_false h1, decide_eq_false h2]; rfl
  · rw [hx]
    have h3 : (1 : Int) ≤ (2 ^ 63 - 1) / (n : Int) := by
      apply (Int.le_ediv_iff_mul_le (by omega)).mpr
      omega
    omega
  · rw [hx]
    unfold tooLong
    rw [sizeLine_eq]; simp; omega
  · by_cases h0 : n = 0
    · subst h0
      rw [if_pos (by decide)]
      exact ⟨by decide, hQ _ _⟩
    · rw [if_neg (by omega)]
      by_cases h1 : n = 1
      · subst h1
        rw [if_pos (by decide)]
        exact hQ t s.toks
      · rw [if_neg (by simp [hx]; omega)]
        have e : (⟨(List.replicate (n : Int).toNat (⟨#[32]⟩ : Str).cps).foldl (· ++ ·) #[]⟩ : Str) = blanks n := by
          have := foldl_rep n #[]
          rw [Int.toNat_natCast]
          show (⟨_⟩ : Str) = ⟨_⟩
          congr 1
          rw [← Array.toArray_toList (xs := List.foldl _ _ _), this]; simp
        rw [e]
        exact ⟨by show (List.replicate n 32).toArray.size ≤ _; rw [sizeLine_eq]; simp; omega, hQ _ _⟩

/-- deep != -/
theorem ne_St {a b : Value} {da db : PyData} {Q : Value → Shared → Prop} (ra : Rd s.heap a da) (rb : Rd s.heap b db) (ha : SeqAt.shaped da = true) (hb : SeqAt.shaped db = true) (hu : A.units + 64 < cLine) (h : Q (.bool (!PyData.eqv da db)) s) :
    wpAny (model prog w) A (compareOp .NotEq a b) Q E s :=
  let ⟨_, ra⟩ := ra
  let ⟨_, rb⟩ := rb
  SeqAt.compareNe_shaped ra rb ha hb hu h
end
end Mine
namespace Mine
section
variable {prog : Program} {w : World} {A : Around}
/-- a loop whose turn raises nothing: the posts as letters -/
theorem forLoop_abs {R : Result → Shared → Prop} {target : Expr} {it : Value} {body orelse : List Stmt} {env : Env} (I : Nat → Shared → Prop)
    (turn : ∀ n s (E₁ : Value → Shared → Prop) (R₁ : Result → Shared → Prop) (N : Shared → Prop), (∀ r s', R r s' → R₁ r s') → (∀ m s', m < n → I m s' → N s') → I n s →
      wpAny (model prog w) A (pyNext it) (fun r s₁ => match r with
      | none => wpAny (model prog w) A (execs orelse env) (fun f s₃ => R₁ (.ok f) s₃) E₁ s₁
      | some v => wpAny (model prog w) A (letOwnedTupleGo target it v) (fun _ s₁' =>
          wpAny (model prog w) A (assign target env v) (fun _ s₂ => wpAny (model prog w) A (execs body env) (fun f s₃ => match f with
            | .next | .cont => N s₃
            | .brk => R₁ (.ok .next) s₃
            | .ret v => R₁ (.ok (.ret v)) s₃) E₁ s₂) E₁ s₁') E₁ s₁) E₁ s)
    {s : Shared} (n : Nat) (h : I n s) : codeAny (model prog w) A (.forLoop target it body orelse env) R s := by
  refine codeAny_forLoop_any I (fun n s hI => ?_) n h
  exact turn n s _ R (fun s' => ∃ m, m < n ∧ I m s') (fun _ _ x => x) (fun m s' h1 h2 => ⟨m, h1, h2⟩) hI
theorem whileLoop_abs {R : Result → Shared → Prop} {test : Expr} {body orelse : List Stmt} {env : Env} (I : Nat → Shared → Prop)
    (turn : ∀ n s (E₁ : Value → Shared → Prop) (R₁ : Result → Shared → Prop) (N : Shared → Prop), (∀ r s', R r s' → R₁ r s') → (∀ m s', m < n → I m s' → N s') → I n s →
      wpAny (model prog w) A (isTrue test env (eval test env)) (fun b s₂ =>
        if b then wpAny (model prog w) A (execs body env) (fun f s₃ => match f with
            | .next | .cont => N s₃
            | .brk => R₁ (.ok .next) s₃
            | .ret v => R₁ (.ok (.ret v)) s₃) E₁ s₂
        else wpAny (model prog w) A (execs orelse env) (fun f s₃ => R₁ (.ok f) s₃) E₁ s₂) E₁ s)
    {s : Shared} (n : Nat) (h : I n s) : codeAny (model prog w) A (.whileLoop test body orelse env) R s := by
  refine codeAny_whileLoop I (fun n s hI => ?_) n h
  exact turn n s _ R (fun s' => ∃ m, m < n ∧ I m s') (fun _ _ x => x) (fun m s' h1 h2 => ⟨m, h1, h2⟩) hI
theorem wp_E {α : Type} {M : Model} {t : Sem α} {Q : α → Shared → Prop} {E : Value → Shared → Prop} {s : Shared} (h : ∀ E₁, wpAny M A t Q E₁ s) : wpAny M A t Q E s := h E
theorem wp_Q {α : Type} {M : Model} {t : Sem α} {Q : α → Shared → Prop} {E : Value → Shared → Prop} {s : Shared} (h : ∀ Q₁ : α → Shared → Prop, (∀ v s', Q v s' → Q₁ v s') → wpAny M A t Q₁ E s) : wpAny M A t Q E s := h Q fun _ _ x => x
/-- a call that raises nothing -/
theorem enterPure {R : Result → Shared → Prop} {s : Shared} {G : Glb} {outer : List Env} {name : Str} {params : Arguments} {body : List Stmt} {scope : Scope} {pm cd doc : Value} {f : Addr} {o : Obj} {args : Args} {binds : List (Str × Value)}
    (K : G.Ok) (hp : Pre G outer s.heap) (hroom : A.depth < recursionLimit) (ho : G.base.get? f = some o) (hdata : o.data = .func (docDef name params body scope pm cd doc)) (hcd : G.base.CodeRec cd name)
    (hbind : bindArgs (docDef name params body scope pm cd doc) args = pure binds)
    (h : ∀ (E₁ : Value → Shared → Prop) h₀ h₁, St G s.heap outer s.heap.objs.size h₀ h₁ (fun x => binds.reverse.lookup x) [] → (∀ b o, s.heap.get? b = some o → b ∉ frs outer → b ≠ G.P → h₀.get? b = some o) →
      wpAny (model pw w) (A.deeper (envOf name scope s.heap.objs.size f cd)) (execs body (envOf name scope s.heap.objs.size f cd)) (fun fl s' => R (.ok (.ret (match fl with | .ret v => v | _ => .none))) s') E₁
        { s with heap := h₁, toks := s.toks + binds.length })
    (hcell : (scope.names.all fun x => x.2 != .cell) = true := by rfl) (hloc : (binds.all fun x => scope.names.lookup x.1 == some .local) = true := by rfl)
    (hco : scope.isCoroutine = false := by rfl) (hgen : scope.isGenerator = false := by rfl) (hk : scope.kind = .function := by rfl) :
    codeAny (model pw w) A (.call (.ref f) args) R s :=
  enterDef K hp hroom ho hdata hcd hbind (fun h₀ h₁ => h _ h₀ h₁) hcell hloc hco hgen hk
end
section
variable {P : Prop} {G : Glb} {w : World}
theorem Glb.Fn.elim {name : Str} {i : Nat} (x : G.Fn name i) (k : ∀ f o pm cd doc, G.mg name = some (.ref f) → G.base.get? f = some o → o.data = .func (docDef name (fnParams (stAt i)) (fnBody (stAt i)) (fnScope (stAt i)) pm cd doc) → G.base.CodeRec cd name → P) : P :=
  let ⟨f, o, pm, cd, doc, a, b, c, d⟩ := x.at_; k f o pm cd doc a b c d
theorem Fns.sufE (F : Fns w G) (k : ∀ f o pm doc, G.mg "suffixed_err" = some (.ref f) → G.base.get? f = some o → o.data = .func (docDef "suffixed_err" (fnParams (stAt 15)) (fnBody (stAt 15)) (fnScope (stAt 15)) pm (.ref G.c) doc) → G.base.CodeRec (.ref G.c) "suffixed_err" → P) : P :=
  let ⟨f, o, pm, doc, a, b, c, d⟩ := F.suffixed; k f o pm doc a b c d
variable {hin : Heap} {outer : List Env} {L : Addr} {h₀ h h' : Heap} {m : Str → Option Value} {news : List (Addr × Obj)}
theorem St.anewK (S : St G hin outer L h₀ h m news) (x : Ext (L :: frs outer) G.P h h') (t : G.Tab h')
    (k : ∀ h₁, St G hin outer L h₁ h' m news → h₀.StaysIn h₁ → (cut h.objs.size h').StaysIn h₁ → (∀ b o, h.get? b = none → h'.get? b = some o → h₁.get? b = some o) → P) : P :=
  let ⟨h₁, a, b, c, d⟩ := S.anew x t; k h₁ a b c d
theorem St.settleK {a : Addr} {o : Obj} (S : St G hin outer L h₀ h m ((a, o) :: news)) (k : ∀ h₁, St G hin outer L h₁ h m news → h₀.StaysIn h₁ → h₁.get? a = some o → P) : P :=
  let ⟨h₁, a, b, c⟩ := S.settle; k h₁ a b c
end
end Mine
end

section
open PySem PySem.W PyProof.Rows PySem.Calls
set_option maxRecDepth 100000
namespace Mine
set_option compiler.extract_closed false
local macro_rules | `(tactic| walk_at "v") => `(tactic| first
  | (with_reducible exact upd_here)
  | ((with_reducible refine upd_off ?hn ?_); (case hn => decide +kernel); walk_at "v")
  | assumption
  | ((fail_if_success (with_reducible show upd _ _ _ _ = _)); rfl))
local macro_rules | `(tactic| walk_at "N") => `(tactic| first
  | ((with_reducible show wpAny _ _ (execs _ _) _ _ _); first | with_reducible refine wpAny_execs_cons ?_ | with_reducible refine wpAny_execs_nil ?_ | refine wpAny_execs_cons ?_ | refine wpAny_execs_nil ?_)
  | ((with_reducible show wpAny _ _ (exec _ _) _ _ _); first
      | ((with_reducible refine wpAny_Assign_Name ?_ ?hs); (case hs => rfl))
      | ((with_reducible show wpAny _ _ (exec (Stmt.Assign [Expr.Tuple _ _ _] _ _) _) _ _ _); refine PyProof.Rows.Assign_Tuple ?_)
      | with_reducible refine wpAny_AugAssign_Name ?_
      | ((with_reducible show wpAny _ _ (exec (Stmt.Expr _ _) _) _ _ _); refine wpAny_Expr_any ?_)
      | with_reducible refine wpAny_If ?_
      | with_reducible refine wpAny_Return_some ?_
      | with_reducible refine wpAny_Break ?_
      | ((with_reducible show wpAny _ _ (exec (Stmt.Assign [Expr.Subscript _ _ _] _ _) _) _ _ _); refine wpAny_Assign_Subscript ?_)
      | with_reducible refine wpAny_Pass ?_)
  | ((with_reducible show wpAny _ _ (eval (Expr.Name _ _) _) _ _ _); first
      | (refine lo (by assumption) (by walk_at "v") ?_)
      | (refine bi (by assumption) (by assumption) (Fns.b_str (by assumption)).1 (Fns.b_str (by assumption)).2 ?_)
      | (refine bi (by assumption) (by assumption) (Fns.b_type (by assumption)).1 (Fns.b_type (by assumption)).2 ?_)
      | (refine bi (by assumption) (by assumption) (Fns.b_max (by assumption)).1 (Fns.b_max (by assumption)).2 ?_)
      | (refine bi (by assumption) (by assumption) (Fns.b_sum (by assumption)).1 (Fns.b_sum (by assumption)).2 ?_)
      | (refine bi (by assumption) (by assumption) (Fns.b_any (by assumption)).1 (Fns.b_any (by assumption)).2 ?_)
      | (refine bi (by assumption) (by assumption) (Fns.b_enumerate (by assumption)).1 (Fns.b_enumerate (by assumption)).2 ?_)
      | (refine bi (by assumption) (by assumption) (Glb.Ok.len (by assumption)).1 (Glb.Ok.len (by assumption)).2 ?_)
      | (refine bi (by assumption) (by assumption) (Glb.Ok.ixe (by assumption)).1 (Glb.Ok.ixe (by assumption)).2 ?_)
      | (refine bi (by assumption) (by assumption) (Glb.Ok.vle (by assumption)).1 (Glb.Ok.vle (by assumption)).2 ?_))
  | ((with_reducible show wpAny _ _ (loadName _ _) _ _ _); refine lon (by assumption) (by walk_at "v") ?_)
  | ((with_reducible show wpAny _ _ (eval (Expr.Call (Expr.Attribute _ _ _) _ _ _) _) _ _ _); refine MethodCall_ ?_)
  | ((with_reducible show wpAny _ _ (eval _ _) _ _ _); first
      | with_reducible refine Constant_str ?_
      | with_reducible refine wpAny_Constant_int ?_
      | with_reducible refine Constant_bool ?_
      | with_reducible refine Constant_none ?_
      | with_reducible refine wpAny_BinOp ?_
      | ((with_reducible refine wpAny_Compare1 ?_ ?hm); (case hm => with_unfolding_all rfl))
      | ((with_reducible refine Call_ ?_ ?he); (case he => rfl))
      | (with_reducible refine JoinedStr_many ?_)
      | (with_reducible refine FormattedValue_plain ?_)
      | (with_reducible refine wpAny_FormattedValue_repr ?_)
      | with_reducible refine Tuple_ ?_
      | with_reducible refine IfExp_ ?_
      | with_reducible refine List_ ?_
      | ((fail_if_success (with_reducible show wpAny _ _ (eval (Expr.Subscript _ (Expr.Slice _ _ _ _) _) _) _ _ _)); with_reducible refine Subscript_ ?_))
  | ((with_reducible show wpAny _ _ (callWith _ _ _ _ _) _ _ _); first | ((with_reducible show wpAny _ _ (callWith _ (Value.builtin _) [] _ _) _ _ _); refine PyProof.Rows.callWith_builtin1 ?_) | ((with_reducible show wpAny _ _ (callWith _ (Value.builtin _) _ _ _) _ _ _); refine PyProof.Rows.callWith_method1 ?_) | ((with_reducible show wpAny _ _ (callWith _ (Value.type _) _ _ _) _ _ _); refine PyProof.Rows.callWith_type1 ?_))
  | ((with_reducible show wpAny _ _ (getMethod (Value.str _ _) _ _) _ _ _); first | with_reducible refine GM.count ?_ | with_reducible refine GM.rindex ?_ | with_reducible refine GM.index ?_)
  | ((with_reducible show wpAny _ _ (spliced _) _ _ _); first | with_reducible refine PyProof.Rows.args_nil ?_ | refine PyProof.Rows.args_cons ?_ | refine PyProof.Rows.args_nil ?_)
  | ((with_reducible show wpAny _ _ (isTrue _ _ _) _ _ _); first
      | with_reducible refine isTrue_and ?_
      | with_reducible refine isTrue_and_nil ?_
      | with_reducible refine isTrue_or ?_
      | with_reducible refine isTrue_or_nil ?_
      | ((with_reducible refine wpAny_isTrue_Compare1 ?_ ?hm); (case hm => with_unfolding_all rfl))
      | with_reducible refine isTrue_not ?_
      | refine isTrue_plain ?_)
  | ((with_reducible show wpAny _ _ (assignInOrder _ _) _ _ _); first | ((with_reducible show wpAny _ _ (assignInOrder _ []) _ _ _); refine assignInOrder_nil ?_) | refine assignInOrder_cons (PyProof.Rows.assign_Name ?_) | refine assignInOrder_nil ?_)
  | ((with_reducible show wpAny _ _ (evalAll _) _ _ _); first | with_reducible refine kws_nil ?_ | refine kws_cons ?_ | refine kws_nil ?_)
  | ((with_reducible show wpAny _ _ (evalPart _ _) _ _ _); first | refine evalPart_some_step ?_ | refine evalPart_none_step ?_)
  | ((with_reducible show wpAny _ _ (truthy (Value.bool _)) _ _ _); with_reducible refine wpAny_truthy_bool ?_)
  | ((with_reducible show wpAny _ _ (compareOp _ _ _) _ _ _); with_reducible first | refine PyProof.Rows.gt_int ?_ | refine PyProof.Rows.lt_int ?_ | refine PyProof.Rows.eq_int ?_ | refine PyProof.Rows.ne_int ?_ | refine PyProof.Rows.ge_int ?_ | refine PyProof.Rows.eq_str ?_ | refine PyProof.Rows.ne_str ?_ | refine PySem.EqNone.eq_none_str ?_)
  | ((with_reducible show wpAny _ _ (binaryOp _ (Value.int _ _) (Value.int _ _)) _ _ _); with_reducible first | refine PyProof.Rows.add_int ?_ | refine PyProof.Rows.sub_int ?_)
  | ((with_reducible show wpAny _ _ (inplaceOp _ (Value.int _ _) (Value.int _ _)) _ _ _); with_reducible refine PyProof.Rows.iadd_int ?_)
  | ((with_reducible show wpAny _ _ (joinParts _ _) _ _ _); refine joinParts_cons ?_))
local macro_rules | `(tactic| walk_at "S") => `(tactic| first
  | walk_at "N"
  | ((with_reducible show wpAny _ _ (storeName _ _ _) _ _ _); refine sto (by assumption) ?_; intro h' tk' S; try dsimp only))

section
open PySem PySem.W PyProof.Rows PySem.Calls
set_option maxRecDepth 100000

noncomputable def lawAlpha : List Nat := [97, 32, 35, 9, 8232, 62, 45, 233]
noncomputable def wordOf : Nat → Nat → List Nat
  | 0, _ => []
  | k + 1, r => if r = 0 then [] else lawAlpha.getD (r % 8) 0 :: wordOf k (r / 8)

theorem lw_item (r : Nat) : Txt.item "a #\t\u2028>-é" ((r : Int).fmod 8) = ⟨#[lawAlpha.getD (r % 8) 0]⟩ := by
  have h := fmod_nat r 8
  rw [show ((8 : Nat) : Int) = 8 from rfl] at h
  rw [h]
  have hk : r % 8 < 8 := Nat.mod_lt _ (by decide)
  have key : ∀ k : Fin 8, Txt.item "a #\t\u2028>-é" ((k.val : Nat) : Int) = ⟨#[lawAlpha.getD k.val 0]⟩ := by decide +kernel
  exact key ⟨r % 8, hk⟩

inductive WordI (G : Glb) (s : Shared) (outer : List Env) (h₀ : Heap) (y : Int) (n : Nat) (s' : Shared) : Prop
  | mk (r : Nat) (d : List Nat) (h : Heap) (tk : Nat) (m : Str → Option Value) (_ : s' = { s with heap := h, toks := tk }) (_ : St G s.heap outer s.heap.objs.size h₀ h m []) (_ : HasS m "word" ⟨d.toArray⟩) (_ : HasI m "rest" r) (_ : d.length ≤ 3) (_ : n = 3 - d.length) (_ : wordOf 3 y.toNat = d ++ wordOf (3 - d.length) r) : WordI G s outer h₀ y n s'

theorem lw_spec {w : World} {A : Around} {E : Value → Shared → Prop} {s : Shared} {G : Glb} {outer : List Env} {f : Addr} {o : Obj} {pm cd doc : Value} {y : Int} {ty : Tok} {Q : Value → Shared → Prop}
    (K : G.Ok) (hp : Pre G outer s.heap) (hroom : A.depth < recursionLimit) (hy : 0 ≤ y)
    (ho : G.base.get? f = some o) (hdata : o.data = .func (docDef "_law_word" (fnParams (stAt 17)) (fnBody (stAt 17)) (fnScope (stAt 17)) pm cd doc)) (hcd : G.base.CodeRec cd "_law_word")
    (hQ : ∀ h' tk t, Ext (frs outer) G.P s.heap h' → G.Tab h' → Q (.str ⟨(wordOf 3 y.toNat).toArray⟩ t) { s with heap := h', toks := tk }) :
    wpAny (model pw w) A (call (.ref f) [.int y ty]) Q E s := by
  refine wpAny_call (enterPure (binds := [("y", .int y ty)]) K hp hroom ho hdata hcd ?_ ?_)
  · rfl
  · intro E₁ h₀ h₁ S hin
    repeat walk_at "S"
    refine wpAny_While ?_
    rename_i S'
    refine codeAny_whileLoop (WordI G s outer h₀ y) ?_ 3 ?_
    · rintro n _ ⟨r, d, h, tk, m, rfl, S, ⟨t1, hm1⟩, ⟨t2, hm2⟩, hd, rfl, hw⟩
      have fin : ∀ tk, wordOf (3 - d.length) r = [] → Q (.str ⟨d.toArray⟩ t1) { s with heap := h, toks := tk } := fun tk he => by
        rw [he, List.append_nil] at hw
        exact hw ▸ hQ h tk t1 S.ext S.tab
      repeat walk_at "S"
      refine split_dec (fun h => ?_) (fun h => ?_)
      · repeat walk_at "S"
        refine PyProof.Rows.len_str ?_ ?_
        · show ¬ ((d.toArray.size : Nat) : Int) ≥ 2 ^ 63
          simp only [List.size_toArray]; omega
        repeat walk_at "S"
        refine split_dec (fun hl => ?_) (fun hl => ?_)
        · have hl' : d.length < 3 := by
            have : ((d.toArray.size : Nat) : Int) < 3 := hl
            simp only [List.size_toArray] at this; omega
          have hr : 0 < r := by omega
          repeat walk_at "S"
          rw [if_pos rfl]
          repeat walk_at "S"
          refine PyProof.Rows.mod_int (by decide) ?_
          refine PyProof.Rows.item_str_fmod (by decide) (by decide +kernel) (by decide +kernel) fun _ => ?_
          refine PyProof.Rows.iadd_str (fun t' tk' => ?_) ?_
          · repeat walk_at "S"
            refine ifloordiv_int (by decide) ?_
            repeat walk_at "S"
            rename_i S''
            refine ⟨3 - (d.length + 1), by omega, r / 8, d ++ [lawAlpha.getD (r % 8) 0], _, _, _, rfl, S'', ?_, ?_, by simp; omega, by simp, ?_⟩
            · refine HasS.off ?_ (by decide +kernel)
              have e : (⟨d.toArray⟩ : Str) ++ Txt.item "a #\t\u2028>-é" ((r : Int).fmod 8) = ⟨(d ++ [lawAlpha.getD (r % 8) 0]).toArray⟩ := by
                rw [lw_item]; show Str.append _ _ = _; simp [Str.append]
              rw [← e]; exact HasS.here
            · have := fdiv_nat r 8
              rw [← this]; exact HasI.here
            · rw [hw, List.append_assoc]
              congr 1
              obtain ⟨k, hk⟩ : ∃ k, 3 - d.length = k + 1 := ⟨2 - d.length, by omega⟩
              have hk' : 3 - (d ++ [lawAlpha.getD (r % 8) 0]).length = k := by simp; omega
              rw [hk, hk', wordOf, if_neg (by omega)]; rfl
          · show d.toArray.size + (Txt.item _ _).length ≤ sizeLine
            have := len_item "a #\t\u2028>-é" ((r : Int).fmod 8)
            rw [this, sizeLine_eq]; simp; omega
        · have hl' : d.length = 3 := by
            have : ¬ ((d.toArray.size : Nat) : Int) < 3 := hl
            simp only [List.size_toArray] at this; omega
          rw [if_neg (by decide)]
          repeat walk_at "S"
          exact fin _ (by rw [hl']; rfl)
      · have hr : r = 0 := by omega
        rw [if_neg (by decide)]
        repeat walk_at "S"
        exact fin _ (by rw [hr]; cases 3 - d.length <;> rfl)
    · refine ⟨y.toNat, [], _, _, _, rfl, S', HasS.off HasS.here (by decide +kernel), ?_, by simp, by simp, by simp⟩
      rw [Int.toNat_of_nonneg hy]; exact HasI.here
end

section
open PySem PySem.W PyProof.Rows PySem.Calls
set_option maxRecDepth 100000

/-- how far signs of S go on from pos -/
noncomputable def skipTo (x : Str) (S : Str → Bool) (pos : Nat) : Nat := pos + ((x.cps.toList.drop pos).takeWhile fun c => S ⟨#[c]⟩).length

theorem meta_IndexError : isSubtype (.type ((Manifest.find? "IndexError").elim "type" fun x => x.metatype)) (.type "tuple") = pure false := by rw [isSubtype_type]; kernel_rfl
theorem exc_IndexError : isSubtype (.type "IndexError") (.type "BaseException") = pure true := by rw [isSubtype_type]; kernel_rfl
theorem self_IndexError : isSubtype (.type "IndexError") (.type "IndexError") = pure true := by rw [isSubtype_type]; kernel_rfl

theorem skipTo_in {x : Str} {S : Str → Bool} {p c : Nat} (hc : x.cps[p]? = some c) (hs : S ⟨#[c]⟩ = true) : skipTo x S (p + 1) = skipTo x S p := by
  have hlt : p < x.cps.toList.length := by simpa using (Array.getElem?_eq_some_iff.mp hc).1
  have e : x.cps.toList.drop p = c :: x.cps.toList.drop (p + 1) := by
    rw [List.drop_eq_getElem_cons hlt]
    congr 1
    have := (Array.getElem?_eq_some_iff.mp hc).2
    simpa using this
  unfold skipTo
  rw [e, List.takeWhile_cons, hs]
  simp; omega
theorem skipTo_out {x : Str} {S : Str → Bool} {p c : Nat} (hc : x.cps[p]? = some c) (hs : S ⟨#[c]⟩ = false) : skipTo x S p = p := by
  have hlt : p < x.cps.toList.length := by simpa using (Array.getElem?_eq_some_iff.mp hc).1
  have e : x.cps.toList.drop p = c :: x.cps.toList.drop (p + 1) := by
    rw [List.drop_eq_getElem_cons hlt]
    congr 1
    have := (Array.getElem?_eq_some_iff.mp hc).2
    simpa using this
  unfold skipTo
  rw [e, List.takeWhile_cons, hs]
  simp
theorem skipTo_end {x : Str} {S : Str → Bool} {p : Nat} (hp : x.length ≤ p) : skipTo x S p = p := by
  unfold skipTo
  rw [List.drop_eq_nil_of_le (by simpa [Str.length] using hp)]
  simp

inductive CharsI (G : Glb) (s : Shared) (outer : List Env) (h₀ : Heap) (x : Str) (t1 : Tok) (a : Addr) (pos : Nat) (S : Str → Bool) (n : Nat) (s' : Shared) : Prop
  | mk (p : Nat) (h : Heap) (tk : Nat) (m : Str → Option Value) (_ : s' = { s with heap := h, toks := tk }) (_ : Mine.St G s.heap outer s.heap.objs.size h₀ h m []) (_ : m "src" = some (.str x t1)) (_ : m "chars" = some (.ref a)) (_ : HasI m "pos" p) (_ : p ≤ max pos x.length) (_ : n = x.length - p) (_ : skipTo x S p = skipTo x S pos) : CharsI G s outer h₀ x t1 a pos S n s'

theorem skip_chars_spec {w : World} {A : Around} {E : Value → Shared → Prop} {s : Shared} {G : Glb} {outer : List Env} {f a : Addr} {o : Obj} {pm cd doc : Value} {x : Str} {S : Str → Bool} {pos : Nat} {t1 t2 : Tok} {Q : Value → Shared → Prop}
    (K : G.Ok) (hp : Pre G outer s.heap) (hfr : A.frames = some outer) (hroom : A.depth < recursionLimit) (hh : A.handled = none) (hz : x.length ≤ 1000000) (hpos : pos ≤ 1000000) (hS : FSet w G.base a S)
    (ho : G.base.get? f = some o) (hdata : o.data = .func (docDef "skip_chars" (fnParams (stAt 10)) (fnBody (stAt 10)) (fnScope (stAt 10)) pm cd doc)) (hcd : G.base.CodeRec cd "skip_chars")
    (hQ : ∀ h' tk t, Ext (frs outer) G.P s.heap h' → G.Tab h' → Q (.int (skipTo x S pos) t) { s with heap := h', toks := tk }) :
    wpAny (model pw w) A (call (.ref f) [.str x t1, .int pos t2, .ref a]) Q E s := by
  refine wpAny_call (enterPure (binds := [("src", .str x t1), ("pos", .int pos t2), ("chars", .ref a)]) K hp hroom ho hdata hcd ?_ ?_)
  · rfl
  · intro E₁ h₀ h₁ St hin
    have hfr' : (A.deeper (envOf "skip_chars" (fnScope (stAt 10)) s.heap.objs.size f cd)).frames = some (envOf "skip_chars" (fnScope (stAt 10)) s.heap.objs.size f cd :: outer) := Around.frames_deeper hfr
    walk_at "S"
    refine wpAny_Try_except ?_
    repeat walk_at "S"
    refine wpAny_While ?_
    refine codeAny_whileLoop (CharsI G s outer h₀ x t1 a pos S) ?_ (x.length - pos) ?_
    · rintro n _ ⟨p, h, tk, m, rfl, St, hm1, hm2, ⟨t3, hm3⟩, hple, rfl, hsk⟩
      repeat walk_at "S"
      refine item_str_or hh (fitsSsize_of (N := 9223372036854775808) (by omega) (by omega) (Int.le_refl _)) (fun hout h' tk' e hx => ?_) (fun hlo hhi => ?_)
      · have hout : x.length ≤ p := by rcases hout with q | q <;> omega
        have hff := St.frames (env := envOf "skip_chars" (fnScope (stAt 10)) s.heap.objs.size f cd) rfl
        have X := Fly.of_new (G := G) (S := frs (envOf "skip_chars" (fnScope (stAt 10)) s.heap.objs.size f cd :: outer)) hx St.tab
        unfold notedBy
        refine note_new hfr' rfl hff X fun h₂ X => ?_
        refine came_back rfl X fun h₃ X => ?_
        refine note_same rfl X ?_
        refine flight_set (f := none) X fun h₄ X => ?_
        have St₄ := St.call X.ext X.tab
        refine wpAny_handleBy_builtin (X := "IndexError") (T := "IndexError") (b := true) exc_IndexError meta_IndexError self_IndexError ?_
        repeat walk_at "S"
        refine ⟨rfl, ?_, ?_⟩
        · obtain ⟨oe, _, _, he, hc, _⟩ := X.exc
          exact ⟨oe, he, hc⟩
        · rw [if_pos rfl]
          refine flight_set (f := none) X fun h₅ X => ?_
          have St₅ := St.call X.ext X.tab
          repeat walk_at "S"
          rw [← skipTo_end hout, hsk]
          exact hQ _ _ _ St₅.ext St₅.tab
      · have hlt : p < x.cps.size := by
          have : (p : Int) < (x.cps.size : Int) := hhi
          omega
        have hc : x.cps[p]? = some x.cps[p] := Array.getElem?_eq_getElem hlt
        have hi : Txt.item x (p : Int) = ⟨#[x.cps[p]]⟩ := item_meets (Int.natCast_nonneg _) (by simp)
        rw [hi]
        generalize x.cps[p] = c at hc ⊢
        repeat walk_at "S"
        refine in_fs (hS.keeps fun b o e => St.keep b o (St.bs b o e)) ?_
        repeat walk_at "S"
        cases hSc : S ⟨#[c]⟩ with
        | true =>
          rw [if_pos rfl]
          repeat walk_at "S"
          rename_i St'
          refine ⟨x.length - (p + 1), ?_, p + 1, _, _, _, rfl, St', upd_off (by decide +kernel) hm1, upd_off (by decide +kernel) hm2, ⟨_, upd_here⟩, ?_, rfl, (skipTo_in hc hSc).trans hsk⟩
          · show x.cps.size - (p + 1) < x.cps.size - p
            omega
          · show p + 1 ≤ max pos x.cps.size
            omega
        | false =>
          rw [if_neg (by decide)]
          repeat walk_at "S"
          rw [← skipTo_out hc hSc, hsk]
          exact hQ _ _ _ St.ext St.tab
    · exact ⟨pos, _, _, _, rfl, St, rfl, rfl, ⟨_, rfl⟩, by omega, rfl, rfl⟩
end

section
open PySem PySem.W PyProof.Rows PySem.Calls
set_option maxRecDepth 100000

noncomputable def nlCount (x : Str) (pos : Nat) : Nat := (x.cps.toList.take pos).count 10
noncomputable def colOf (x : Str) (pos : Nat) : Nat := ((x.cps.toList.take pos).reverse.takeWhile (· != 10)).length + 1
noncomputable def natText (n : Nat) : Str := Str.ofString (toString (n : Int))
noncomputable def coordText (x : Str) (pos : Nat) : Str :=
  if x.length ≤ pos then "end of document" else ("line " : Str) ++ natText (nlCount x pos + 1) ++ (", column " : Str) ++ natText (colOf x pos)

theorem colOf_none {x : Str} {pos : Nat} (hp : pos ≤ x.length) (h : (x.cps.toList.take pos).count 10 = 0) : colOf x pos = pos + 1 := by
  have hn : 10 ∉ x.cps.toList.take pos := fun q => by have := List.count_pos_iff.mpr q; omega
  unfold colOf
  have hall : ∀ c ∈ (x.cps.toList.take pos).reverse, (c != 10) = true := fun c hc => by
    have := List.mem_reverse.mp hc
    simp only [bne_iff_ne, ne_eq]
    rintro rfl; exact hn this
  have e := List.takeWhile_append_of_pos (l₂ := []) hall
  rw [List.append_nil] at e
  rw [e]
  have : x.cps.toList.length = x.length := by simp [Str.length]
  have hs : x.length = x.cps.size := rfl
  simp; omega
theorem colOf_some {x : Str} {pos i : Nat} (hi : i < pos) (hp : pos ≤ x.length) (h2 : x.cps.toList[i]? = some 10) (h3 : ∀ k, i < k → k < pos → x.cps.toList[k]? ≠ some 10) : colOf x pos = pos - i := by
  have hl : x.cps.toList.length = x.length := by simp [Str.length]
  have hs : x.length = x.cps.size := rfl
  have hil : i < x.cps.toList.length := by omega
  have e : x.cps.toList.take pos = x.cps.toList.take i ++ 10 :: (x.cps.toList.take pos).drop (i + 1) := by
    have h1 := (List.take_append_drop i (x.cps.toList.take pos)).symm
    rw [List.take_take, Nat.min_eq_left (Nat.le_of_lt hi)] at h1
    have hlt : i < (x.cps.toList.take pos).length := by simp; omega
    rw [List.drop_eq_getElem_cons hlt] at h1
    have h10 : (x.cps.toList.take pos)[i] = 10 := by
      rw [List.getElem_take]
      exact (List.getElem?_eq_some_iff.mp h2).2
    rw [h10] at h1
    exact h1
  unfold colOf
  have hall : ∀ c ∈ ((x.cps.toList.take pos).drop (i + 1)).reverse, (c != 10) = true := fun c hc => by
    have hc' := List.mem_reverse.mp hc
    obtain ⟨k, hk, ek⟩ := List.getElem_of_mem hc'
    simp only [bne_iff_ne, ne_eq]
    rintro rfl
    rw [List.getElem_drop, List.getElem_take] at ek
    simp at hk
    exact h3 (i + 1 + k) (by omega) (by omega) (by rw [← ek]; exact List.getElem?_eq_getElem _)
  rw [e, List.reverse_append, List.reverse_cons, List.append_assoc, List.takeWhile_append_of_pos hall]
  simp; omega

theorem int_len {i : Int} (h : i.natAbs < 100000000) : (Str.ofString (toString i)).length ≤ 9 := by
  rw [PySem.ofString_length]; exact int_text_length_le10 (k := 8) (by decide) h
theorem log_small {i : Int} (h : i.natAbs < 100000000) : i.natAbs.log2 < 1920 := by
  by_cases h0 : i.natAbs = 0
  · rw [h0]; decide +kernel
  · exact Nat.lt_of_lt_of_le ((Nat.log2_lt (k := 27) h0).mpr (by omega)) (by decide)

theorem coord_spec {w : World} {A : Around} {E : Value → Shared → Prop} {s : Shared} {G : Glb} {outer : List Env} {f c' : Addr} {pm doc ctv : Value} {x : Str} {pos : Nat} {t1 t2 : Tok} {Q : Value → Shared → Prop}
    (K : G.Ok) (hp : Pre G outer s.heap) (hroom : A.depth < recursionLimit) (hz : x.length ≤ 1000000) (hpos : pos ≤ 1000000)
    (hf : s.heap.get? f = some (fnMade "coord_repr" nqual (fnParams nestSt) (fnBody nestSt) (fnScope nestSt) [] doc pm c' ctv)) (hrec : s.heap.CodeRec (.ref c') nqual)
    (hQ : ∀ h' tk t, Ext (frs outer) G.P s.heap h' → G.Tab h' → Q (.str (coordText x pos) t) { s with heap := h', toks := tk }) :
    wpAny (model pw w) A (call (.ref f) [.str x t1, .int pos t2]) Q E s := by
  refine wpAny_call (enter (binds := [("src", .str x t1), ("pos", .int pos t2)]) K hp hroom hf rfl hrec rfl (.of_eq ?_) rfl rfl ?_)
  · rfl
  · intro h₀ h₁ St hin
    refine wp_E fun E₁ => ?_
    show wpAny _ (A.deeper (envOf nqual (fnScope nestSt) s.heap.objs.size f (.ref c'))) (execs (fnBody nestSt) (envOf nqual (fnScope nestSt) s.heap.objs.size f (.ref c'))) _ _ _
    have hz' : x.cps.size ≤ 1000000 := hz
    repeat walk_at "S"
    refine PyProof.Rows.len_str (by omega) ?_
    repeat walk_at "S"
    refine split_dec (fun hge => ?_) (fun hlt => ?_)
    · repeat walk_at "S"
      have e : coordText x pos = "end of document" := if_pos (by omega)
      exact e ▸ hQ _ _ _ St.ext St.tab
    · have hlt : pos < x.length := by omega
      repeat walk_at "S"
      refine count4 (c := 10) (Nat.le_of_lt hlt) ?_
      repeat walk_at "S"
      rename_i St
      have hcnt : (x.cps.toList.take pos).count 10 ≤ 1000000 := Nat.le_trans List.count_le_length (by simp; omega)
      have key : ∀ (col : Nat) (h : Heap) (tk : Nat) (t : Tok), col = colOf x pos → Ext (frs outer) G.P s.heap h → G.Tab h → Q (.str (((Str.empty ++ ("line " : Str)) ++ Str.ofString (toString (((x.cps.toList.take pos).count 10 : Nat) + 1 : Int)) ++ (", column " : Str)) ++ Str.ofString (toString (col : Int))) t) { s with heap := h, toks := tk } := fun col h tk t hc e1 e2 => by
        have e : coordText x pos = ((Str.empty ++ ("line " : Str)) ++ Str.ofString (toString (((x.cps.toList.take pos).count 10 : Nat) + 1 : Int)) ++ (", column " : Str)) ++ Str.ofString (toString (col : Int)) := by
          rw [coordText, if_neg (by omega), hc, Str.empty_append]
          rfl
        rw [← e]; exact hQ h tk t e1 e2
      have l1 : ("line " : Str).length = 5 := by decide +kernel
      have l2 : (", column " : Str).length = 9 := by decide +kernel
      have l0 : Str.empty.length = 0 := rfl
      have i1 := int_len (i := (((x.cps.toList.take pos).count 10 : Nat) + 1 : Int)) (by omega)
      refine split_bool (fun h1 => ?_) (fun h1 => ?_)
      · have h0 : (x.cps.toList.take pos).count 10 = 0 := by
          have := beq_iff_eq.mp h1; omega
        have hc : ((pos + 1 : Nat) : Int) = (pos : Int) + 1 := rfl
        repeat walk_at "S"
        rename_i St
        have i2 := int_len (i := (pos : Int) + 1) (by omega)
        refine ⟨by rw [Str.length_append, sizeLine_eq]; omega, ?_⟩
        repeat walk_at "S"
        refine formatField_int_small (log_small (by omega)) ?_
        refine ⟨by rw [Str.length_append, Str.length_append, sizeLine_eq]; omega, ?_⟩
        repeat walk_at "S"
        refine ⟨by rw [Str.length_append, Str.length_append, Str.length_append, sizeLine_eq]; omega, ?_⟩
        repeat walk_at "S"
        refine formatField_int_small (log_small (by omega)) ?_
        refine ⟨by rw [Str.length_append, Str.length_append, Str.length_append, Str.length_append, sizeLine_eq]; omega, ?_⟩
        refine joinParts_nil ?_ (by rw [Str.length_append, Str.length_append, Str.length_append, Str.length_append, sizeLine_eq]; omega)
        exact key (pos + 1) _ _ _ (colOf_none (Nat.le_of_lt hlt) h0).symm St.ext St.tab
      · have h0 : (x.cps.toList.take pos).count 10 ≠ 0 := by
          intro q
          rw [q] at h1
          exact absurd h1 (by decide)
        have hm : 10 ∈ x.cps.toList.take pos := List.count_pos_iff.mp (Nat.pos_of_ne_zero h0)
        repeat walk_at "S"
        refine rindex4 (Nat.le_of_lt hlt) hm fun i hi1 hi2 hi3 => ?_
        repeat walk_at "S"
        rename_i St
        have i2 := int_len (i := (pos : Int) - i) (by omega)
        refine ⟨by rw [Str.length_append, sizeLine_eq]; omega, ?_⟩
        repeat walk_at "S"
        refine formatField_int_small (log_small (by omega)) ?_
        refine ⟨by rw [Str.length_append, Str.length_append, sizeLine_eq]; omega, ?_⟩
        repeat walk_at "S"
        refine ⟨by rw [Str.length_append, Str.length_append, Str.length_append, sizeLine_eq]; omega, ?_⟩
        repeat walk_at "S"
        refine formatField_int_small (log_small (by omega)) ?_
        refine ⟨by rw [Str.length_append, Str.length_append, Str.length_append, Str.length_append, sizeLine_eq]; omega, ?_⟩
        refine joinParts_nil ?_ (by rw [Str.length_append, Str.length_append, Str.length_append, Str.length_append, sizeLine_eq]; omega)
        have hc : ((pos - i : Nat) : Int) = (pos : Int) - i := by omega
        rw [← hc]
        exact key (pos - i) _ _ _ (colOf_some hi1 (Nat.le_of_lt hlt) hi2 hi3).symm St.ext St.tab
end

section
open PySem PySem.W PyProof.Rows PySem.Calls
set_option maxRecDepth 100000

noncomputable def errText (msg x : Str) (pos : Nat) : Str := msg ++ (" (at " : Str) ++ coordText x pos ++ (")" : Str)

theorem coordText_len {x : Str} {pos : Nat} (hz : x.length ≤ 1000000) (hpos : pos ≤ 1000000) : (coordText x pos).length ≤ 40 := by
  have l1 : ("line " : Str).length = 5 := by decide +kernel
  have l2 : (", column " : Str).length = 9 := by decide +kernel
  have l3 : ("end of document" : Str).length = 15 := by decide +kernel
  have hs : x.length = x.cps.size := rfl
  unfold coordText
  split
  · omega
  · have h1 : nlCount x pos ≤ 1000000 := Nat.le_trans List.count_le_length (by simp; omega)
    have h2 : colOf x pos ≤ 1000001 := by
      unfold colOf
      have := (List.takeWhile_sublist (l := (x.cps.toList.take pos).reverse) (· != 10)).length_le
      simp only [List.length_reverse, List.length_take, Array.length_toList] at this
      omega
    have i1 := int_len (i := ((nlCount x pos + 1 : Nat) : Int)) (by omega)
    have i2 := int_len (i := ((colOf x pos : Nat) : Int)) (by omega)
    simp only [Str.length_append, natText]
    omega

theorem suffixed_spec {w : World} {A : Around} {E : Value → Shared → Prop} {s : Shared} {G : Glb} {outer : List Env} {f : Addr} {o : Obj} {pm doc : Value} {x msg : Str} {pos : Nat} {t1 t2 t3 : Tok} {Q : Value → Shared → Prop}
    (K : G.Ok) (hp : Pre G outer s.heap) (hroom : A.depth + 5 < recursionLimit) (hz : x.length ≤ 1000000) (hpos : pos ≤ 1000000) (hm : msg.length ≤ 1000)
    (ho : G.base.get? f = some o) (hdata : o.data = .func (docDef "suffixed_err" (fnParams (stAt 15)) (fnBody (stAt 15)) (fnScope (stAt 15)) pm (.ref G.c) doc)) (hcd : G.base.CodeRec (.ref G.c) "suffixed_err")
    (hQ : ∀ h' tk e, Ext (frs outer) G.P s.heap h' → G.Tab h' → NewErr G.C s.heap h' e (errText msg x pos) → Q (.ref e) { s with heap := h', toks := tk }) :
    wpAny (model pw w) A (call (.ref f) [.str x t1, .int pos t2, .str msg t3]) Q E s := by
  refine wpAny_call (enterPure (binds := [("src", .str x t1), ("pos", .int pos t2), ("msg", .str msg t3)]) K hp (by omega) ho hdata hcd ?_ ?_)
  · rfl
  · intro E₁ h₀ h₁ St hin
    walk_at "S"
    refine nestDef_K rfl rfl rfl ?_
    refine make_nest (Q := fun v s' => wpAny _ _ _ _ _ s') K St rfl fun h' tk g c' doc pm ctv St hrec => ?_
    refine stoK St fun h' tk' St' hk => ?_
    have hrec := codeRec_off hrec St.ns hk
    dsimp only
    repeat walk_at "S"
    refine gl K St' K.clsN ?_
    refine callWith_exc ?_
    have l1 : (" (at " : Str).length = 5 := by decide +kernel
    have l2 : (")" : Str).length = 1 := by decide +kernel
    have l0 : Str.empty.length = 0 := rfl
    have lc := coordText_len hz hpos
    repeat walk_at "S"
    refine formatField_str (fun _ _ => ?_) (by rw [sizeLine_eq]; omega)
    refine ⟨by rw [Str.length_append, sizeLine_eq]; omega, ?_⟩
    repeat walk_at "S"
    refine ⟨by rw [Str.length_append, Str.length_append, sizeLine_eq]; omega, ?_⟩
    repeat walk_at "S"
    have hg := St'.get (.head _)
    refine callWith_F ⟨_, _, _, _, hg⟩ ?_
    repeat walk_at "S"
    refine ⟨⟨_, _, _, _, hg⟩, ?_⟩
    refine coord_spec K (St'.pre (env := envOf "suffixed_err" (fnScope (stAt 15)) s.heap.objs.size f (.ref G.c)) rfl) (by show A.depth + 1 < recursionLimit; omega) hz hpos hg hrec fun h₂ tk₂ t₂ X T => ?_
    have St₂ := St'.call X T
    refine formatField_str (fun _ _ => ?_) (by rw [sizeLine_eq]; omega)
    refine ⟨by simp only [Str.length_append, sizeLine_eq]; omega, ?_⟩
    repeat walk_at "S"
    refine ⟨by simp only [Str.length_append, sizeLine_eq]; omega, ?_⟩
    refine joinParts_nil ?_ (by simp only [Str.length_append, sizeLine_eq]; omega)
    repeat walk_at "S"
    refine ⟨by rw [sizeLine_eq]; simp, K.cls.keeps fun b o e => St₂.keep b o (St₂.bs b o e), fun h₃ e hm => ?_⟩
    have St₃ := St₂.grow hm.keeps
    obtain ⟨ta, he, hta, et⟩ := hm.there
    have fresh : ∀ b, h₂.get? b = none → s.heap.get? b = none := fun b q => by
      cases q' : s.heap.get? b with
      | none => rfl
      | some o' =>
        by_cases hbf : b ∈ frs outer
        · obtain ⟨sl, e'⟩ := St₂.ext.slots b o' q' hbf
          rw [q] at e'; cases e'
        · by_cases hbP : b = G.P
          · obtain ⟨ps, eP, _⟩ := St₂.tab
            rw [← hbP, q] at eP; cases eP
          · have := St₂.ext.same b o' q' hbf hbP
            rw [q] at this; cases this
    have e0 : ((((Str.empty ++ msg) ++ (" (at " : Str)) ++ coordText x pos) ++ (")" : Str)) = errText msg x pos := by
      rw [Str.empty_append]; rfl
    rw [e0] at et
    exact hQ h₃ _ e St₃.ext St₃.tab ⟨ta, _, he, et, fresh _ hm.new, fresh _ hta⟩
end

section
open PySem PySem.W PyProof.Rows PySem.Calls
set_option maxRecDepth 100000

theorem meta_ValueError : isSubtype (.type ((Manifest.find? "ValueError").elim "type" fun x => x.metatype)) (.type "tuple") = pure false := by rw [isSubtype_type]; kernel_rfl
theorem exc_ValueError : isSubtype (.type "ValueError") (.type "BaseException") = pure true := by rw [isSubtype_type]; kernel_rfl
theorem self_ValueError : isSubtype (.type "ValueError") (.type "ValueError") = pure true := by rw [isSubtype_type]; kernel_rfl

/-- where the first sign of S stands -/
noncomputable def badAt (x : Str) (S : Str → Bool) (pos : Nat) : Nat := skipTo x (fun k => !S k) pos
noncomputable def untilTo (x : Str) (pos : Nat) (S : Str → Bool) (np : Nat) : Except Str Nat :=
  if ((x.cps.toList.drop pos).take (np - pos)).all (fun c => !S ⟨#[c]⟩) then .ok np
  else .error (errText ("Found invalid character " ++ reprText ⟨#[x.cps.toList.getD (badAt x S pos) 0]⟩) x (badAt x S pos))
noncomputable def skipUntil (x : Str) (c pos : Nat) (S : Str → Bool) (eof : Bool) : Except Str Nat :=
  match indexFrom x c pos with
  | none => if eof then .error (errText ("Expected " ++ reprText ⟨#[c]⟩) x x.length) else untilTo x pos S x.length
  | some np => untilTo x pos S np

theorem indexFrom_le {x : Str} {c pos np : Nat} (h : indexFrom x c pos = some np) : pos ≤ np ∧ np < x.length := by
  unfold indexFrom at h
  cases q : (x.cps.toList.drop pos).findIdx? (· == c) with
  | none => rw [q] at h; cases h
  | some i =>
    rw [q] at h
    obtain ⟨hi, _⟩ := List.findIdx?_eq_some_iff_getElem.mp q
    simp only [List.length_drop, Array.length_toList] at hi
    have : pos + i = np := by simpa using h
    show pos ≤ np ∧ np < x.cps.size
    omega

theorem slice_nat {x : Str} {a b : Nat} (hab : a ≤ b) (hb : b ≤ x.length) : Txt.slice x (some (a : Int)) (some (b : Int)) = ⟨((x.cps.toList.drop a).take (b - a)).toArray⟩ := by
  have h := StrLaws.sliced_plain x hab hb
  have hl := StrLaws.strSliceIndices_plain hab hb
  unfold Txt.slice
  rw [h]
  split
  · rename_i q
    rw [hl] at q
    have hb' : b ≤ x.cps.size := hb
    have q' : b - a = x.cps.size := by simpa [Str.length] using q
    have : ((x.cps.toList.drop a).take (b - a)) = x.cps.toList := by
      have : a = 0 := by omega
      subst this
      rw [List.drop_zero, List.take_of_length_le (by simp; omega)]
    rw [this]
  · rfl

theorem tw_stop (p : Nat → Bool) : ∀ l : List Nat, l.all p = false → ∃ c, l[(l.takeWhile p).length]? = some c ∧ p c = false
  | [], h => by simp at h
  | a :: l, h => by
    rw [List.takeWhile_cons]
    cases ha : p a with
    | false => exact ⟨a, by simp, ha⟩
    | true =>
      have h' : l.all p = false := by simpa [ha] using h
      obtain ⟨c, h1, h2⟩ := tw_stop p l h'
      exact ⟨c, by simpa using h1, h2⟩
/-- a run through the text up to np -/
theorem all_take {x : Str} {S : Str → Bool} {pos n : Nat} (h : ((x.cps.toList.drop pos).take n).all (fun c => !S ⟨#[c]⟩) = false) : ∃ c, x.cps[badAt x S pos]? = some c ∧ S ⟨#[c]⟩ = true := by
  have h' : (x.cps.toList.drop pos).all (fun c => !S ⟨#[c]⟩) = false := by
    cases q : (x.cps.toList.drop pos).all (fun c => !S ⟨#[c]⟩) with
    | false => rfl
    | true =>
      rw [← Bool.not_eq_true] at h
      exact absurd (List.all_eq_true.mpr fun c hc => List.all_eq_true.mp q c (List.mem_of_mem_take hc)) h
  obtain ⟨c, h1, h2⟩ := tw_stop _ _ h'
  refine ⟨c, ?_, by simpa using h2⟩
  rw [List.getElem?_drop] at h1
  unfold badAt skipTo
  simpa using h1
theorem skipTo_ge (x : Str) (S : Str → Bool) (pos : Nat) : pos ≤ skipTo x S pos := Nat.le_add_right _ _

inductive UntilM (G : Glb) (s : Shared) (outer : List Env) (h₀ : Heap) (x : Str) (t1 : Tok) (a : Addr) (pos : Nat) (c : Nat) (S : Str → Bool) (eof : Bool) (fl : Flow) (s' : Shared) : Prop
  | mk (_ : fl = .next) (np : Nat) (h : Heap) (tk : Nat) (m : Str → Option Value) (_ : s' = { s with heap := h, toks := tk }) (_ : Mine.St G s.heap outer s.heap.objs.size h₀ h m []) (_ : m "src" = some (.str x t1)) (_ : m "error_on" = some (.ref a)) (_ : HasI m "pos" pos) (_ : HasI m "new_pos" (np : Nat)) (_ : pos ≤ np) (_ : np ≤ x.length) (_ : skipUntil x c pos S eof = untilTo x pos S np) : UntilM G s outer h₀ x t1 a pos c S eof fl s'

inductive UntilI (G : Glb) (s : Shared) (outer : List Env) (h₀ : Heap) (x : Str) (t1 : Tok) (a : Addr) (pos : Nat) (S : Str → Bool) (n : Nat) (s' : Shared) : Prop
  | mk (p : Nat) (h : Heap) (tk : Nat) (m : Str → Option Value) (_ : s' = { s with heap := h, toks := tk }) (_ : Mine.St G s.heap outer s.heap.objs.size h₀ h m []) (_ : m "src" = some (.str x t1)) (_ : m "error_on" = some (.ref a)) (_ : HasI m "pos" p) (_ : n = x.length - p) (_ : skipTo x (fun k => !S k) p = badAt x S pos) : UntilI G s outer h₀ x t1 a pos S n s'

set_option maxHeartbeats 4000000 in
theorem skip_until_spec {w : World} {A : Around} {E : Value → Shared → Prop} {s : Shared} {G : Glb} {outer : List Env} {f a : Addr} {o : Obj} {pm cd doc : Value} {x : Str} {S : Str → Bool} {c pos : Nat} {eof : Bool} {t1 t2 t3 : Tok} {Q : Value → Shared → Prop}
    (K : G.Ok) (F : Fns w G) (hp : Pre G outer s.heap) (hfr : A.frames = some outer) (hroom : A.depth + 10 < recursionLimit) (hh : A.handled = none) (hz : x.length ≤ 100000) (hpos : pos ≤ x.length) (hS : FSet w G.base a S) (hRc : (reprText ⟨#[c]⟩).length ≤ 100) (hR : ∀ k, S ⟨#[k]⟩ = true → (reprText ⟨#[k]⟩).length ≤ 100)
    (ho : G.base.get? f = some o) (hdata : o.data = .func (docDef "skip_until" (fnParams (stAt 11)) (fnBody (stAt 11)) (fnScope (stAt 11)) pm cd doc)) (hcd : G.base.CodeRec cd "skip_until")
    (hQ : ∀ n, skipUntil x c pos S eof = .ok n → ∀ h' tk t, Ext (frs outer) G.P s.heap h' → G.Tab h' → Q (.int (n : Nat) t) { s with heap := h', toks := tk })
    (hE : ∀ M, skipUntil x c pos S eof = .error M → ∀ h' tk e, Fly G (frs outer) s.heap h' e (.ref G.C) (some M) (some .none) → E (.ref e) { s with heap := h', toks := tk }) :
    wpAny (model pw w) A (call (.ref f) [.str x t1, .int pos t2, .str ⟨#[c]⟩ t3] [("error_on", .ref a), ("error_on_eof", .bool eof)]) Q E s := by
  have hP : ∃ o, s.heap.get? G.P = some o := let ⟨ps, eP, _⟩ := hp.tab; ⟨_, eP⟩
  refine wpAny_call (enterDef (binds := [("src", .str x t1), ("pos", .int pos t2), ("expect", .str ⟨#[c]⟩ t3), ("error_on", .ref a), ("error_on_eof", .bool eof)]) K hp (by omega) ho hdata hcd ?_ ?_)
  · rfl
  · intro h₀ h₁ St hin
    have hfr' : (A.deeper (envOf "skip_until" (fnScope (stAt 11)) s.heap.objs.size f cd)).frames = some (envOf "skip_until" (fnScope (stAt 11)) s.heap.objs.size f cd :: outer) := Around.frames_deeper hfr
    have hz' : x.cps.size ≤ 100000 := hz
    have hE' : ∀ {h m news h' e M}, skipUntil x c pos S eof = .error M → Mine.St G s.heap outer s.heap.objs.size h₀ h m news → Fly G (s.heap.objs.size :: frs outer) h h' e (.ref G.C) (some M) (some .none) → ∀ tk, E (.ref e) { s with heap := h', toks := tk } :=
      fun hM St X tk => hE _ hM _ _ _ (X.out St hP)
    refine wpAny_execs_cons (wpAny_mono (Q := UntilM G s outer h₀ x t1 a pos c S eof) ?_ ?_ (fun _ _ x => x))
    · refine wpAny_Try_except ?_
      repeat walk_at "S"
      refine index3_or hh (fun hi h' tk' e hx => ?_) (fun np hi => ?_)
      · have hff := St.frames (env := envOf "skip_until" (fnScope (stAt 11)) s.heap.objs.size f cd) rfl
        have X := Fly.of_new (G := G) (S := frs (envOf "skip_until" (fnScope (stAt 11)) s.heap.objs.size f cd :: outer)) hx St.tab
        refine note_new hfr' rfl hff X fun h₂ X => ?_
        refine flight_set (f := none) X fun h₄ X => ?_
        have St₄ := St.call X.ext X.tab
        refine wpAny_handleBy_builtin (X := "ValueError") (T := "ValueError") (b := true) exc_ValueError meta_ValueError self_ValueError ?_
        repeat walk_at "S"
        refine ⟨rfl, ?_, ?_⟩
        · obtain ⟨oe, _, _, he, hc, _⟩ := X.exc
          exact ⟨oe, he, hc⟩
        · rw [if_pos rfl]
          refine flight_set (f := none) X fun h₅ X => ?_
          have St₅ := St.call X.ext X.tab
          repeat walk_at "S"
          refine PyProof.Rows.len_str (by omega) ?_
          repeat walk_at "N"
          refine stoK St₅ fun h₆ tk₆ St₆ hk₆ => ?_
          obtain ⟨o₁, vs₁, a₁, he₁, hc₁, hd₁, _, hm₁, _⟩ := X.exc
          have he₁ := hk₆ _ _ (fun q => by
            obtain ⟨oL, es, ep, eL, dL, _⟩ := St₅.ns
            rw [q, eL] at he₁; cases he₁; rw [dL] at hd₁; cases hd₁) he₁
          repeat walk_at "S"
          cases heof : eof with
          | true =>
            rw [if_pos rfl]
            repeat walk_at "S"
            refine raise_from_none (G := G) rfl ?_
            refine F.sufE fun f' o' pm' doc' hm' ho' hd' hc' => ?_
            repeat walk_at "S"
            refine gl K St₆ hm' ?_
            refine callWith_def hd' ?_
            repeat walk_at "S"
            have l1 : ("Expected " : Str).length = 9 := by decide +kernel
            have l0 : Str.empty.length = 0 := rfl
            refine ⟨by simp only [Str.length_append, sizeLine_eq]; omega, ?_⟩
            repeat walk_at "S"
            refine pyReprObj_str ?_ (by rw [sizeLine_eq]; omega)
            refine formatField_str (fun _ _ => ?_) (by rw [sizeLine_eq]; omega)
            refine ⟨by simp only [Str.length_append, sizeLine_eq]; omega, ?_⟩
            refine joinParts_nil ?_ (by simp only [Str.length_append, sizeLine_eq]; omega)
            repeat walk_at "S"
            refine ⟨St₆.keep _ _ (St₆.bs _ _ ho'), ?_⟩
            have hff := St₆.frames (env := envOf "skip_until" (fnScope (stAt 11)) s.heap.objs.size f cd) rfl
            refine suffixed_spec K (St₆.pre (env := envOf "skip_until" (fnScope (stAt 11)) s.heap.objs.size f cd) rfl) (by show A.depth + 1 + 5 < recursionLimit; omega) (by omega) (by omega) (by simp only [Str.length_append]; omega) ho' hd' hc' fun h₇ tk₇ e₇ X₇ T₇ N₇ => ?_
            obtain ⟨ta, tkk, g1, g2, g3, g4⟩ := id N₇
            have hne : e ≠ e₇ := fun q => by
              have z : h₆.get? e₇ = none := g3
              rw [← q, he₁] at z; cases z
            have hef : e ∉ frs (envOf "skip_until" (fnScope (stAt 11)) s.heap.objs.size f cd :: outer) := fun q => by
              obtain ⟨_, oo, ho, hnf⟩ := hff.mem q
              rw [he₁] at ho; cases ho; exact hnf _ hd₁
            have St₇ := St₆.call X₇ T₇
            have X₈ := (((Fly.of_err X₇ T₇ (let ⟨ps, eP, _⟩ := St₆.tab; ⟨_, eP⟩) N₇).setE (i := 3) (v := .none) (by omega)).setE (i := 4) (v := .bool true) (by omega)).setE (i := 2) (v := .ref e) (by omega)
            refine ⟨e₇, ta, o₁, vs₁, rfl, hne, X₇.same _ _ he₁ hef X.neP, hd₁, hm₁, K.cls.keeps fun b o e => St₇.keep b o (St₇.bs b o e), g1, ?_⟩
            unfold notedBy
            refine note_new (A := (A.deeper (envOf "skip_until" (fnScope (stAt 11)) s.heap.objs.size f cd)).mark (some (.ref e))) hfr' rfl hff X₈ fun h₂ X => ?_
            refine came_back rfl X fun h₃ X => ?_
            refine leave_same rfl X fun h₈ X => ?_
            refine hE' ?_ St₆ X _
            unfold skipUntil; rw [hi, heof, Str.empty_append]; rfl
          | false => 
            rw [if_neg (by decide)]
            repeat walk_at "S"
            exact ⟨rfl, x.length, _, _, _, rfl, St₆, upd_off (by decide +kernel) rfl, upd_off (by decide +kernel) rfl, ⟨_, upd_off (by decide +kernel) rfl⟩, ⟨_, upd_here⟩, hpos, Nat.le_refl _, by unfold skipUntil; rw [hi]; rfl⟩
      · repeat walk_at "S"
        rename_i St
        exact ⟨rfl, np, _, _, _, rfl, St, upd_off (by decide +kernel) rfl, upd_off (by decide +kernel) rfl, ⟨_, upd_off (by decide +kernel) rfl⟩, ⟨_, upd_here⟩, (indexFrom_le hi).1, Nat.le_of_lt (indexFrom_le hi).2, by unfold skipUntil; rw [hi]⟩
    · rintro _ _ ⟨rfl, np, h, tk, m, rfl, St, hm1, hm2, ⟨tp, hm3⟩, ⟨tn, hm4⟩, hle, hle', hsk⟩
      dsimp only
      repeat walk_at "S"
      refine getMethod_builtin (hS.keeps fun b o e => St.keep b o (St.bs b o e)).typeIs plainAttrs_fs slot_fs_isdisjoint type_fs_isdisjoint (hS.keeps fun b o e => St.keep b o (St.bs b o e)).noDict ?_
      walk_at "S"
      walk_at "S"
      refine slice_ss ?_
      repeat walk_at "S"
      refine ⟨x, _, _, _, _, _, rfl, rfl, rfl, by rw [sizeLine_eq]; omega, fun t' k h₁ hk₁ => ?_⟩
      rw [slice_nat hle hle']
      have St₁ := St.grow hk₁
      repeat walk_at "S"
      refine isdisjoint_fs hh (hS.keeps fun b o e => St₁.keep b o (St₁.bs b o e)) fun h₂ tk₂ hk₂ => ?_
      have St₂ := St₁.grow hk₂
      repeat walk_at "S"
      cases hall : ((x.cps.toList.drop pos).take (np - pos)).all (fun c => !S ⟨#[c]⟩) with
      | true =>
        rw [if_neg (by decide)]
        repeat walk_at "S"
        refine hQ np ?_ _ _ _ St₂.ext St₂.tab
        rw [hsk]; unfold untilTo; rw [hall]; rfl
      | false =>
        rw [if_pos (by decide)]
        walk_at "S"
        obtain ⟨cb, hcb, hScb⟩ := all_take hall
        have hbl : badAt x S pos < x.cps.size := (Array.getElem?_eq_some_iff.mp hcb).1
        refine wpAny_While ?_
        refine whileLoop_abs (UntilI G s outer h₀ x t1 a pos S) ?_ (x.length - pos) ?_
        · rintro n _ E₂ R₂ N₂ hR₂ hN₂ ⟨p, h, tk, m, rfl, St, hm1, hm2, ⟨t3, hm3⟩, rfl, hsk'⟩
          have hpl : p ≤ badAt x S pos := hsk' ▸ skipTo_ge _ _ _
          repeat walk_at "S"
          refine item_str_or hh (fitsSsize_of (N := 9223372036854775808) (by omega) (by omega) (Int.le_refl _)) (fun hout h' tk' e hx => ?_) (fun hlo hhi => ?_)
          · have : x.length = x.cps.size := rfl
            rcases hout with q | q <;> omega
          · have hlt : p < x.cps.size := by omega
            have hc : x.cps[p]? = some x.cps[p] := Array.getElem?_eq_getElem hlt
            have hi : Txt.item x (p : Int) = ⟨#[x.cps[p]]⟩ := item_meets (Int.natCast_nonneg _) (by simp)
            rw [hi]
            generalize x.cps[p] = c at hc ⊢
            repeat walk_at "S"
            refine notIn_fs (hS.keeps fun b o e => St.keep b o (St.bs b o e)) ?_
            repeat walk_at "S"
            cases hSc : S ⟨#[c]⟩ with
            | false =>
              rw [if_pos (by decide)]
              repeat walk_at "S"
              rename_i St'
              refine hN₂ (x.length - (p + 1)) _ ?_ ⟨p + 1, _, _, _, rfl, St', upd_off (by decide +kernel) hm1, upd_off (by decide +kernel) hm2, ⟨_, upd_here⟩, rfl, (skipTo_in hc (by simp [hSc])).trans hsk'⟩
              show x.cps.size - (p + 1) < x.cps.size - p
              omega
            | true =>
              have hpe : p = badAt x S pos := (skipTo_out hc (by simp [hSc])).symm.trans hsk'
              rw [if_neg (by decide)]
              repeat walk_at "S"
              refine hR₂ _ _ ?_
              repeat walk_at "S"
              refine raise_own (G := G) hh ?_
              refine F.sufE fun f' o' pm' doc' hm' ho' hd' hc' => ?_
              repeat walk_at "S"
              refine gl K St hm' ?_
              refine callWith_def hd' ?_
              have l1 : ("Found invalid character " : Str).length = 24 := by decide +kernel
              have l0 : Str.empty.length = 0 := rfl
              have lr := hR c hSc
              repeat walk_at "S"
              refine ⟨by simp only [Str.length_append, sizeLine_eq]; omega, ?_⟩
              repeat walk_at "S"
              refine item_str_or hh (fitsSsize_of (N := 9223372036854775808) (by omega) (by omega) (Int.le_refl _)) (fun hout h' tk' e hx => ?_) (fun hlo hhi => ?_)
              · have : x.length = x.cps.size := rfl
                rcases hout with q | q <;> omega
              have hi : Txt.item x (p : Int) = ⟨#[c]⟩ := item_meets (Int.natCast_nonneg _) (by simpa using hc)
              rw [hi]
              refine pyReprObj_str ?_ (by rw [sizeLine_eq]; omega)
              refine formatField_str (fun _ _ => ?_) (by rw [sizeLine_eq]; omega)
              refine ⟨by simp only [Str.length_append, sizeLine_eq]; omega, ?_⟩
              refine joinParts_nil ?_ (by simp only [Str.length_append, sizeLine_eq]; omega)
              repeat walk_at "S"
              refine ⟨St.keep _ _ (St.bs _ _ ho'), ?_⟩
              have hff := St.frames (env := envOf "skip_until" (fnScope (stAt 11)) s.heap.objs.size f cd) rfl
              refine suffixed_spec K (St.pre (env := envOf "skip_until" (fnScope (stAt 11)) s.heap.objs.size f cd) rfl) (by show A.depth + 1 + 5 < recursionLimit; omega) (by omega) (by omega) (by simp only [Str.length_append]; omega) ho' hd' hc' fun h₇ tk₇ e₇ X₇ T₇ N₇ => ?_
              obtain ⟨ta, tkk, g1, g2, g3, g4⟩ := id N₇
              have St₇ := St.call X₇ T₇
              refine ⟨e₇, ta, rfl, K.cls.keeps fun b o e => St₇.keep b o (St₇.bs b o e), g1, ?_⟩
              have X := Fly.of_err X₇ T₇ (let ⟨ps, eP, _⟩ := St.tab; ⟨_, eP⟩) N₇
              refine leave_new hfr' rfl hff X fun h₈ X => ?_
              refine hE' ?_ St X _
              have hg : x.cps.toList.getD (badAt x S pos) 0 = c := by
                rw [← hpe, List.getD_eq_getElem?_getD]
                have : x.cps.toList[p]? = some c := by simpa using hc
                rw [this]; rfl
              rw [hsk]; unfold untilTo; rw [hall, Str.empty_append, hg, hpe]; rfl
        · exact ⟨pos, _, _, _, rfl, St₂, hm1, hm2, ⟨_, hm3⟩, rfl, rfl⟩
end

section
open PySem PySem.W PyProof.Rows PySem.Calls
set_option maxRecDepth 100000
set_option maxHeartbeats 4000000

noncomputable def skipComment (x : Str) (pos : Nat) : Except Str Nat :=
  if x.cps[pos]? = some 35 then skipUntil x 10 (pos + 1) illegal false else .ok pos

theorem repr_illegal : ∀ k, illegal ⟨#[k]⟩ = true → (reprText ⟨#[k]⟩).length ≤ 100 := by
  intro k hk
  have hm : k ∈ (((List.range 32).filter (· != 9)) ++ [127]) := by
    unfold illegal inText at hk
    obtain ⟨c, hc, e⟩ := List.any_eq_true.mp hk
    have : k = c := by simpa using e
    exact this ▸ hc
  have : ∀ k ∈ (((List.range 32).filter (· != 9)) ++ [127]), (reprText ⟨#[k]⟩).length ≤ 100 := by decide +kernel
  exact this k hm
theorem repr_10 : (reprText ⟨#[10]⟩).length ≤ 100 := by decide +kernel
theorem repr_39 : (reprText ⟨#[39]⟩).length ≤ 100 := by decide +kernel

inductive CommentM (G : Glb) (s : Shared) (outer : List Env) (h₀ : Heap) (x : Str) (t1 : Tok) (pos : Nat) (fl : Flow) (s' : Shared) : Prop
  | mk (_ : fl = .next) (h : Heap) (tk : Nat) (m : Str → Option Value) (_ : s' = { s with heap := h, toks := tk }) (_ : Mine.St G s.heap outer s.heap.objs.size h₀ h m []) (_ : m "src" = some (.str x t1)) (_ : HasI m "pos" pos) (_ : ((x.length ≤ pos ∧ m "char" = some .none) ∨ ∃ c t, x.cps[pos]? = some c ∧ m "char" = some (.str ⟨#[c]⟩ t))) : CommentM G s outer h₀ x t1 pos fl s'

theorem skip_comment_spec {w : World} {A : Around} {E : Value → Shared → Prop} {s : Shared} {G : Glb} {outer : List Env} {f : Addr} {o : Obj} {pm cd doc : Value} {x : Str} {pos : Nat} {t1 t2 : Tok} {Q : Value → Shared → Prop}
    (K : G.Ok) (F : Fns w G) (hp : Pre G outer s.heap) (hfr : A.frames = some outer) (hroom : A.depth + 20 < recursionLimit) (hh : A.handled = none) (hz : x.length ≤ 100000) (hpos : pos ≤ x.length)
    (ho : G.base.get? f = some o) (hdata : o.data = .func (docDef "skip_comment" (fnParams (stAt 12)) (fnBody (stAt 12)) (fnScope (stAt 12)) pm cd doc)) (hcd : G.base.CodeRec cd "skip_comment")
    (hQ : ∀ n, skipComment x pos = .ok n → ∀ h' tk t, Ext (frs outer) G.P s.heap h' → G.Tab h' → Q (.int (n : Nat) t) { s with heap := h', toks := tk })
    (hE : ∀ M, skipComment x pos = .error M → ∀ h' tk e, Fly G (frs outer) s.heap h' e (.ref G.C) (some M) (some .none) → E (.ref e) { s with heap := h', toks := tk }) :
    wpAny (model pw w) A (call (.ref f) [.str x t1, .int pos t2]) Q E s := by
  have hP : ∃ o, s.heap.get? G.P = some o := let ⟨ps, eP, _⟩ := hp.tab; ⟨_, eP⟩
  refine wpAny_call (enterDef (binds := [("src", .str x t1), ("pos", .int pos t2)]) K hp (by omega) ho hdata hcd ?_ ?_)
  · rfl
  · intro h₀ h₁ St hin
    have hfr' : (A.deeper (envOf "skip_comment" (fnScope (stAt 12)) s.heap.objs.size f cd)).frames = some (envOf "skip_comment" (fnScope (stAt 12)) s.heap.objs.size f cd :: outer) := Around.frames_deeper hfr
    have hz' : x.cps.size ≤ 100000 := hz
    refine wpAny_execs_cons (wpAny_mono (Q := CommentM G s outer h₀ x t1 pos) ?_ ?_ (fun _ _ x => x))
    · refine wpAny_Try_except ?_
      repeat walk_at "S"
      refine item_str_or hh (fitsSsize_of (N := 9223372036854775808) (by omega) (by omega) (Int.le_refl _)) (fun hout h' tk' e hx => ?_) (fun hlo hhi => ?_)
      · have hout : x.length ≤ pos := by rcases hout with q | q <;> omega
        have hff := St.frames (env := envOf "skip_comment" (fnScope (stAt 12)) s.heap.objs.size f cd) rfl
        have X := Fly.of_new (G := G) (S := frs (envOf "skip_comment" (fnScope (stAt 12)) s.heap.objs.size f cd :: outer)) hx St.tab
        refine note_new hfr' rfl hff X fun h₂ X => ?_
        refine flight_set (f := none) X fun h₄ X => ?_
        have St₄ := St.call X.ext X.tab
        refine wpAny_handleBy_builtin (X := "IndexError") (T := "IndexError") (b := true) exc_IndexError meta_IndexError self_IndexError ?_
        repeat walk_at "S"
        refine ⟨rfl, ?_, ?_⟩
        · obtain ⟨oe, _, _, he, hc, _⟩ := X.exc
          exact ⟨oe, he, hc⟩
        · rw [if_pos rfl]
          refine flight_set (f := none) X fun h₅ X => ?_
          have St₅ := St.call X.ext X.tab
          repeat walk_at "S"
          rename_i St₆
          exact ⟨rfl, _, _, _, rfl, St₆, upd_off (by decide +kernel) rfl, ⟨_, upd_off (by decide +kernel) rfl⟩, .inl ⟨hout, upd_here⟩⟩
      · have hlt : pos < x.cps.size := by
          have : (pos : Int) < (x.cps.size : Int) := hhi
          omega
        have hc : x.cps[pos]? = some x.cps[pos] := Array.getElem?_eq_getElem hlt
        have hi : Txt.item x (pos : Int) = ⟨#[x.cps[pos]]⟩ := item_meets (Int.natCast_nonneg _) (by simp)
        rw [hi]
        generalize x.cps[pos] = c at hc ⊢
        repeat walk_at "S"
        rename_i St₆
        exact ⟨rfl, _, _, _, rfl, St₆, upd_off (by decide +kernel) rfl, ⟨_, upd_off (by decide +kernel) rfl⟩, .inr ⟨c, _, hc, upd_here⟩⟩
    · rintro _ _ ⟨rfl, h, tk, m, rfl, St, hm1, ⟨tp, hm2⟩, hor⟩
      dsimp only
      rcases hor with ⟨hge, hm3⟩ | ⟨c, tc, hc, hm3⟩
      · have hn : x.cps[pos]? = none := Array.getElem?_eq_none hge
        repeat walk_at "S"
        rw [if_neg (by decide)]
        repeat walk_at "S"
        exact hQ pos (by unfold skipComment; rw [hn]; rfl) _ _ _ St.ext St.tab
      · repeat walk_at "S"
        have hlt : pos < x.cps.size := (Array.getElem?_eq_some_iff.mp hc).1
        have h35 : ("#" : Str) = ⟨#[35]⟩ := by decide +kernel
        rw [h35]
        by_cases hcc : c = 35
        · subst hcc
          rw [if_pos (by decide)]
          repeat walk_at "S"
          refine wpAny_Call_Name_kw ?_
          refine F.skip_until.elim fun f' o' pm' cd' doc' hm' ho' hd' hc' => ?_
          obtain ⟨a, hma, hSa⟩ := F.illC
          refine gl K St hm' ?_
          refine callDefKw hd' ?_
          repeat walk_at "S"
          refine gl K St hma ?_
          repeat walk_at "S"
          refine ⟨St.keep _ _ (St.bs _ _ ho'), ?_⟩
          have hff := St.frames (env := envOf "skip_comment" (fnScope (stAt 12)) s.heap.objs.size f cd) rfl
          refine skip_until_spec (c := 10) (pos := pos + 1) (S := illegal) (eof := false) (outer := envOf "skip_comment" (fnScope (stAt 12)) s.heap.objs.size f cd :: outer) K F (St.pre rfl) hfr' (by show A.depth + 1 + 10 < recursionLimit; omega) hh hz hlt hSa repr_10 repr_illegal ho' hd' hc' ?_ ?_
          · intro n hn h' tk' t' X T
            have St' := St.call X T
            exact hQ n (by unfold skipComment; rw [hc, if_pos rfl]; exact hn) _ _ _ St'.ext St'.tab
          · intro M hM h' tk' e X
            refine leave_none hfr' rfl hff X fun h₈ X => ?_
            exact hE M (by unfold skipComment; rw [hc, if_pos rfl]; exact hM) _ _ _ (X.out St hP)
        · rw [if_neg (by simpa using hcc)]
          repeat walk_at "S"
          exact hQ pos (by unfold skipComment; rw [hc, if_neg (by simpa using hcc)]) _ _ _ St.ext St.tab
end

section
open PySem PySem.W PyProof.Rows PySem.Calls
set_option maxRecDepth 100000
set_option maxHeartbeats 4000000

/-- one turn of the loop -/
noncomputable def wsTurn (x : Str) (pos : Nat) : Except Str Nat := skipComment x (skipTo x wsNl pos)
/-- the loop, with fuel -/
noncomputable def skipWs (x : Str) : Nat → Nat → Except Str Nat
  | 0, pos => .ok pos
  | n + 1, pos => match wsTurn x pos with
    | .error M => .error M
    | .ok p => if p = pos then .ok p else skipWs x n p

theorem skipTo_le {x : Str} {S : Str → Bool} {p : Nat} (hp : p ≤ x.length) : skipTo x S p ≤ x.length := by
  unfold skipTo
  have := (List.takeWhile_sublist (l := x.cps.toList.drop p) (fun c => S ⟨#[c]⟩)).length_le
  simp only [List.length_drop, Array.length_toList] at this
  have : x.length = x.cps.size := rfl
  omega
theorem untilTo_ok {x : Str} {S : Str → Bool} {pos np n : Nat} (h : untilTo x pos S np = .ok n) : n = np := by
  unfold untilTo at h
  split at h
  · cases h; rfl
  · cases h
theorem skipComment_ok {x : Str} {p n : Nat} (hp : p ≤ x.length) (h : skipComment x p = .ok n) : p ≤ n ∧ n ≤ x.length := by
  unfold skipComment at h
  split at h
  · rename_i hc
    have hlt : p < x.cps.size := (Array.getElem?_eq_some_iff.mp hc).1
    unfold skipUntil at h
    split at h
    · rw [if_neg (by decide)] at h
      rw [untilTo_ok h]
      exact ⟨hp, Nat.le_refl _⟩
    · rename_i np hi
      rw [untilTo_ok h]
      have := indexFrom_le hi
      omega
  · cases h; exact ⟨Nat.le_refl _, hp⟩
theorem wsTurn_ok {x : Str} {p n : Nat} (hp : p ≤ x.length) (h : wsTurn x p = .ok n) : p ≤ n ∧ n ≤ x.length := by
  have h1 := skipTo_ge x wsNl p
  have h2 := skipComment_ok (skipTo_le hp) h
  omega

theorem skipWs_fuel {x : Str} : ∀ (d p k : Nat), x.length - p ≤ d → p ≤ x.length → x.length + 1 - p ≤ k → skipWs x k p = skipWs x (x.length + 1 - p) p := by
  intro d
  induction d with
  | zero =>
    intro p k hd hp hk
    obtain ⟨k, rfl⟩ : ∃ k', k = k' + 1 := ⟨k - 1, by omega⟩
    rw [show x.length + 1 - p = (x.length - p) + 1 by omega]
    unfold skipWs
    cases hw : wsTurn x p with
    | error M => rfl
    | ok n =>
      have := wsTurn_ok hp hw
      dsimp only
      rw [if_pos (by omega), if_pos (by omega)]
  | succ d ih =>
    intro p k hd hp hk
    obtain ⟨k, rfl⟩ : ∃ k', k = k' + 1 := ⟨k - 1, by omega⟩
    rw [show x.length + 1 - p = (x.length - p) + 1 by omega]
    unfold skipWs
    cases hw : wsTurn x p with
    | error M => rfl
    | ok n =>
      have := wsTurn_ok hp hw
      dsimp only
      by_cases hnp : n = p
      · rw [if_pos hnp, if_pos hnp]
      · rw [if_neg hnp, if_neg hnp, ih n k (by omega) (by omega) (by omega), ih n (x.length - p) (by omega) (by omega) (by omega)]

inductive WsI (G : Glb) (s : Shared) (outer : List Env) (h₀ : Heap) (x : Str) (t1 : Tok) (pos : Nat) (n : Nat) (s' : Shared) : Prop
  | mk (p : Nat) (h : Heap) (tk : Nat) (m : Str → Option Value) (_ : s' = { s with heap := h, toks := tk }) (_ : Mine.St G s.heap outer s.heap.objs.size h₀ h m []) (_ : m "src" = some (.str x t1)) (_ : HasI m "pos" p) (_ : p ≤ x.length) (_ : n = x.length + 1 - p) (_ : skipWs x (x.length + 1 - p) p = skipWs x (x.length + 1 - pos) pos) : WsI G s outer h₀ x t1 pos n s'

theorem skip_ws_spec {w : World} {A : Around} {E : Value → Shared → Prop} {s : Shared} {G : Glb} {outer : List Env} {f : Addr} {o : Obj} {pm cd doc : Value} {x : Str} {pos : Nat} {t1 t2 : Tok} {Q : Value → Shared → Prop}
    (K : G.Ok) (F : Fns w G) (hp : Pre G outer s.heap) (hfr : A.frames = some outer) (hroom : A.depth + 30 < recursionLimit) (hh : A.handled = none) (hz : x.length ≤ 100000) (hpos : pos ≤ x.length)
    (ho : G.base.get? f = some o) (hdata : o.data = .func (docDef "skip_comments_and_array_ws" (fnParams (stAt 13)) (fnBody (stAt 13)) (fnScope (stAt 13)) pm cd doc)) (hcd : G.base.CodeRec cd "skip_comments_and_array_ws")
    (hQ : ∀ n, skipWs x (x.length + 1 - pos) pos = .ok n → n ≤ x.length → ∀ h' tk t, Ext (frs outer) G.P s.heap h' → G.Tab h' → Q (.int (n : Nat) t) { s with heap := h', toks := tk })
    (hE : ∀ M, skipWs x (x.length + 1 - pos) pos = .error M → ∀ h' tk e, Fly G (frs outer) s.heap h' e (.ref G.C) (some M) (some .none) → E (.ref e) { s with heap := h', toks := tk }) :
    wpAny (model pw w) A (call (.ref f) [.str x t1, .int pos t2]) Q E s := by
  have hP : ∃ o, s.heap.get? G.P = some o := let ⟨ps, eP, _⟩ := hp.tab; ⟨_, eP⟩
  refine wpAny_call (enterDef (binds := [("src", .str x t1), ("pos", .int pos t2)]) K hp (by omega) ho hdata hcd ?_ ?_)
  · rfl
  · intro h₀ h₁ St hin
    have hfr' : (A.deeper (envOf "skip_comments_and_array_ws" (fnScope (stAt 13)) s.heap.objs.size f cd)).frames = some (envOf "skip_comments_and_array_ws" (fnScope (stAt 13)) s.heap.objs.size f cd :: outer) := Around.frames_deeper hfr
    have hz' : x.cps.size ≤ 100000 := hz
    walk_at "S"
    refine wpAny_While ?_
    refine codeAny_whileLoop (WsI G s outer h₀ x t1 pos) ?_ (x.length + 1 - pos) ?_
    · rintro n _ ⟨p, h, tk, m, rfl, St, hm1, ⟨t3, hm3⟩, hple, rfl, hsk⟩
      refine F.skip_chars.elim fun f' o' pm' cd' doc' hm' ho' hd' hc' => ?_
      refine F.skip_comment.elim fun f₂ o₂ pm₂ cd₂ doc₂ hm₂ ho₂ hd₂ hc₂ => ?_
      obtain ⟨a, hma, hSa⟩ := F.ws
      have hss : x.length + 1 - p = (x.length - p) + 1 := by omega
      repeat walk_at "S"
      rw [if_pos rfl]
      repeat walk_at "S"
      rename_i St
      refine gl K St hm' ?_
      refine callWith_def hd' ?_
      repeat walk_at "S"
      refine gl K St hma ?_
      repeat walk_at "S"
      refine ⟨St.keep _ _ (St.bs _ _ ho'), ?_⟩
      refine skip_chars_spec (S := wsNl) (outer := envOf "skip_comments_and_array_ws" (fnScope (stAt 13)) s.heap.objs.size f cd :: outer) K (St.pre rfl) hfr' (by show A.depth + 1 < recursionLimit; omega) hh (by omega) (by omega) hSa ho' hd' hc' fun h' tk' t' X T => ?_
      have St₂ := St.call X T
      refine tk_ (s := s) fun tk => ?_
      dsimp only
      repeat walk_at "S"
      rename_i St₃
      refine gl K St₃ hm₂ ?_
      refine callWith_def hd₂ ?_
      repeat walk_at "S"
      refine ⟨St₃.keep _ _ (St₃.bs _ _ ho₂), ?_⟩
      have hff := St₃.frames (env := envOf "skip_comments_and_array_ws" (fnScope (stAt 13)) s.heap.objs.size f cd) rfl
      refine skip_comment_spec (outer := envOf "skip_comments_and_array_ws" (fnScope (stAt 13)) s.heap.objs.size f cd :: outer) K F (St₃.pre rfl) hfr' (by show A.depth + 1 + 20 < recursionLimit; omega) hh hz (skipTo_le hple) ho₂ hd₂ hc₂ ?_ ?_
      · intro n hn h' tk' t' X T
        have St₄ := St₃.call X T
        have hn' : wsTurn x p = .ok n := hn
        have hb := wsTurn_ok hple hn'
        refine tk_ (s := s) fun tk => ?_
        dsimp only
        repeat walk_at "S"
        rename_i St₅
        by_cases hnp : n = p
        · subst hnp
          rw [if_pos (by simp)]
          repeat walk_at "S"
          refine hQ n ?_ hb.2 _ _ _ St₅.ext St₅.tab
          rw [← hsk, hss]
          rw [skipWs, hn']; exact if_pos rfl
        · rw [if_neg (by simp; omega)]
          repeat walk_at "S"
          refine ⟨x.length + 1 - n, by omega, n, _, _, _, rfl, St₅, ?_, ⟨_, upd_here⟩, hb.2, rfl, ?_⟩
          · walk_at "v"
          · rw [← hsk, hss]
            rw [show skipWs x (x.length - p + 1) p = skipWs x (x.length - p) n by rw [skipWs, hn']; exact if_neg hnp]
            exact (skipWs_fuel _ n (x.length - p) (Nat.le_refl _) hb.2 (by omega)).symm
      · intro M hM h' tk' e X
        unfold notedBy
        refine note_none hfr' rfl hff X fun h₂ X => ?_
        refine came_back rfl X fun h₃ X => ?_
        refine leave_same rfl X fun h₈ X => ?_
        refine hE M ?_ _ _ _ (X.out St₃ hP)
        rw [← hsk, hss, skipWs]
        rw [show wsTurn x p = .error M from hM]
    · exact ⟨pos, _, _, _, rfl, St, rfl, ⟨_, rfl⟩, hpos, rfl, rfl⟩

noncomputable def parseLit (x : Str) (pos : Nat) : Except Str (Nat × Str) :=
  match skipUntil x 39 (pos + 1) illegal true with
  | .error M => .error M
  | .ok p => .ok (p + 1, ⟨((x.cps.toList.drop (pos + 1)).take (p - (pos + 1))).toArray⟩)

theorem skipUntil_ok {x : Str} {c p n : Nat} {S : Str → Bool} {b : Bool} (hp : p ≤ x.length) (h : skipUntil x c p S b = .ok n) : p ≤ n ∧ n ≤ x.length := by
  unfold skipUntil at h
  split at h
  · split at h
    · cases h
    · rw [untilTo_ok h]
      exact ⟨hp, Nat.le_refl _⟩
  · rename_i np hi
    rw [untilTo_ok h]
    have := indexFrom_le hi
    omega

theorem parse_lit_spec {w : World} {A : Around} {E : Value → Shared → Prop} {s : Shared} {G : Glb} {outer : List Env} {f : Addr} {o : Obj} {pm cd doc : Value} {x : Str} {pos : Nat} {t1 t2 : Tok} {Q : Value → Shared → Prop}
    (K : G.Ok) (F : Fns w G) (hp : Pre G outer s.heap) (hfr : A.frames = some outer) (hroom : A.depth + 30 < recursionLimit) (hh : A.handled = none) (hz : x.length ≤ 100000) (hpos : pos < x.length)
    (ho : G.base.get? f = some o) (hdata : o.data = .func (docDef "parse_literal_str" (fnParams (stAt 14)) (fnBody (stAt 14)) (fnScope (stAt 14)) pm cd doc)) (hcd : G.base.CodeRec cd "parse_literal_str")
    (hQ : ∀ n y, parseLit x pos = .ok (n, y) → n ≤ x.length + 1 → ∀ h' tk t t' a, Ext (frs outer) G.P s.heap h' → G.Tab h' → IsTup h' a #[.int (n : Nat) t, .str y t'] → Q (.ref a) { s with heap := h', toks := tk })
    (hE : ∀ M, parseLit x pos = .error M → ∀ h' tk e, Fly G (frs outer) s.heap h' e (.ref G.C) (some M) (some .none) → E (.ref e) { s with heap := h', toks := tk }) :
    wpAny (model pw w) A (call (.ref f) [.str x t1, .int pos t2]) Q E s := by
  have hP : ∃ o, s.heap.get? G.P = some o := let ⟨ps, eP, _⟩ := hp.tab; ⟨_, eP⟩
  refine wpAny_call (enterDef (binds := [("src", .str x t1), ("pos", .int pos t2)]) K hp (by omega) ho hdata hcd ?_ ?_)
  · rfl
  · intro h₀ h₁ St hin
    have hfr' : (A.deeper (envOf "parse_literal_str" (fnScope (stAt 14)) s.heap.objs.size f cd)).frames = some (envOf "parse_literal_str" (fnScope (stAt 14)) s.heap.objs.size f cd :: outer) := Around.frames_deeper hfr
    have hz' : x.cps.size ≤ 100000 := hz
    refine F.skip_until.elim fun f' o' pm' cd' doc' hm' ho' hd' hc' => ?_
    obtain ⟨a, hma, hSa⟩ := F.illL
    repeat walk_at "S"
    rename_i St₁ h₂ tk₂ St
    refine wpAny_Call_Name_kw ?_
    refine gl K St hm' ?_
    refine callDefKw hd' ?_
    repeat walk_at "S"
    refine gl K St hma ?_
    repeat walk_at "S"
    refine ⟨St.keep _ _ (St.bs _ _ ho'), ?_⟩
    have hff := St.frames (env := envOf "parse_literal_str" (fnScope (stAt 14)) s.heap.objs.size f cd) rfl
    refine skip_until_spec (c := 39) (pos := pos + 1) (S := illegal) (eof := true) (outer := envOf "parse_literal_str" (fnScope (stAt 14)) s.heap.objs.size f cd :: outer) K F (St.pre rfl) hfr' (by show A.depth + 1 + 10 < recursionLimit; omega) hh hz hpos hSa repr_39 repr_illegal ho' hd' hc' ?_ ?_
    · intro n hn h' tk' t' X T
      have hb := skipUntil_ok hpos hn
      have St' := St.call X T
      refine tk_ (s := s) fun tk => ?_
      dsimp only
      repeat walk_at "S"
      rename_i St₅
      refine slice_ss ?_
      repeat walk_at "S"
      refine ⟨x, _, _, _, _, _, rfl, rfl, rfl, by rw [sizeLine_eq]; omega, fun t' k h₆ hk₆ => ?_⟩
      have hq : ((pos + 1 : Nat) : Int) = (pos : Int) + 1 := rfl
      rw [← hq, slice_nat hb.1 hb.2]
      have St₆ := St₅.grow hk₆
      repeat walk_at "S"
      refine mkTup St₆ (by simp) fun a₇ h₇ ha₇ hk₇ St₇ => ?_
      exact hQ (n + 1) _ (by unfold parseLit; rw [hn]) (by omega) _ _ _ _ _ St₇.ext St₇.tab ⟨_, St₇.get (.head _), rfl, 0, rfl⟩
    · intro M hM h' tk' e X
      refine leave_none hfr' rfl hff X fun h₈ X => ?_
      exact hE M (by unfold parseLit; rw [hM]) _ _ _ (X.out St hP)
end

section
open PySem PySem.W PyProof.Rows PySem.Calls
set_option maxRecDepth 100000
set_option maxHeartbeats 4000000

noncomputable def whBody : Stmt → List Stmt | .While _ b _ _ => b | _ => []
noncomputable def tryHs : Stmt → List ExceptHandler | .Try _ h _ _ _ => h | _ => []
noncomputable abbrev readTry : Stmt := nthS (whBody (nthS (fnBody (stAt 21)) 2)) 0

/-- what _law_read finds, with fuel -/
noncomputable def readGo (x : Str) : Nat → Nat → List (Str × Str) → List (Str × Str) × Str
  | 0, _, found => (found, "")
  | n + 1, place, found => match skipWs x (x.length + 1 - place) place with
    | .error M => (found, M)
    | .ok p => if x.length ≤ p then (found, "whole") else match parseLit x p with
      | .error M => (found, M)
      | .ok (q, y) => readGo x n q (found ++ [(errText "text" x p, y)])
noncomputable def pairsData (l : List (Str × Str)) : List PyData := l.map fun p => .tuple [.str p.1, .str p.2]
noncomputable def readData (r : List (Str × Str) × Str) : PyData := .tuple [.list (pairsData r.1), .str r.2]

theorem parseLit_ok {x : Str} {p n : Nat} {y : Str} (hp : p < x.length) (h : parseLit x p = .ok (n, y)) : p < n ∧ n ≤ x.length := by
  unfold parseLit at h
  split at h
  · cases h
  · rename_i q hq
    have e : q + 1 = n := by injection h with h; exact (Prod.mk.inj h).1
    unfold skipUntil at hq
    split at hq
    · rw [if_pos rfl] at hq; cases hq
    · rename_i np hi
      have := indexFrom_le hi
      have := untilTo_ok hq
      omega

theorem Fly.errAt {G : Glb} {S : List Addr} {hb h : Heap} {e C : Addr} {M : Str} {fl : Option Value} (X : Fly G S hb h e (.ref C) (some M) fl) : ErrAt h C e M := by
  obtain ⟨oe, vs, a0, he, hc, hd, h0, ⟨ta, tk, rfl, ht⟩, _⟩ := X.exc
  exact ⟨oe, vs, ta, tk, he, hc, hd, h0, ht⟩
theorem ErrAt.keeps {h h' : Heap} {C e : Addr} {m : Str} (x : ErrAt h C e m) (k : ∀ b o, h.get? b = some o → h'.get? b = some o) : ErrAt h' C e m := by
  obtain ⟨o, vs, ta, tk, ho, hc, hd, h0, ht⟩ := x
  exact ⟨o, vs, ta, tk, k _ _ ho, hc, hd, h0, ht.keeps k⟩

/-- the handler -/
theorem read_handler {w : World} {A : Around} {E : Value → Shared → Prop} {s : Shared} {G : Glb} {hin : Heap} {outer : List Env} {L f : Addr} {h₀ hb h : Heap} {m : Str → Option Value} {cd : Value} {D : Addr} {k tk : Nat} {items : List Value} {ds : List PyData} {e : Addr} {M : Str} {fl' : Value} {Q : Flow → Shared → Prop}
    (K : G.Ok) (F : Fns w G) (hu : A.units + 10 < cLine) (St : St G hin outer L h₀ hb m [(D, lst k items)]) (hm : m "found" = some (.ref D)) (hD : hin.objs.size ≤ D) (hI : RdAll (cut hin.objs.size h₀) items ds)
    (X : Fly G (L :: frs outer) hb h e (.ref G.C) (some M) (some fl')) 
    (hQ : ∀ h' tk a, Ext (frs outer) G.P hin h' → G.Tab h' → Rd (cut hin.objs.size h') (.ref a) (.tuple [.list ds, .str M]) → Q (.ret (.ref a)) { s with heap := h', toks := tk }) :
    wpAny (model pw w) A (handleBy (.ref e) (envOf "_law_read" (fnScope (stAt 21)) L f cd) (tryHs readTry)) Q E { s with heap := h, toks := tk } := by
  have St' := St.call X.ext X.tab
  refine handle_own (C := G.C) ?_
  refine gl K St' K.clsN ?_
  refine ⟨rfl, K.cls.keeps fun b o e => St'.keep b o (St'.bs b o e), ?_, ?_⟩
  · obtain ⟨oe, vs, a0, he, hc, _⟩ := X.exc
    exact ⟨oe, he, hc⟩
  · refine flight_set (f := none) X fun h₅ X => ?_
    have St₅ := St.call X.ext X.tab
    have Er := X.errAt
    refine stoK St₅ fun h₆ tk₆ St₆ hk₆ => ?_
    have Er : ErrAt h₆ G.C e M := by
      obtain ⟨o, vs, ta, tk, ho, hc, hd, h0, ot, hto, htc, n, htd⟩ := Er
      obtain ⟨oL, es, ep, eL, dL, _⟩ := St₅.ns
      refine ⟨o, vs, ta, tk, hk₆ _ _ (fun q => ?_) ho, hc, hd, h0, ot, hk₆ _ _ (fun q => ?_) hto, htc, n, htd⟩
      · rw [q, eL] at ho; cases ho; rw [dL] at hd; cases hd
      · rw [q, eL] at hto; cases hto; rw [dL] at htd; cases htd
    repeat walk_at "S"
    refine str_of_own (by show A.units + 2 < cLine; omega) (K.cls.keeps fun b o e => St₆.keep b o (St₆.bs b o e)) Er fun tk => ?_
    repeat walk_at "S"
    refine mkTup St₆ (by simp) fun a₇ h₇ ha₇ hk₇ St₇ => ?_
    refine goes_St St₇ fun h₈ m₈ tk₈ St₈ => ?_
    refine hQ _ _ _ St₈.ext St₈.tab ?_
    have hn : hin.objs.size ≤ a₇ := ha₇ ▸ St₆.big
    refine Rd.tuple (cut_get hn (St₈.get (.head _))) (.cons (Rd.list (cut_get hD (St₈.get (.tail _ (.head _)))) (hI.keeps (cut_keeps St₈.keep))) (.cons .str .nil))

theorem readGo_more {x : Str} {n place : Nat} {found : List (Str × Str)} {p q : Nat} {y : Str} (h1 : skipWs x (x.length + 1 - place) place = .ok p) (h2 : ¬ x.length ≤ p) (h3 : parseLit x p = .ok (q, y)) :
    readGo x (n + 1) place found = readGo x n q (found ++ [(errText "text" x p, y)]) := by
  rw [readGo, h1]
  dsimp only
  rw [if_neg h2, h3]
theorem skipWs_ge {x : Str} : ∀ {k p n : Nat}, p ≤ x.length → skipWs x k p = .ok n → p ≤ n
  | 0, p, n, _, h => by cases h; exact Nat.le_refl _
  | k + 1, p, n, hp, h => by
    rw [skipWs] at h
    cases hw : wsTurn x p with
    | error M => rw [hw] at h; cases h
    | ok q =>
      rw [hw] at h
      dsimp only at h
      have := wsTurn_ok hp hw
      split at h
      · cases h; omega
      · have := skipWs_ge this.2 h
        omega

theorem skipWs_le {x : Str} : ∀ {k p n : Nat}, p ≤ x.length → skipWs x k p = .ok n → n ≤ x.length
  | 0, p, n, hp, h => by cases h; exact hp
  | k + 1, p, n, hp, h => by
    rw [skipWs] at h
    cases hw : wsTurn x p with
    | error M => rw [hw] at h; cases h
    | ok q =>
      rw [hw] at h
      dsimp only at h
      have := wsTurn_ok hp hw
      split at h
      · cases h; exact this.2
      · exact skipWs_le this.2 h
theorem readGo_fuel {x : Str} : ∀ (d p k : Nat) (found : List (Str × Str)), x.length - p ≤ d → p ≤ x.length → x.length + 1 - p ≤ k → readGo x k p found = readGo x (x.length + 1 - p) p found := by
  intro d
  induction d with
  | zero =>
    intro p k found hd hp hk
    obtain ⟨k, rfl⟩ : ∃ k', k = k' + 1 := ⟨k - 1, by omega⟩
    conv => rhs; rw [show x.length + 1 - p = (x.length - p) + 1 by omega]
    unfold readGo
    cases hw : skipWs x (x.length + 1 - p) p with
    | error M => rfl
    | ok n =>
      have := skipWs_ge hp hw
      dsimp only
      rw [if_pos (by omega), if_pos (by omega)]
  | succ d ih =>
    intro p k found hd hp hk
    obtain ⟨k, rfl⟩ : ∃ k', k = k' + 1 := ⟨k - 1, by omega⟩
    conv => rhs; rw [show x.length + 1 - p = (x.length - p) + 1 by omega]
    unfold readGo
    cases hw : skipWs x (x.length + 1 - p) p with
    | error M => rfl
    | ok n =>
      have := skipWs_ge hp hw
      dsimp only
      by_cases hn : x.length ≤ n
      · rw [if_pos hn, if_pos hn]
      · rw [if_neg hn, if_neg hn]
        cases hq : parseLit x n with
        | error M => rfl
        | ok r =>
          obtain ⟨q, y⟩ := r
          have := parseLit_ok (by omega) hq
          dsimp only
          rw [ih q k _ (by omega) (by omega) (by omega), ih q (x.length - p) _ (by omega) (by omega) (by omega)]

inductive ReadI (G : Glb) (s : Shared) (outer : List Env) (x : Str) (t1 : Tok) (D : Addr) (n : Nat) (s' : Shared) : Prop
  | mk (p : Nat) (h h₀ : Heap) (tk k : Nat) (m : Str → Option Value) (items : List Value) (found : List (Str × Str)) (_ : s' = { s with heap := h, toks := tk }) (_ : Mine.St G s.heap outer s.heap.objs.size h₀ h m [(D, lst k items)]) (_ : m "document" = some (.str x t1)) (_ : m "found" = some (.ref D)) (_ : HasI m "place" p) (_ : p ≤ x.length) (_ : found.length ≤ p) (_ : RdAll (cut s.heap.objs.size h₀) items (pairsData found)) (_ : n = x.length + 1 - p) (_ : readGo x (x.length + 1 - p) p found = readGo x (x.length + 1) 0 []) : ReadI G s outer x t1 D n s'

theorem read_spec {w : World} {A : Around} {E : Value → Shared → Prop} {s : Shared} {G : Glb} {outer : List Env} {f : Addr} {o : Obj} {pm cd doc : Value} {x : Str} {t1 : Tok} {Q : Value → Shared → Prop}
    (K : G.Ok) (F : Fns w G) (hp : Pre G outer s.heap) (hfr : A.frames = some outer) (hroom : A.depth + 40 < recursionLimit) (hu : A.units + 20 < cLine) (hh : A.handled = none) (hz : x.length ≤ 100000)
    (ho : G.base.get? f = some o) (hdata : o.data = .func (docDef "_law_read" (fnParams (stAt 21)) (fnBody (stAt 21)) (fnScope (stAt 21)) pm cd doc)) (hcd : G.base.CodeRec cd "_law_read")
    (hQ : ∀ h' tk a, Ext (frs outer) G.P s.heap h' → G.Tab h' → Rd (cut s.heap.objs.size h') (.ref a) (readData (readGo x (x.length + 1) 0 [])) → Q (.ref a) { s with heap := h', toks := tk }) :
    wpAny (model pw w) A (call (.ref f) [.str x t1]) Q E s := by
  have hP : ∃ o, s.heap.get? G.P = some o := let ⟨ps, eP, _⟩ := hp.tab; ⟨_, eP⟩
  refine wpAny_call (enterPure (binds := [("document", .str x t1)]) K hp (by omega) ho hdata hcd ?_ ?_)
  · rfl
  · intro E₁ h₀ h₁ St hin
    have hfr' : (A.deeper (envOf "_law_read" (fnScope (stAt 21)) s.heap.objs.size f cd)).frames = some (envOf "_law_read" (fnScope (stAt 21)) s.heap.objs.size f cd :: outer) := Around.frames_deeper hfr
    have hz' : x.cps.size ≤ 100000 := hz
    repeat walk_at "S"
    refine mkList St (by simp) fun D h₂ hD hk₂ St₂ => ?_
    have hDn : s.heap.objs.size ≤ D := hD ▸ St.big
    repeat walk_at "S"
    rename_i St₃
    refine wpAny_While ?_
    refine whileLoop_abs (ReadI G s outer x t1 D) ?_ (x.length + 1 - 0) ?_
    · clear St₃ St₂ hk₂ hD St hin
      rintro n _ E₂ R₂ N₂ hR₂ hN₂ ⟨p, h, h₀, tk, k, m, items, found, rfl, St, hm1, hm2, ⟨t3, hm3⟩, hple, hfl, hI, rfl, hrd⟩
      refine F.skip_ws.elim fun f' o' pm' cd' doc' hm' ho' hd' hc' => ?_
      refine F.sufE fun f₂ o₂ pm₂ doc₂ hm₂ ho₂ hd₂ hc₂ => ?_
      refine F.parse_lit.elim fun f₃ o₃ pm₃ cd₃ doc₃ hm₃ ho₃ hd₃ hc₃ => ?_
      have hss : x.length + 1 - p = (x.length - p) + 1 := by omega
      have hlen := hI.length
      have hlen' : (pairsData found).length = found.length := by simp [pairsData]
      repeat walk_at "S"
      rw [if_pos rfl]
      walk_at "S"
      refine wpAny_Try_except ?_
      repeat walk_at "S"
      refine gl K St hm' ?_
      refine callWith_def hd' ?_
      repeat walk_at "S"
      refine ⟨St.keep _ _ (St.bs _ _ ho'), ?_⟩
      have hff := St.frames (env := envOf "_law_read" (fnScope (stAt 21)) s.heap.objs.size f cd) rfl
      refine skip_ws_spec (outer := envOf "_law_read" (fnScope (stAt 21)) s.heap.objs.size f cd :: outer) K F (St.pre rfl) hfr' (by show A.depth + 1 + 30 < recursionLimit; omega) hh hz hple ho' hd' hc' ?_ ?_
      · intro p₁ hp₁ hp₁le h' tk' t' X T
        have hge := skipWs_ge hple hp₁
        have St₁ := St.call X T
        refine tk_ (s := s) fun tk => ?_
        dsimp only
        repeat walk_at "S"
        rename_i St₂
        refine PyProof.Rows.len_str (by omega) ?_
        repeat walk_at "S"
        refine split_dec (fun hge' => ?_) (fun hlt => ?_)
        · repeat walk_at "S"
          refine mkTup St₂ (by simp) fun a₇ h₇ ha₇ hk₇ St₇ => ?_
          have e : readGo x (x.length + 1) 0 [] = (found, ("whole" : Str)) := by
            rw [← hrd, hss, readGo, hp₁]
            dsimp only
            rw [if_pos (by omega)]
          refine hR₂ _ _ ?_
          refine hQ _ _ _ St₇.ext St₇.tab ?_
          rw [e]
          exact Rd.tuple (cut_get (ha₇ ▸ St₂.big) (St₇.get (.head _))) (.cons (Rd.list (cut_get hDn (St₇.get (.tail _ (.head _)))) (hI.keeps (cut_keeps St₇.keep))) (.cons .str .nil))
        · have hlt : p₁ < x.length := by omega
          repeat walk_at "S"
          refine gl K St₂ hm₂ ?_
          refine callWith_def hd₂ ?_
          repeat walk_at "S"
          refine ⟨St₂.keep _ _ (St₂.bs _ _ ho₂), ?_⟩
          refine suffixed_spec (outer := envOf "_law_read" (fnScope (stAt 21)) s.heap.objs.size f cd :: outer) K (St₂.pre rfl) (by show A.depth + 1 + 5 < recursionLimit; omega) (by omega) (by omega) (by decide +kernel) ho₂ hd₂ hc₂ fun h₄ tk₄ e₄ X₄ T₄ N₄ => ?_
          refine St₂.anewK X₄ T₄ fun hg St₄ k₄ _ c₄ => ?_
          have Er : ErrAt hg G.C e₄ (errText "text" x p₁) := by
            obtain ⟨ta, tkk, g1, g2, g3, g4⟩ := N₄
            exact ⟨_, _, ta, tkk, c₄ _ _ g3 g1, rfl, rfl, rfl, _, c₄ _ _ g4 g2, rfl, 0, rfl⟩
          have hI₄ := hI.keeps (cut_keeps k₄)
          refine tk_ (s := s) fun tk => ?_
          dsimp only
          repeat walk_at "S"
          rename_i St₅
          refine gl K St₅ hm₃ ?_
          refine callWith_def hd₃ ?_
          repeat walk_at "S"
          refine ⟨St₅.keep _ _ (St₅.bs _ _ ho₃), ?_⟩
          have hff := St₅.frames (env := envOf "_law_read" (fnScope (stAt 21)) s.heap.objs.size f cd) rfl
          refine parse_lit_spec (outer := envOf "_law_read" (fnScope (stAt 21)) s.heap.objs.size f cd :: outer) K F (St₅.pre rfl) hfr' (by show A.depth + 1 + 30 < recursionLimit; omega) hh hz hlt ho₃ hd₃ hc₃ ?_ ?_
          · intro q y hq _ h₆ tk₆ t₆ t₆' a₆ X₆ T₆ I₆
            have hqb := parseLit_ok hlt hq
            have St₆ := St₅.call X₆ T₆
            refine tk_ (s := s) fun tk => ?_
            dsimp only
            refine unpack_St hh St₆ I₆ fun h₇ hk₇ St₇ => ?_
            repeat walk_at "S"
            rename_i St₈
            refine type_of_own (Er.keeps St₈.keep) ?_
            repeat walk_at "S"
            refine gl K St₈ K.clsN ?_
            refine isnot_ref_same ?_
            repeat walk_at "S"
            rw [if_neg (by decide)]
            repeat walk_at "S"
            refine meth_append (St₈.get (.head _)) ?_
            repeat walk_at "S"
            refine str_of_own (by show A.units + 3 + 2 < cLine; omega) (K.cls.keeps fun b o e => St₈.keep b o (St₈.bs b o e)) (Er.keeps St₈.keep) fun tk => ?_
            repeat walk_at "S"
            refine mkTup St₈ (by simp) fun a₉ h₉ ha₉ hk₉ St₉ => ?_
            repeat walk_at "S"
            refine append_St [(a₉, tupObj _)] [] St₉ (by omega) fun h₁₀ hk₁₀ St₁₀ => ?_
            have St₁₀ : Mine.St G _ _ _ _ _ _ ((a₉, _) :: [(D, _)]) := St₁₀
            refine St₁₀.settleK fun hg' St₁₁ k₁₁ e₁₁ => ?_
            repeat walk_at "S"
            refine hN₂ (x.length + 1 - q) _ (by omega) ⟨q, _, hg', _, _, _, _, found ++ [(errText "text" x p₁, y)], rfl, St₁₁, ?_, ?_, ?_, hqb.2, ?_, ?_, rfl, ?_⟩
            · walk_at "v"
            · walk_at "v"
            · exact ⟨_, by walk_at "v"⟩
            · simp; omega
            · have : pairsData (found ++ [(errText "text" x p₁, y)]) = pairsData found ++ [.tuple [.str (errText "text" x p₁), .str y]] := by simp [pairsData]
              rw [this]
              refine RdAll.append (hI₄.keeps (cut_keeps k₁₁)) (.cons (Rd.tuple (cut_get (ha₉ ▸ St₈.big) e₁₁) (.cons .str (.cons .str .nil))) .nil)
            · rw [← hrd, hss, readGo_more hp₁ (by omega) hq]
              exact (readGo_fuel _ q (x.length - p) _ (Nat.le_refl _) hqb.2 (by omega)).symm
          · intro M hM h' tk' e X
            refine note_none hfr' rfl hff X fun h₂ X => ?_
            refine flight_set (f := none) X fun h₄ X => ?_
            have e : readGo x (x.length + 1) 0 [] = (found, M) := by
              rw [← hrd, hss, readGo, hp₁]
              dsimp only
              rw [if_neg (by omega), hM]
            refine read_handler K F (by show A.units + 3 + 10 < cLine; omega) St₅ (by walk_at "v") hDn hI₄ X fun h₅ tk₅ a₅ X₅ T₅ R₅ => ?_
            refine hR₂ _ _ ?_
            refine hQ _ _ _ X₅ T₅ ?_
            rw [e]; exact R₅
      · intro M hM h' tk' e X
        refine note_none hfr' rfl hff X fun h₂ X => ?_
        refine flight_set (f := none) X fun h₄ X => ?_
        have e : readGo x (x.length + 1) 0 [] = (found, M) := by
          rw [← hrd, hss, readGo, hM]
        refine read_handler K F (by show A.units + 3 + 10 < cLine; omega) St hm2 hDn hI X fun h₅ tk₅ a₅ X₅ T₅ R₅ => ?_
        refine hR₂ _ _ ?_
        refine hQ _ _ _ X₅ T₅ ?_
        rw [e]; exact R₅
    · exact ⟨0, _, _, _, _, _, [], [], rfl, St₃, upd_off (by decide +kernel) (upd_off (by decide +kernel) rfl), upd_off (by decide +kernel) upd_here, ⟨_, upd_here⟩, Nat.zero_le _, Nat.zero_le _, .nil, rfl, rfl⟩
end

section
open PySem PySem.W PyProof.Rows PySem.Calls
open PySem.Builtin.Str
set_option maxRecDepth 100000
set_option maxHeartbeats 4000000

noncomputable abbrev nlS : Str := ⟨#[10]⟩
noncomputable def indentOf (l : Str) : Nat := min (l.cps.toList.takeWhile (· == 32)).length (l.length - 1)
noncomputable def cutTo (i : Nat) (l : Str) : Str := Txt.slice l (some (i : Int)) none
noncomputable def dedentLines (ls : List Str) : List Str := ls.map (cutTo (indentOf (ls.headD Str.empty)))
noncomputable def dedentText (x : Str) : Str := Txt.join nlS (dedentLines (Txt.split x nlS))

theorem tw_len {l : List Nat} {i : Nat} (h : (l.take i).all (· == 32) = true) : ∀ c, l[i]? = some c → (c == 32) = false → (l.takeWhile (· == 32)).length = i := by
  induction l generalizing i with
  | nil => intro c hc; simp at hc
  | cons a l ih =>
    intro c hc hne
    cases i with
    | zero =>
      simp at hc; subst hc
      rw [List.takeWhile_cons, hne]; rfl
    | succ i =>
      rw [List.take_succ_cons, List.all_cons, Bool.and_eq_true] at h
      rw [List.takeWhile_cons, h.1]
      simp [ih h.2 c (by simpa using hc) hne]
theorem tw_all {l : List Nat} (h : l.all (· == 32) = true) : (l.takeWhile (· == 32)).length = l.length := by
  induction l with
  | nil => rfl
  | cons a l ih =>
    rw [List.all_cons, Bool.and_eq_true] at h
    rw [List.takeWhile_cons, h.1]
    simp [ih h.2]

theorem le_sum : ∀ {l : List Nat} {a : Nat}, a ∈ l → a ≤ l.sum
  | _ :: l, _, .head _ => by simp
  | _ :: l, _, .tail _ h => by have := le_sum h; simp; omega
theorem at_part {ll l' : List (Str × Tok)} {g : Str → Str} {j : Nat} (hj : j < ll.length) (h : l'.map (·.1) = ((ll.take j).map fun p => g p.1) ++ (ll.drop j).map (·.1)) : ∃ t, l'[j]? = some (ll[j].1, t) := by
  have h1 : (l'.map (·.1))[j]? = some ll[j].1 := by
    rw [h, List.getElem?_append_right (by simp; omega)]
    simp only [List.length_map, List.length_take]
    rw [Nat.min_eq_left (Nat.le_of_lt hj), Nat.sub_self]
    simp [List.getElem?_drop, List.getElem?_eq_getElem hj]
  rw [List.getElem?_map] at h1
  cases q : l'[j]? with
  | none => rw [q] at h1; cases h1
  | some p =>
    rw [q] at h1
    have : p.1 = ll[j].1 := by simpa using h1
    exact ⟨p.2, by rw [← this]⟩
theorem part_next {ll l' : List (Str × Tok)} {g : Str → Str} {j : Nat} {t : Tok} (hj : j < ll.length) (h : l'.map (·.1) = ((ll.take j).map fun p => g p.1) ++ (ll.drop j).map (·.1)) :
    (l'.set j (g ll[j].1, t)).map (·.1) = ((ll.take (j + 1)).map fun p => g p.1) ++ (ll.drop (j + 1)).map (·.1) := by
  rw [List.map_set, h, List.set_append_right _ _ (by simp; omega)]
  have e1 : ll.take (j + 1) = ll.take j ++ [ll[j]] := by rw [List.take_add_one, List.getElem?_eq_getElem hj]; rfl
  have e2 : ll.drop j = ll[j] :: ll.drop (j + 1) := List.drop_eq_getElem_cons hj
  have e3 : j - ((ll.take j).map fun p => g p.1).length = 0 := by rw [List.length_map, List.length_take]; omega
  rw [e3, e1, e2, List.map_cons, List.set_cons_zero, List.map_append, List.append_assoc]
  rfl

inductive DedM (G : Glb) (s : Shared) (outer : List Env) (h₀ : Heap) (D : Addr) (y0 : Str) (ty : Tok) (lr : List (Str × Tok)) (fl : Flow) (s' : Shared) : Prop
  | mk (_ : fl = .next) (h : Heap) (tk : Nat) (m : Str → Option Value) (_ : s' = { s with heap := h, toks := tk }) (_ : Mine.St G s.heap outer s.heap.objs.size h₀ h m [(D, listObj (strValues ((y0, ty) :: lr)))]) (_ : m "lines" = some (.ref D)) (_ : HasI m "i" (indentOf y0)) : DedM G s outer h₀ D y0 ty lr fl s'

inductive DedI (G : Glb) (s : Shared) (outer : List Env) (h₀ : Heap) (D : Addr) (y0 : Str) (ty : Tok) (lr : List (Str × Tok)) (e : Addr) (it : Addr) (n : Nat) (s' : Shared) : Prop
  | mk (i : Nat) (h : Heap) (tk : Nat) (m : Str → Option Value) (oi : Obj) (old : Value) (_ : s' = { s with heap := h, toks := tk }) (_ : SIt y0 ty i oi) (_ : i ≤ y0.cps.size) (_ : Mine.St G s.heap outer s.heap.objs.size h₀ h m ([] ++ (e, enumObj it i old) :: (it, oi) :: [(D, listObj (strValues ((y0, ty) :: lr)))])) (_ : m "lines" = some (.ref D)) (_ : n = y0.cps.size + 1 - i) (_ : (y0.cps.toList.take i).all (· == 32) = true) (_ : (0 < i → HasI m "i" (i - 1 : Nat))) : DedI G s outer h₀ D y0 ty lr e it n s'

inductive DedN (G : Glb) (s : Shared) (outer : List Env) (h₀ : Heap) (D : Addr) (y0 : Str) (ty : Tok) (lr : List (Str × Tok)) (fl : Flow) (s' : Shared) : Prop
  | mk (_ : fl = .next) (h : Heap) (tk : Nat) (m : Str → Option Value) (o : Obj) (l' : List (Str × Tok)) (_ : s' = { s with heap := h, toks := tk }) (_ : Mine.St G s.heap outer s.heap.objs.size h₀ h m [(D, o)]) (_ : m "lines" = some (.ref D)) (_ : IsL (strValues l').toArray o) (_ : l'.map (·.1) = ((y0, ty) :: lr).map fun p => cutTo (indentOf y0) p.1) : DedN G s outer h₀ D y0 ty lr fl s'

inductive DedJ (G : Glb) (s : Shared) (outer : List Env) (h₀ : Heap) (D : Addr) (e : Addr) (it : Addr) (ll : List (Str × Tok)) (y0 : Str) (n : Nat) (s' : Shared) : Prop
  | mk (j : Nat) (h : Heap) (tk : Nat) (m : Str → Option Value) (oi : Obj) (old : Value) (o : Obj) (l' : List (Str × Tok)) (_ : s' = { s with heap := h, toks := tk }) (_ : LIt D j oi) (_ : j ≤ ll.length) (_ : Mine.St G s.heap outer s.heap.objs.size h₀ h m ([] ++ (e, enumObj it j old) :: (it, oi) :: [(D, o)])) (_ : m "lines" = some (.ref D)) (_ : HasI m "i" (indentOf y0)) (_ : n = ll.length + 1 - j) (_ : IsL (strValues l').toArray o) (_ : l'.map (·.1) = ((ll.take j).map fun p => cutTo (indentOf y0) p.1) ++ (ll.drop j).map (·.1)) : DedJ G s outer h₀ D e it ll y0 n s'

theorem dedent_spec {w : World} {A : Around} {E : Value → Shared → Prop} {s : Shared} {G : Glb} {outer : List Env} {f : Addr} {o : Obj} {pm cd doc : Value} {x l0 : Str} {ls : List Str} {t1 : Tok} {Q : Value → Shared → Prop}
    (K : G.Ok) (F : Fns w G) (hp : Pre G outer s.heap) (hfr : A.frames = some outer) (hroom : A.depth + 40 < recursionLimit) (hh : A.handled = none) (hz : x.length ≤ 10000)
    (hls : Txt.split x nlS = l0 :: ls) (hl0 : 0 < l0.length) (hsum : ((l0 :: ls).map (·.length)).sum + (l0 :: ls).length ≤ 100000)
    (ho : G.base.get? f = some o) (hdata : o.data = .func (docDef "_dedent" (fnParams (stAt 1)) (fnBody (stAt 1)) (fnScope (stAt 1)) pm cd doc)) (hcd : G.base.CodeRec cd "_dedent")
    (hQ : ∀ h' tk t, Ext (frs outer) G.P s.heap h' → G.Tab h' → Q (.str (dedentText x) t) { s with heap := h', toks := tk }) :
    wpAny (model pw w) A (call (.ref f) [.str x t1]) Q E s := by
  refine wpAny_call (enterPure (binds := [("text", .str x t1)]) K hp (by omega) ho hdata hcd ?_ ?_)
  · rfl
  · intro E₁ h₀ h₁ St hin
    have hfr' : (A.deeper (envOf "_dedent" (fnScope (stAt 1)) s.heap.objs.size f cd)).frames = some (envOf "_dedent" (fnScope (stAt 1)) s.heap.objs.size f cd :: outer) := Around.frames_deeper hfr
    repeat walk_at "S"
    refine GM.split ?_
    repeat walk_at "S"
    have e10 : ("\n" : Str) = nlS := by decide +kernel
    rw [e10]
    refine split_St St (by decide) (by omega) fun D l h₂ k₂ hl hD hk₂ St₂ => ?_
    have hlen : l.length ≤ x.length + 2 := len_le_of_split hl
    repeat walk_at "S"
    rename_i St₃
    have hl1 : l.map (·.1) = l0 :: ls := hl.trans hls
    obtain ⟨⟨y0, ty⟩, lr, rfl⟩ : ∃ p r, l = p :: r := by
      cases l with
      | nil => cases hl1
      | cons p r => exact ⟨p, r, rfl⟩
    have hy0 : y0 = l0 := (List.cons.inj hl1).1
    subst hy0
    have hI : IsL (strValues ((y0, ty) :: lr)).toArray (listObj (strValues ((y0, ty) :: lr))) := ⟨rfl, 0, rfl⟩
    refine wpAny_mono (Q := DedM G s outer h₀ D y0 ty lr) ?_ ?_ (fun _ _ x => x)
    · refine wpAny_For ?_
      repeat walk_at "S"
      refine item_list (x := .str y0 ty) (hI.at (St₃.get (.head _))) (by decide) (by decide) (by simp [strValues]) ?_
      repeat walk_at "S"
      refine enum_str St₃ fun e it oi h₄ hoi hk₄ St₄ => ?_
      refine wpAny_pyIter_enum (it := it) (i := 0) (old := .none) (St₄.get (.head _)) ?_
      refine forLoop_abs (DedI G s outer h₀ D y0 ty lr e it) ?_ (y0.cps.size + 1) ?_
      · rintro n _ E₂ R₂ N₂ hR₂ hN₂ ⟨i, h, tk, m, oi, old, rfl, hoi, hile, St, hm1, rfl, hsp, hii⟩
        refine next_enum_str (x := y0) (t := ty) hh [] [(D, listObj (strValues ((y0, ty) :: lr)))] St hoi hile (fun c hc h' tk' t₁ t₂ T oi' hoi' hk' St' hT => ?_) (fun hc h' St' => ?_) fun T s₁ h => h
        · refine unpack_St hh St' hT fun h₅ hk₅ St₅ => ?_
          repeat walk_at "S"
          rename_i St₆
          have e32 : (" " : Str) = ⟨#[32]⟩ := by decide +kernel
          rw [e32]
          have hc' : y0.cps.toList[i]? = some c := by simpa using hc
          have hlt : i < y0.cps.size := (Array.getElem?_eq_some_iff.mp hc).1
          by_cases h32 : c = 32
          · subst h32
            rw [if_neg (by decide)]
            repeat walk_at "S"
            refine hN₂ (y0.cps.size + 1 - (i + 1)) _ (by omega) ⟨i + 1, _, _, _, oi', _, rfl, hoi', hlt, St₆, ?_, rfl, ?_, fun _ => ⟨t₁, ?_⟩⟩
            · walk_at "v"
            · rw [List.take_add_one, hc', List.all_append, hsp]; rfl
            · rw [Nat.add_sub_cancel]; walk_at "v"
          · have hne : (c == 32) = false := by simpa using h32
            rw [if_pos (by simpa using h32)]
            repeat walk_at "S"
            have hin : indentOf y0 = i := by
              unfold indentOf
              rw [tw_len hsp c hc' hne]
              show min i (y0.cps.size - 1) = i
              omega
            refine hR₂ _ _ ?_
            repeat walk_at "S"
            refine ⟨rfl, _, _, _, rfl, St₆.sub (by simp), ?_, ⟨t₁, ?_⟩⟩
            · walk_at "v"
            · rw [hin]; walk_at "v"
        · have hsz : y0.cps.size ≤ i := by simpa using hc
          have hsz : i = y0.cps.size := Nat.le_antisymm hile hsz
          subst hsz
          have hl0' : 0 < y0.cps.size := hl0
          obtain ⟨ti, hi'⟩ := hii hl0'
          repeat walk_at "S"
          refine hR₂ _ _ ?_
          repeat walk_at "S"
          refine ⟨rfl, _, _, _, rfl, St', hm1, ⟨ti, ?_⟩⟩
          have hin : indentOf y0 = y0.cps.size - 1 := by
            unfold indentOf
            rw [tw_all (by rw [List.take_of_length_le (by simp)] at hsp; exact hsp)]
            show min y0.cps.toList.length (y0.cps.size - 1) = _
            rw [Array.length_toList]; omega
          rw [hin]; exact hi'
      · exact ⟨0, _, _, _, oi, .none, rfl, hoi, Nat.zero_le _, St₄, upd_here, rfl, rfl, fun h => absurd h (Nat.lt_irrefl _)⟩
    · rintro _ _ ⟨rfl, h, tk, m, rfl, St, hm1, ⟨ti, hm2⟩⟩
      dsimp only
      have dd : Txt.join nlS (((y0, ty) :: lr).map fun p => cutTo (indentOf y0) p.1) = dedentText x := by
        unfold dedentText dedentLines
        rw [hls, ← hl1, List.map_map]; rfl
      refine wpAny_execs_cons (wpAny_mono (Q := DedN G s outer h₀ D y0 ty lr) ?_ ?_ (fun _ _ x => x))
      · refine wpAny_For ?_
        repeat walk_at "S"
        refine enum_list St (hI.at (St.get (.head _))) fun e it oi h₄ hoi hk₄ St₄ => ?_
        refine wpAny_pyIter_enum (it := it) (i := 0) (old := .none) (St₄.get (.head _)) ?_
        generalize hll : (y0, ty) :: lr = ll at *
        have hdm : ∀ p ∈ ll, p.1.length ≤ 100000 := fun p hp => by
          have h1 : p.1.length ∈ (ll.map (·.1)).map (·.length) := List.mem_map_of_mem (List.mem_map_of_mem hp)
          rw [hl1] at h1
          have := le_sum h1
          omega
        have hne₁ : D ≠ e := (nd_apart (pre := []) St₄.nd).2 (D, _) (.tail _ (.head _))
        have hne₂ : D ≠ it := (nd_apart (pre := [(e, _)]) (post := [(D, _)]) St₄.nd).2 (D, _) (.head _)
        refine forLoop_abs (DedJ G s outer h₀ D e it ll y0) ?_ (ll.length + 1) ?_
        · rintro n _ E₂ R₂ N₂ hR₂ hN₂ ⟨j, h, tk, m, oi, old, o, l', rfl, hoi, hjle, St, hm1, ⟨ti, hm2⟩, rfl, hIo, hl'⟩
          have hlen' : l'.length = ll.length := by
            have := congrArg List.length hl'
            simp at this; omega
          have hsz : (strValues l').toArray.size = ll.length := by simp [strValues, hlen']
          refine next_enum_list (l := D) (items := (strValues l').toArray) hh [] [(D, o)] St hoi (hIo.at (St.get (by simp))) (by omega) hne₁ hne₂ (fun v hv h' tk' t₁ T oi' hoi' hk' St' hT => ?_) (fun hv h' hk' St' => ?_) fun T s₁ h => h
          · have hjlt : j < ll.length := by have := (Array.getElem?_eq_some_iff.mp hv).1; omega
            obtain ⟨tp, hp⟩ := at_part hjlt hl'
            obtain rfl : v = .str (ll[j].1) tp := by
              simp only [strValues, List.getElem?_toArray, List.getElem?_map, hp] at hv
              exact (Option.some.inj hv).symm
            have hlj : ll[j].1.length ≤ 100000 := hdm _ (List.getElem_mem hjlt)
            refine unpack_St hh St' hT fun h₅ hk₅ St₅ => ?_
            repeat walk_at "S"
            rename_i St₆
            refine slice_sn ?_
            repeat walk_at "S"
            refine ⟨_, _, _, _, rfl, rfl, by rw [sizeLine_eq]; omega, fun t' k h₇ hk₇ => ?_⟩
            have St₇ := St₆.grow hk₇
            repeat walk_at "S"
            refine set_St [(e, _), (it, _)] [] St₇ hIo (by omega) (by omega) fun h₈ o₈ hk₈ St₈ hI₈ => ?_
            repeat walk_at "S"
            refine hN₂ (ll.length + 1 - (j + 1)) _ (by omega) ⟨j + 1, _, _, _, oi', _, o₈, l'.set j (cutTo (indentOf y0) ll[j].1, t'), rfl, hoi', hjlt, St₈, ?_, ⟨ti, ?_⟩, rfl, ?_, part_next hjlt hl'⟩
            · walk_at "v"
            · walk_at "v"
            · have : (strValues (l'.set j (cutTo (indentOf y0) ll[j].1, t'))).toArray = (strValues l').toArray.setIfInBounds j (.str (cutTo (indentOf y0) ll[j].1) t') := by
                simp [strValues, List.map_set]
              rw [this]; exact hI₈
          · have hjn : j = ll.length := by
              have : (strValues l').toArray.size ≤ j := by simpa using hv
              omega
            subst hjn
            repeat walk_at "S"
            refine hR₂ _ _ ?_
            repeat walk_at "S"
            exact ⟨rfl, _, _, _, _, l', rfl, St', hm1, hIo, by rw [hll]; simpa using hl'⟩
        · exact ⟨0, _, _, _, oi, .none, _, ll, rfl, hoi, Nat.zero_le _, St₄, hm1, ⟨ti, hm2⟩, rfl, hI, by simp⟩
      · rintro _ _ ⟨rfl, h, tk, m, o, l', rfl, St, hm1, hIo, hl'⟩
        dsimp only
        repeat walk_at "S"
        with_reducible refine GM.join ?_
        repeat walk_at "S"
        refine SC.join (hIo.at (St.get (.head _))) hl' (joinOk_of ?_) fun t' k => ?_
        · have h1 : ∀ l : List (Str × Tok), ((l.map fun p => cutTo (indentOf y0) p.1).map (·.length)).sum ≤ ((l.map (·.1)).map (·.length)).sum := by
            intro l
            induction l with
            | nil => simp
            | cons p l ih =>
              have := Txt.slice_le p.1 (some (indentOf y0 : Int)) none
              simp only [List.map_cons, List.sum_cons]
              have e : (cutTo (indentOf y0) p.1).length = (Txt.slice p.1 (some (indentOf y0 : Int)) none).length := rfl
              omega
          have h2 := h1 ((y0, ty) :: lr)
          rw [hl1] at h2
          have h3 : (nlS : Str).length = 1 := rfl
          have h4 : (((y0, ty) :: lr).map fun p => cutTo (indentOf y0) p.1).length = (y0 :: ls).length := by
            rw [List.length_map, ← hl1, List.length_map]
          rw [h3, h4]; omega
        · repeat walk_at "S"
          rw [dd]
          exact hQ _ _ _ St.ext St.tab
end

section
open PySem PySem.W PyProof.Rows PySem.Calls
set_option maxRecDepth 100000
set_option maxHeartbeats 4000000

noncomputable def bodyOf (k : Nat) (w bad : Str) : Str × List (Nat × Str) × Option (Nat × Str) := match k with
  | 0 => ("", [], none)
  | 1 => (("#" : Str) ++ w, [], none)
  | 2 => (("'" : Str) ++ w ++ ("'" : Str), [(0, w)], none)
  | 3 => (("'" : Str) ++ w ++ ("'''#'" : Str) ++ w, [(0, w), (w.length + 2, "")], none)
  | 4 => (("#" : Str) ++ w ++ bad ++ ("'" : Str) ++ bad, [], some (w.length + 1, bad))
  | 5 => (("'''" : Str) ++ w ++ bad ++ w ++ ("'" : Str) ++ bad, [(0, "")], some (w.length + 3, bad))
  | _ => (("'" : Str) ++ w, [], some (w.length + 1, "\n"))
noncomputable def textData (p : Nat × Str) : PyData := .tuple [.int p.1, .str p.2]
noncomputable def faultData : Option (Nat × Str) → PyData
  | none => .none
  | some p => textData p
noncomputable def bodyData (r : Str × List (Nat × Str) × Option (Nat × Str)) : PyData := .tuple [.str r.1, .list (r.2.1.map textData), faultData r.2.2]

theorem ite_yes {c : Prop} [Decidable c] {P Q : Prop} (hc : c) (h : P) : if c then P else Q := by rw [if_pos hc]; exact h
theorem ite_no {c : Prop} [Decidable c] {P Q : Prop} (hc : ¬ c) (h : Q) : if c then P else Q := by rw [if_neg hc]; exact h
theorem lq : ("'" : Str).length = 1 := by decide +kernel
theorem lh : ("#" : Str).length = 1 := by decide +kernel
theorem lq3 : ("'''" : Str).length = 3 := by decide +kernel
theorem lqh : ("'''#'" : Str).length = 5 := by decide +kernel

/-- a test of the kind that fails -/
theorem kind_no {w : World} {A : Around} {E : Value → Shared → Prop} {s : Shared} {G : Glb} {hin : Heap} {outer : List Env} {L a : Addr} {h₀ : Heap} {m : Str → Option Value} {news : List (Addr × Obj)} {name : Str} {scope : Scope} {cd : Value} {k j : Int} {t : Tok} {body rest : List Stmt} {p1 p2 p3 p4 : Pos} {n : Nat} {Q : Flow → Shared → Prop}
    (S : St G hin outer L h₀ s.heap m news) (hm : m "kind" = some (.int k t)) (hn : (k == j) = false)
    (h : ∀ tk, wpAny (model pw w) A (execs rest (envOf name scope L a cd)) Q E { s with toks := tk })
    (hk : scope.kind = .function := by rfl) (hl : (envOf name scope L a cd).kindOf "kind" = some .local := by rfl) :
    wpAny (model pw w) A (execs (.If (.Compare (.Name "kind" p1) [.Eq] [.Constant (.int j) n p2] p3) body [] p4 :: rest) (envOf name scope L a cd)) Q E s := by
  refine wpAny_execs_cons ?_
  refine wpAny_If ?_
  refine wpAny_isTrue_Compare1 ?_ (by with_unfolding_all rfl)
  refine lo S hm ?_ hk hl
  refine wpAny_Constant_int ?_
  refine PyProof.Rows.eq_int ?_
  refine wpAny_truthy_bool ?_
  rw [hn]
  refine ite_no (by decide) ?_
  exact wpAny_execs_nil (h _)

theorem body_0 {w : World} {A : Around} {E : Value → Shared → Prop} {s : Shared} {G : Glb} {outer : List Env} {f : Addr} {o : Obj} {pm cd doc : Value} {x bad : Str} {t1 t2 t3 : Tok} {Q : Value → Shared → Prop}
    (K : G.Ok) (F : Fns w G) (hp : Pre G outer s.heap) (hfr : A.frames = some outer) (hroom : A.depth + 40 < recursionLimit) (hz : x.length ≤ 100) (hb : bad.length ≤ 100)
    (ho : G.base.get? f = some o) (hdata : o.data = .func (docDef "_law_body" (fnParams (stAt 18)) (fnBody (stAt 18)) (fnScope (stAt 18)) pm cd doc)) (hcd : G.base.CodeRec cd "_law_body")
    (hQ : ∀ h' tk a, Ext (frs outer) G.P s.heap h' → G.Tab h' → Rd (cut s.heap.objs.size h') (.ref a) (bodyData (bodyOf 0 x bad)) → Q (.ref a) { s with heap := h', toks := tk }) :
    wpAny (model pw w) A (call (.ref f) [.int 0 t1, .str x t2, .str bad t3]) Q E s := by
  refine wpAny_call (enterPure (binds := [("kind", .int 0 t1), ("word", .str x t2), ("bad", .str bad t3)]) K hp (by omega) ho hdata hcd ?_ ?_)
  · rfl
  · intro E₁ h₀ h₁ St hin
    have l1 := lq
    have l2 := lh
    have l3 := lq3
    have l4 := lqh
    repeat (first | walk_at "S" | ((with_reducible refine ite_yes ?hc ?_); (case hc => decide); with_reducible refine tk2 fun _ => ?_; dsimp only) | ((with_reducible refine ite_no ?hc ?_); (case hc => decide); with_reducible refine tk2 fun _ => ?_; dsimp only))
    refine mkList St (by simp) fun a₂ h₂ ha₂ hk₂ St₂ => ?_
    with_reducible refine tk2 fun _ => ?_
    dsimp only
    repeat walk_at "S"
    refine mkTup St₂ (by simp) fun a₃ h₃ ha₃ hk₃ St₃ => ?_
    refine hQ _ _ _ St₃.ext St₃.tab ?_
    unfold bodyData bodyOf
    dsimp only [List.map, textData, faultData]
    exact Rd.tuple (cut_get (ha₃ ▸ St₂.big) (St₃.get (.head _))) (.cons .str (.cons (Rd.list (cut_get (ha₂ ▸ St.big) (St₃.get (.tail _ (.head _)))) .nil) (.cons .none .nil)))

theorem body_1 {w : World} {A : Around} {E : Value → Shared → Prop} {s : Shared} {G : Glb} {outer : List Env} {f : Addr} {o : Obj} {pm cd doc : Value} {x bad : Str} {t1 t2 t3 : Tok} {Q : Value → Shared → Prop}
    (K : G.Ok) (F : Fns w G) (hp : Pre G outer s.heap) (hfr : A.frames = some outer) (hroom : A.depth + 40 < recursionLimit) (hz : x.length ≤ 100) (hb : bad.length ≤ 100)
    (ho : G.base.get? f = some o) (hdata : o.data = .func (docDef "_law_body" (fnParams (stAt 18)) (fnBody (stAt 18)) (fnScope (stAt 18)) pm cd doc)) (hcd : G.base.CodeRec cd "_law_body")
    (hQ : ∀ h' tk a, Ext (frs outer) G.P s.heap h' → G.Tab h' → Rd (cut s.heap.objs.size h') (.ref a) (bodyData (bodyOf 1 x bad)) → Q (.ref a) { s with heap := h', toks := tk }) :
    wpAny (model pw w) A (call (.ref f) [.int 1 t1, .str x t2, .str bad t3]) Q E s := by
  refine wpAny_call (enterPure (binds := [("kind", .int 1 t1), ("word", .str x t2), ("bad", .str bad t3)]) K hp (by omega) ho hdata hcd ?_ ?_)
  · rfl
  · intro E₁ h₀ h₁ St hin
    have l1 := lq
    have l2 := lh
    have l3 := lq3
    have l4 := lqh
    refine kind_no St (by walk_at "v") (by decide) fun _ => ?_
    repeat (first | walk_at "S" | ((with_reducible refine ite_yes ?hc ?_); (case hc => decide); with_reducible refine tk2 fun _ => ?_; dsimp only) | ((with_reducible refine ite_no ?hc ?_); (case hc => decide); with_reducible refine tk2 fun _ => ?_; dsimp only))
    (with_reducible refine PyProof.Rows.add_str ?hh1 ?hz1); (case hz1 => simp only [sizeLine_eq]; omega); intro _ _
    with_reducible refine tk2 fun _ => ?_
    dsimp only
    repeat walk_at "S"
    refine mkList St (by simp) fun a₂ h₂ ha₂ hk₂ St₂ => ?_
    with_reducible refine tk2 fun _ => ?_
    dsimp only
    repeat walk_at "S"
    refine mkTup St₂ (by simp) fun a₃ h₃ ha₃ hk₃ St₃ => ?_
    refine hQ _ _ _ St₃.ext St₃.tab ?_
    unfold bodyData bodyOf
    dsimp only [List.map, textData, faultData]
    exact Rd.tuple (cut_get (ha₃ ▸ St₂.big) (St₃.get (.head _))) (.cons .str (.cons (Rd.list (cut_get (ha₂ ▸ St.big) (St₃.get (.tail _ (.head _)))) .nil) (.cons .none .nil)))

theorem body_2 {w : World} {A : Around} {E : Value → Shared → Prop} {s : Shared} {G : Glb} {outer : List Env} {f : Addr} {o : Obj} {pm cd doc : Value} {x bad : Str} {t1 t2 t3 : Tok} {Q : Value → Shared → Prop}
    (K : G.Ok) (F : Fns w G) (hp : Pre G outer s.heap) (hfr : A.frames = some outer) (hroom : A.depth + 40 < recursionLimit) (hz : x.length ≤ 100) (hb : bad.length ≤ 100)
    (ho : G.base.get? f = some o) (hdata : o.data = .func (docDef "_law_body" (fnParams (stAt 18)) (fnBody (stAt 18)) (fnScope (stAt 18)) pm cd doc)) (hcd : G.base.CodeRec cd "_law_body")
    (hQ : ∀ h' tk a, Ext (frs outer) G.P s.heap h' → G.Tab h' → Rd (cut s.heap.objs.size h') (.ref a) (bodyData (bodyOf 2 x bad)) → Q (.ref a) { s with heap := h', toks := tk }) :
    wpAny (model pw w) A (call (.ref f) [.int 2 t1, .str x t2, .str bad t3]) Q E s := by
  refine wpAny_call (enterPure (binds := [("kind", .int 2 t1), ("word", .str x t2), ("bad", .str bad t3)]) K hp (by omega) ho hdata hcd ?_ ?_)
  · rfl
  · intro E₁ h₀ h₁ St hin
    have l1 := lq
    have l2 := lh
    have l3 := lq3
    have l4 := lqh
    refine kind_no St (by walk_at "v") (by decide) fun _ => ?_
    refine kind_no St (by walk_at "v") (by decide) fun _ => ?_
    repeat (first | walk_at "S" | ((with_reducible refine ite_yes ?hc ?_); (case hc => decide); with_reducible refine tk2 fun _ => ?_; dsimp only) | ((with_reducible refine ite_no ?hc ?_); (case hc => decide); with_reducible refine tk2 fun _ => ?_; dsimp only))
    (with_reducible refine PyProof.Rows.add_str ?hh2 ?hz2); (case hz2 => simp only [sizeLine_eq]; omega); intro _ _
    with_reducible refine tk2 fun _ => ?_
    dsimp only
    repeat walk_at "S"
    (with_reducible refine PyProof.Rows.add_str ?hh3 ?hz3); (case hz3 => simp only [Str.length_append, sizeLine_eq]; omega); intro _ _
    with_reducible refine tk2 fun _ => ?_
    dsimp only
    repeat walk_at "S"
    refine mkTup St (by simp) fun a₁ h₁ ha₁ hk₁ St₁ => ?_
    with_reducible refine tk2 fun _ => ?_
    dsimp only
    repeat walk_at "S"
    refine mkList St₁ (by simp) fun a₂ h₂ ha₂ hk₂ St₂ => ?_
    with_reducible refine tk2 fun _ => ?_
    dsimp only
    repeat walk_at "S"
    refine mkTup St₂ (by simp) fun a₃ h₃ ha₃ hk₃ St₃ => ?_
    refine hQ _ _ _ St₃.ext St₃.tab ?_
    unfold bodyData bodyOf
    dsimp only [List.map, textData, faultData]
    have R₁ := Rd.tuple (cut_get (ha₁ ▸ St.big) (St₃.get (.tail _ (.tail _ (.head _))))) (.cons (.int (x := 0)) (.cons (.str (x := x)) .nil))
    exact Rd.tuple (cut_get (ha₃ ▸ St₂.big) (St₃.get (.head _))) (.cons .str (.cons (Rd.list (cut_get (ha₂ ▸ St₁.big) (St₃.get (.tail _ (.head _)))) (.cons R₁ .nil)) (.cons .none .nil)))

theorem body_3 {w : World} {A : Around} {E : Value → Shared → Prop} {s : Shared} {G : Glb} {outer : List Env} {f : Addr} {o : Obj} {pm cd doc : Value} {x bad : Str} {t1 t2 t3 : Tok} {Q : Value → Shared → Prop}
    (K : G.Ok) (F : Fns w G) (hp : Pre G outer s.heap) (hfr : A.frames = some outer) (hroom : A.depth + 40 < recursionLimit) (hz : x.length ≤ 100) (hb : bad.length ≤ 100)
    (ho : G.base.get? f = some o) (hdata : o.data = .func (docDef "_law_body" (fnParams (stAt 18)) (fnBody (stAt 18)) (fnScope (stAt 18)) pm cd doc)) (hcd : G.base.CodeRec cd "_law_body")
    (hQ : ∀ h' tk a, Ext (frs outer) G.P s.heap h' → G.Tab h' → Rd (cut s.heap.objs.size h') (.ref a) (bodyData (bodyOf 3 x bad)) → Q (.ref a) { s with heap := h', toks := tk }) :
    wpAny (model pw w) A (call (.ref f) [.int 3 t1, .str x t2, .str bad t3]) Q E s := by
  refine wpAny_call (enterPure (binds := [("kind", .int 3 t1), ("word", .str x t2), ("bad", .str bad t3)]) K hp (by omega) ho hdata hcd ?_ ?_)
  · rfl
  · intro E₁ h₀ h₁ St hin
    have l1 := lq
    have l2 := lh
    have l3 := lq3
    have l4 := lqh
    refine kind_no St (by walk_at "v") (by decide) fun _ => ?_
    refine kind_no St (by walk_at "v") (by decide) fun _ => ?_
    refine kind_no St (by walk_at "v") (by decide) fun _ => ?_
    repeat (first | walk_at "S" | ((with_reducible refine ite_yes ?hc ?_); (case hc => decide); with_reducible refine tk2 fun _ => ?_; dsimp only) | ((with_reducible refine ite_no ?hc ?_); (case hc => decide); with_reducible refine tk2 fun _ => ?_; dsimp only))
    (with_reducible refine PyProof.Rows.add_str ?hh4 ?hz4); (case hz4 => simp only [sizeLine_eq]; omega); intro _ _
    with_reducible refine tk2 fun _ => ?_
    dsimp only
    repeat walk_at "S"
    (with_reducible refine PyProof.Rows.add_str ?hh5 ?hz5); (case hz5 => simp only [Str.length_append, sizeLine_eq]; omega); intro _ _
    with_reducible refine tk2 fun _ => ?_
    dsimp only
    repeat walk_at "S"
    (with_reducible refine PyProof.Rows.add_str ?hh6 ?hz6); (case hz6 => simp only [Str.length_append, sizeLine_eq]; omega); intro _ _
    with_reducible refine tk2 fun _ => ?_
    dsimp only
    repeat walk_at "S"
    refine mkTup St (by simp) fun a₁ h₁ ha₁ hk₁ St₁ => ?_
    with_reducible refine tk2 fun _ => ?_
    dsimp only
    repeat walk_at "S"
    refine PyProof.Rows.len_str (by omega) ?_
    repeat walk_at "S"
    refine mkTup St₁ (by simp) fun a₁' h₁' ha₁' hk₁' St₁' => ?_
    with_reducible refine tk2 fun _ => ?_
    dsimp only
    repeat walk_at "S"
    refine mkList St₁' (by simp) fun a₂ h₂ ha₂ hk₂ St₂ => ?_
    with_reducible refine tk2 fun _ => ?_
    dsimp only
    repeat walk_at "S"
    refine mkTup St₂ (by simp) fun a₃ h₃ ha₃ hk₃ St₃ => ?_
    refine hQ _ _ _ St₃.ext St₃.tab ?_
    unfold bodyData bodyOf
    dsimp only [List.map, textData, faultData]
    have R₁ := Rd.tuple (cut_get (ha₁ ▸ St.big) (St₃.get (.tail _ (.tail _ (.tail _ (.head _)))))) (.cons (.int (x := 0)) (.cons (.str (x := x)) .nil))
    have R₂ := Rd.tuple (cut_get (ha₁' ▸ St₁.big) (St₃.get (.tail _ (.tail _ (.head _))))) (.cons (.int (x := (x.length : Int) + 2)) (.cons (.str (x := "")) .nil))
    exact Rd.tuple (cut_get (ha₃ ▸ St₂.big) (St₃.get (.head _))) (.cons .str (.cons (Rd.list (cut_get (ha₂ ▸ St₁'.big) (St₃.get (.tail _ (.head _)))) (.cons R₁ (.cons R₂ .nil))) (.cons .none .nil)))

theorem body_4 {w : World} {A : Around} {E : Value → Shared → Prop} {s : Shared} {G : Glb} {outer : List Env} {f : Addr} {o : Obj} {pm cd doc : Value} {x bad : Str} {t1 t2 t3 : Tok} {Q : Value → Shared → Prop}
    (K : G.Ok) (F : Fns w G) (hp : Pre G outer s.heap) (hfr : A.frames = some outer) (hroom : A.depth + 40 < recursionLimit) (hz : x.length ≤ 100) (hb : bad.length ≤ 100)
    (ho : G.base.get? f = some o) (hdata : o.data = .func (docDef "_law_body" (fnParams (stAt 18)) (fnBody (stAt 18)) (fnScope (stAt 18)) pm cd doc)) (hcd : G.base.CodeRec cd "_law_body")
    (hQ : ∀ h' tk a, Ext (frs outer) G.P s.heap h' → G.Tab h' → Rd (cut s.heap.objs.size h') (.ref a) (bodyData (bodyOf 4 x bad)) → Q (.ref a) { s with heap := h', toks := tk }) :
    wpAny (model pw w) A (call (.ref f) [.int 4 t1, .str x t2, .str bad t3]) Q E s := by
  refine wpAny_call (enterPure (binds := [("kind", .int 4 t1), ("word", .str x t2), ("bad", .str bad t3)]) K hp (by omega) ho hdata hcd ?_ ?_)
  · rfl
  · intro E₁ h₀ h₁ St hin
    have l1 := lq
    have l2 := lh
    have l3 := lq3
    have l4 := lqh
    refine kind_no St (by walk_at "v") (by decide) fun _ => ?_
    refine kind_no St (by walk_at "v") (by decide) fun _ => ?_
    refine kind_no St (by walk_at "v") (by decide) fun _ => ?_
    refine kind_no St (by walk_at "v") (by decide) fun _ => ?_
    repeat (first | walk_at "S" | ((with_reducible refine ite_yes ?hc ?_); (case hc => decide); with_reducible refine tk2 fun _ => ?_; dsimp only) | ((with_reducible refine ite_no ?hc ?_); (case hc => decide); with_reducible refine tk2 fun _ => ?_; dsimp only))
    (with_reducible refine PyProof.Rows.add_str ?hh7 ?hz7); (case hz7 => simp only [sizeLine_eq]; omega); intro _ _
    with_reducible refine tk2 fun _ => ?_
    dsimp only
    repeat walk_at "S"
    (with_reducible refine PyProof.Rows.add_str ?hh8 ?hz8); (case hz8 => simp only [Str.length_append, sizeLine_eq]; omega); intro _ _
    with_reducible refine tk2 fun _ => ?_
    dsimp only
    repeat walk_at "S"
    (with_reducible refine PyProof.Rows.add_str ?hh9 ?hz9); (case hz9 => simp only [Str.length_append, sizeLine_eq]; omega); intro _ _
    with_reducible refine tk2 fun _ => ?_
    dsimp only
    repeat walk_at "S"
    (with_reducible refine PyProof.Rows.add_str ?hh10 ?hz10); (case hz10 => simp only [Str.length_append, sizeLine_eq]; omega); intro _ _
    with_reducible refine tk2 fun _ => ?_
    dsimp only
    repeat walk_at "S"
    refine mkList St (by simp) fun a₂ h₂ ha₂ hk₂ St₂ => ?_
    with_reducible refine tk2 fun _ => ?_
    dsimp only
    repeat walk_at "S"
    refine PyProof.Rows.len_str (by omega) ?_
    repeat walk_at "S"
    refine mkTup St₂ (by simp) fun a₁ h₁ ha₁ hk₁ St₁ => ?_
    with_reducible refine tk2 fun _ => ?_
    dsimp only
    repeat walk_at "S"
    refine mkTup St₁ (by simp) fun a₃ h₃ ha₃ hk₃ St₃ => ?_
    refine hQ _ _ _ St₃.ext St₃.tab ?_
    unfold bodyData bodyOf
    dsimp only [List.map, textData, faultData]
    have R₁ := Rd.tuple (cut_get (ha₁ ▸ St₂.big) (St₃.get (.tail _ (.head _)))) (.cons (.int (x := (x.length : Int) + 1)) (.cons (.str (x := bad)) .nil))
    exact Rd.tuple (cut_get (ha₃ ▸ St₁.big) (St₃.get (.head _))) (.cons .str (.cons (Rd.list (cut_get (ha₂ ▸ St.big) (St₃.get (.tail _ (.tail _ (.head _))))) .nil) (.cons R₁ .nil)))

theorem body_5 {w : World} {A : Around} {E : Value → Shared → Prop} {s : Shared} {G : Glb} {outer : List Env} {f : Addr} {o : Obj} {pm cd doc : Value} {x bad : Str} {t1 t2 t3 : Tok} {Q : Value → Shared → Prop}
    (K : G.Ok) (F : Fns w G) (hp : Pre G outer s.heap) (hfr : A.frames = some outer) (hroom : A.depth + 40 < recursionLimit) (hz : x.length ≤ 100) (hb : bad.length ≤ 100)
    (ho : G.base.get? f = some o) (hdata : o.data = .func (docDef "_law_body" (fnParams (stAt 18)) (fnBody (stAt 18)) (fnScope (stAt 18)) pm cd doc)) (hcd : G.base.CodeRec cd "_law_body")
    (hQ : ∀ h' tk a, Ext (frs outer) G.P s.heap h' → G.Tab h' → Rd (cut s.heap.objs.size h') (.ref a) (bodyData (bodyOf 5 x bad)) → Q (.ref a) { s with heap := h', toks := tk }) :
    wpAny (model pw w) A (call (.ref f) [.int 5 t1, .str x t2, .str bad t3]) Q E s := by
  refine wpAny_call (enterPure (binds := [("kind", .int 5 t1), ("word", .str x t2), ("bad", .str bad t3)]) K hp (by omega) ho hdata hcd ?_ ?_)
  · rfl
  · intro E₁ h₀ h₁ St hin
    have l1 := lq
    have l2 := lh
    have l3 := lq3
    have l4 := lqh
    refine kind_no St (by walk_at "v") (by decide) fun _ => ?_
    refine kind_no St (by walk_at "v") (by decide) fun _ => ?_
    refine kind_no St (by walk_at "v") (by decide) fun _ => ?_
    refine kind_no St (by walk_at "v") (by decide) fun _ => ?_
    refine kind_no St (by walk_at "v") (by decide) fun _ => ?_
    repeat (first | walk_at "S" | ((with_reducible refine ite_yes ?hc ?_); (case hc => decide); with_reducible refine tk2 fun _ => ?_; dsimp only) | ((with_reducible refine ite_no ?hc ?_); (case hc => decide); with_reducible refine tk2 fun _ => ?_; dsimp only))
    (with_reducible refine PyProof.Rows.add_str ?hh11 ?hz11); (case hz11 => simp only [sizeLine_eq]; omega); intro _ _
    with_reducible refine tk2 fun _ => ?_
    dsimp only
    repeat walk_at "S"
    (with_reducible refine PyProof.Rows.add_str ?hh12 ?hz12); (case hz12 => simp only [Str.length_append, sizeLine_eq]; omega); intro _ _
    with_reducible refine tk2 fun _ => ?_
    dsimp only
    repeat walk_at "S"
    (with_reducible refine PyProof.Rows.add_str ?hh13 ?hz13); (case hz13 => simp only [Str.length_append, sizeLine_eq]; omega); intro _ _
    with_reducible refine tk2 fun _ => ?_
    dsimp only
    repeat walk_at "S"
    (with_reducible refine PyProof.Rows.add_str ?hh14 ?hz14); (case hz14 => simp only [Str.length_append, sizeLine_eq]; omega); intro _ _
    with_reducible refine tk2 fun _ => ?_
    dsimp only
    repeat walk_at "S"
    (with_reducible refine PyProof.Rows.add_str ?hh15 ?hz15); (case hz15 => simp only [Str.length_append, sizeLine_eq]; omega); intro _ _
    with_reducible refine tk2 fun _ => ?_
    dsimp only
    repeat walk_at "S"
    refine mkTup St (by simp) fun a₀ h₀' ha₀ hk₀ St₀ => ?_
    with_reducible refine tk2 fun _ => ?_
    dsimp only
    repeat walk_at "S"
    refine mkList St₀ (by simp) fun a₂ h₂ ha₂ hk₂ St₂ => ?_
    with_reducible refine tk2 fun _ => ?_
    dsimp only
    repeat walk_at "S"
    refine PyProof.Rows.len_str (by omega) ?_
    repeat walk_at "S"
    refine mkTup St₂ (by simp) fun a₁ h₁ ha₁ hk₁ St₁ => ?_
    with_reducible refine tk2 fun _ => ?_
    dsimp only
    repeat walk_at "S"
    refine mkTup St₁ (by simp) fun a₃ h₃ ha₃ hk₃ St₃ => ?_
    refine hQ _ _ _ St₃.ext St₃.tab ?_
    unfold bodyData bodyOf
    dsimp only [List.map, textData, faultData]
    have R₀ := Rd.tuple (cut_get (ha₀ ▸ St.big) (St₃.get (.tail _ (.tail _ (.tail _ (.head _)))))) (.cons (.int (x := 0)) (.cons (.str (x := "")) .nil))
    have R₁ := Rd.tuple (cut_get (ha₁ ▸ St₂.big) (St₃.get (.tail _ (.head _)))) (.cons (.int (x := (x.length : Int) + 3)) (.cons (.str (x := bad)) .nil))
    exact Rd.tuple (cut_get (ha₃ ▸ St₁.big) (St₃.get (.head _))) (.cons .str (.cons (Rd.list (cut_get (ha₂ ▸ St₀.big) (St₃.get (.tail _ (.tail _ (.head _))))) (.cons R₀ .nil)) (.cons R₁ .nil)))

theorem body_6 {w : World} {A : Around} {E : Value → Shared → Prop} {s : Shared} {G : Glb} {outer : List Env} {f : Addr} {o : Obj} {pm cd doc : Value} {x bad : Str} {t1 t2 t3 : Tok} {Q : Value → Shared → Prop}
    (K : G.Ok) (F : Fns w G) (hp : Pre G outer s.heap) (hfr : A.frames = some outer) (hroom : A.depth + 40 < recursionLimit) (hz : x.length ≤ 100) (hb : bad.length ≤ 100)
    (ho : G.base.get? f = some o) (hdata : o.data = .func (docDef "_law_body" (fnParams (stAt 18)) (fnBody (stAt 18)) (fnScope (stAt 18)) pm cd doc)) (hcd : G.base.CodeRec cd "_law_body")
    (hQ : ∀ h' tk a, Ext (frs outer) G.P s.heap h' → G.Tab h' → Rd (cut s.heap.objs.size h') (.ref a) (bodyData (bodyOf 6 x bad)) → Q (.ref a) { s with heap := h', toks := tk }) :
    wpAny (model pw w) A (call (.ref f) [.int 6 t1, .str x t2, .str bad t3]) Q E s := by
  refine wpAny_call (enterPure (binds := [("kind", .int 6 t1), ("word", .str x t2), ("bad", .str bad t3)]) K hp (by omega) ho hdata hcd ?_ ?_)
  · rfl
  · intro E₁ h₀ h₁ St hin
    have l1 := lq
    have l2 := lh
    have l3 := lq3
    have l4 := lqh
    refine kind_no St (by walk_at "v") (by decide) fun _ => ?_
    refine kind_no St (by walk_at "v") (by decide) fun _ => ?_
    refine kind_no St (by walk_at "v") (by decide) fun _ => ?_
    refine kind_no St (by walk_at "v") (by decide) fun _ => ?_
    refine kind_no St (by walk_at "v") (by decide) fun _ => ?_
    refine kind_no St (by walk_at "v") (by decide) fun _ => ?_
    repeat (first | walk_at "S" | ((with_reducible refine ite_yes ?hc ?_); (case hc => decide); with_reducible refine tk2 fun _ => ?_; dsimp only) | ((with_reducible refine ite_no ?hc ?_); (case hc => decide); with_reducible refine tk2 fun _ => ?_; dsimp only))
    (with_reducible refine PyProof.Rows.add_str ?hh16 ?hz16); (case hz16 => simp only [sizeLine_eq]; omega); intro _ _
    with_reducible refine tk2 fun _ => ?_
    dsimp only
    repeat walk_at "S"
    refine mkList St (by simp) fun a₂ h₂ ha₂ hk₂ St₂ => ?_
    with_reducible refine tk2 fun _ => ?_
    dsimp only
    repeat walk_at "S"
    refine PyProof.Rows.len_str (by omega) ?_
    repeat walk_at "S"
    refine mkTup St₂ (by simp) fun a₁ h₁ ha₁ hk₁ St₁ => ?_
    with_reducible refine tk2 fun _ => ?_
    dsimp only
    repeat walk_at "S"
    refine mkTup St₁ (by simp) fun a₃ h₃ ha₃ hk₃ St₃ => ?_
    refine hQ _ _ _ St₃.ext St₃.tab ?_
    unfold bodyData bodyOf
    dsimp only [List.map, textData, faultData]
    have R₁ := Rd.tuple (cut_get (ha₁ ▸ St₂.big) (St₃.get (.tail _ (.head _)))) (.cons (.int (x := (x.length : Int) + 1)) (.cons (.str (x := "\n")) .nil))
    exact Rd.tuple (cut_get (ha₃ ▸ St₁.big) (St₃.get (.head _))) (.cons .str (.cons (Rd.list (cut_get (ha₂ ▸ St.big) (St₃.get (.tail _ (.tail _ (.head _))))) .nil) (.cons R₁ .nil)))

theorem body_spec {w : World} {A : Around} {E : Value → Shared → Prop} {s : Shared} {G : Glb} {outer : List Env} {f : Addr} {o : Obj} {pm cd doc : Value} {k : Nat} {x bad : Str} {t1 t2 t3 : Tok} {Q : Value → Shared → Prop}
    (K : G.Ok) (F : Fns w G) (hp : Pre G outer s.heap) (hfr : A.frames = some outer) (hroom : A.depth + 40 < recursionLimit) (hz : x.length ≤ 100) (hb : bad.length ≤ 100) (hk : k < 7)
    (ho : G.base.get? f = some o) (hdata : o.data = .func (docDef "_law_body" (fnParams (stAt 18)) (fnBody (stAt 18)) (fnScope (stAt 18)) pm cd doc)) (hcd : G.base.CodeRec cd "_law_body")
    (hQ : ∀ h' tk a, Ext (frs outer) G.P s.heap h' → G.Tab h' → Rd (cut s.heap.objs.size h') (.ref a) (bodyData (bodyOf k x bad)) → Q (.ref a) { s with heap := h', toks := tk }) :
    wpAny (model pw w) A (call (.ref f) [.int k t1, .str x t2, .str bad t3]) Q E s :=
  match k, hk, hQ with
  | 0, _, hQ => body_0 K F hp hfr hroom hz hb ho hdata hcd hQ
  | 1, _, hQ => body_1 K F hp hfr hroom hz hb ho hdata hcd hQ
  | 2, _, hQ => body_2 K F hp hfr hroom hz hb ho hdata hcd hQ
  | 3, _, hQ => body_3 K F hp hfr hroom hz hb ho hdata hcd hQ
  | 4, _, hQ => body_4 K F hp hfr hroom hz hb ho hdata hcd hQ
  | 5, _, hQ => body_5 K F hp hfr hroom hz hb ho hdata hcd hQ
  | 6, _, hQ => body_6 K F hp hfr hroom hz hb ho hdata hcd hQ
end

section
open PySem PySem.W PyProof.Rows PySem.Calls
set_option maxRecDepth 100000
set_option maxHeartbeats 4000000

structure Row where
  blanks : Nat
  stay : Nat
  body : Str
  texts : List (Nat × Str)
  fault : Option (Nat × Str)
noncomputable def badOf (y : Nat) : Str := ⟨#[[0, 31, 127, 13, 12].getD (y % 5) 0]⟩
noncomputable def wordStr (y : Nat) : Str := ⟨(wordOf 3 (y / 3)).toArray⟩
noncomputable def blanksOf (margin : Nat) (later : Bool) (body : Str) (y : Nat) : Nat :=
  if body ≠ Str.empty then margin + (if later then y % 3 else 0) else if later then y / 4 % (margin + 3) else margin + 1
noncomputable def mkRow (kinds margin : Nat) (later : Bool) (y : Nat) : Row :=
  let b := bodyOf (y % kinds) (wordStr y) (badOf y)
  ⟨blanksOf margin later b.1 y, blanksOf margin later b.1 y - margin, b.1, b.2.1, b.2.2⟩
noncomputable def rowsGo (kinds margin : Nat) : Bool → List Nat → List Row
  | _, [] => []
  | later, y :: ys => mkRow kinds margin later y :: rowsGo kinds margin true ys
noncomputable def rowsOf (kinds margin : Nat) (ys : List Nat) : List Row := rowsGo kinds margin false ys
noncomputable def rowData (r : Row) : PyData := .tuple [.int r.blanks, .int r.stay, .str r.body, .list (r.texts.map textData), faultData r.fault]
noncomputable def rowsData (rs : List Row) : PyData := .list (rs.map rowData)
noncomputable def natsData (ys : List Nat) : PyData := .list (ys.map fun y => .int (y : Nat))

theorem bad_item (r : Nat) : Txt.item "\x00\x1f\x7f\r\x0c" ((r : Int).fmod 5) = badOf r := by
  have h5 : (5 : Int) = ((5 : Nat) : Int) := rfl
  rw [h5, fmod_nat]
  have : r % 5 < 5 := Nat.mod_lt _ (by decide)
  have key : ∀ k : Fin 5, Txt.item "\x00\x1f\x7f\r\x0c" ((k.val : Nat) : Int) = ⟨#[([0, 31, 127, 13, 12] : List Nat).getD k.val 0]⟩ := by decide +kernel
  have := key ⟨r % 5, this⟩
  unfold badOf
  simpa using this
theorem wordOf_len : ∀ n r, (wordOf n r).length ≤ n
  | 0, _ => by simp [wordOf]
  | n + 1, r => by
    rw [wordOf]
    split
    · simp
    · have := wordOf_len n (r / 8)
      simp; omega
theorem rowsGo_snoc (kinds margin : Nat) : ∀ (l : Bool) (ys : List Nat) (y : Nat), rowsGo kinds margin l (ys ++ [y]) = rowsGo kinds margin l ys ++ [mkRow kinds margin (l || !ys.isEmpty) y]
  | l, [], y => by simp [rowsGo]
  | l, z :: ys, y => by
    have := rowsGo_snoc kinds margin true ys y
    simp [rowsGo, this]
theorem rowsGo_len (kinds margin : Nat) : ∀ (l : Bool) (ys : List Nat), (rowsGo kinds margin l ys).length = ys.length
  | l, [] => rfl
  | l, z :: ys => by simp [rowsGo, rowsGo_len kinds margin true ys]

theorem bodyK {P : Prop} {h : Heap} {v : Value} {bo : Str × List (Nat × Str) × Option (Nat × Str)} (x : Rd h v (bodyData bo)) (k : ∀ T o₃ n₃ tb w2 w3, v = .ref T → h.get? T = some o₃ → o₃.cls = .type "tuple" → o₃.data = .seq #[.str bo.1 tb, w2, w3] n₃ →
    Rd h w2 (.list (bo.2.1.map textData)) → Rd h w3 (faultData bo.2.2) → P) : P := by
  unfold bodyData at x
  obtain ⟨T, o₃, v₃, n₃, rfl, g₃, cl₃, d₃, R₃⟩ := x.tuple_inv
  obtain ⟨w1, u1, e1, R1, R₃⟩ := R₃.cons_inv
  obtain ⟨w2, u2, rfl, R2, R₃⟩ := R₃.cons_inv
  obtain ⟨w3, u3, rfl, R3, R₃⟩ := R₃.cons_inv
  obtain rfl := R₃.nil_inv
  obtain ⟨tb, rfl⟩ := R1.str_inv
  obtain rfl : v₃ = #[.str bo.1 tb, w2, w3] := by rw [← Array.toArray_toList (xs := v₃), e1]
  exact k T o₃ n₃ tb w2 w3 rfl g₃ cl₃ d₃ R2 R3

inductive RowsI (G : Glb) (s : Shared) (outer : List Env) (h₀ : Heap) (a : Addr) (ys : List Nat) (kinds : Nat) (margin : Nat) (t2 : Tok) (t3 : Tok) (it : Addr) (D : Addr) (n : Nat) (s' : Shared) : Prop
  | mk (i : Nat) (h h₀' : Heap) (tk k : Nat) (m : Str → Option Value) (oi : Obj) (items : List Value) (_ : s' = { s with heap := h, toks := tk }) (_ : LIt a i oi) (_ : i ≤ ys.length) (_ : h₀.StaysIn h₀') (_ : Mine.St G s.heap outer s.heap.objs.size h₀' h m ([] ++ (it, oi) :: [(D, lst k items)])) (_ : m "kinds" = some (.int kinds t2)) (_ : m "margin" = some (.int margin t3)) (_ : m "rows" = some (.ref D)) (_ : n = ys.length + 1 - i) (_ : RdAll (cut s.heap.objs.size h₀') items ((rowsGo kinds margin false (ys.take i)).map rowData)) : RowsI G s outer h₀ a ys kinds margin t2 t3 it D n s'

inductive RowsM (G : Glb) (s : Shared) (outer : List Env) (hg : Heap) (it : Addr) (oi' : Obj) (D : Addr) (k : Nat) (items : List Value) (kinds : Nat) (margin : Nat) (t2 : Tok) (t3 : Tok) (bo : Str × List (Nat × Str) × Option (Nat × Str)) (w2 : Value) (w3 : Value) (y : Nat) (fl : Flow) (s' : Shared) : Prop
  | mk (_ : fl = .next) (h : Heap) (tk : Nat) (m : Str → Option Value) (_ : s' = { s with heap := h, toks := tk }) (_ : Mine.St G s.heap outer s.heap.objs.size hg h m [(it, oi'), (D, lst k items)]) (_ : m "kinds" = some (.int kinds t2)) (_ : m "margin" = some (.int margin t3)) (_ : m "rows" = some (.ref D)) (_ : HasS m "body" bo.1) (_ : m "texts" = some w2) (_ : m "fault" = some w3) (_ : HasI m "blanks" (blanksOf margin (!items.isEmpty) bo.1 y : Nat)) : RowsM G s outer hg it oi' D k items kinds margin t2 t3 bo w2 w3 y fl s'

theorem rows_spec {w : World} {A : Around} {E : Value → Shared → Prop} {s : Shared} {G : Glb} {outer : List Env} {f : Addr} {o : Obj} {pm cd doc : Value} {a : Addr} {ys : List Nat} {kinds margin : Nat} {t2 t3 : Tok} {Q : Value → Shared → Prop}
    (K : G.Ok) (F : Fns w G) (hp : Pre G outer s.heap) (hfr : A.frames = some outer) (hroom : A.depth + 50 < recursionLimit) (hh : A.handled = none) (hys : ys.length ≤ 1000) (hk0 : 0 < kinds) (hk : kinds ≤ 7) (hm : margin ≤ 100)
    (hA : Rd (grd G outer s.heap) (.ref a) (natsData ys))
    (ho : G.base.get? f = some o) (hdata : o.data = .func (docDef "_law_rows" (fnParams (stAt 19)) (fnBody (stAt 19)) (fnScope (stAt 19)) pm cd doc)) (hcd : G.base.CodeRec cd "_law_rows")
    (hQ : ∀ h' tk a, Ext (frs outer) G.P s.heap h' → G.Tab h' → Rd (cut s.heap.objs.size h') (.ref a) (rowsData (rowsOf kinds margin ys)) → Q (.ref a) { s with heap := h', toks := tk }) :
    wpAny (model pw w) A (call (.ref f) [.ref a, .int kinds t2, .int margin t3]) Q E s := by
  refine wpAny_call (enterPure (binds := [("numbers", .ref a), ("kinds", .int kinds t2), ("margin", .int margin t3)]) K hp (by omega) ho hdata hcd ?_ ?_)
  · rfl
  · intro E₁ h₀ h₁ St hin
    have hfr' : (A.deeper (envOf "_law_rows" (fnScope (stAt 19)) s.heap.objs.size f cd)).frames = some (envOf "_law_rows" (fnScope (stAt 19)) s.heap.objs.size f cd :: outer) := Around.frames_deeper hfr
    have hA := hA.keeps (grd_into hin)
    obtain ⟨a', oa, va, na, ea, ga, ca, da, ra⟩ := hA.list_inv
    cases ea
    have hIa : ∀ {h}, h₀.StaysIn h → h.IsList a va := fun k => ⟨oa, k _ _ ga, ca, na, da⟩
    refine F.body.elim fun f' o' pm' cd' doc' hm' ho' hd' hc' => ?_
    refine F.word.elim fun f₂ o₂ pm₂ cd₂ doc₂ hm₂ ho₂ hd₂ hc₂ => ?_
    repeat walk_at "S"
    refine mkList St (by simp) fun D h₂ hD hk₂ St₂ => ?_
    have hDn : s.heap.objs.size ≤ D := hD ▸ St.big
    repeat walk_at "S"
    rename_i St₃
    refine wpAny_For ?_
    repeat walk_at "S"
    refine iter_list St₃ (hIa St₃.keep) fun it h₄ oi hit hk₄ hoi St₄ => ?_
    refine forLoop_abs (RowsI G s outer h₀ a ys kinds margin t2 t3 it D) ?_ (ys.length + 1) ?_
    · rintro n _ E₂ R₂ N₂ hR₂ hN₂ ⟨i, h, h₀', tk, k, m, oi, items, rfl, hoi, hile, hst, St, hm1, hm2, hm3, rfl, hI⟩
      refine next_list hh [] [(D, lst k items)] St hoi (hIa fun b o e => St.keep b o (hst b o e)) (fun v hv h' oi' hk' hoi' St' => ?_) (fun hv h' hk' St' => ?_)
      · have hilt : i < ys.length := by
          have h1 := (Array.getElem?_eq_some_iff.mp hv).1
          have h2 := ra.length
          simp at h2; omega
        obtain ⟨d, hd1, hd2⟩ := ra.get (i := i) (v := v) (by simpa using hv)
        obtain rfl : d = .int (ys[i] : Nat) := by
          simp [List.getElem?_map, List.getElem?_eq_getElem hilt] at hd1
          exact hd1.symm
        obtain ⟨tv, rfl⟩ := hd2.int_inv
        generalize hy : ys[i] = y at *
        refine go_name ?_
        refine PyProof.Rows.assign_Name ?_
        repeat walk_at "S"
        rename_i St₁
        refine gl K St₁ hm' ?_
        refine callWith_def hd' ?_
        repeat walk_at "S"
        refine PyProof.Rows.mod_int (by omega) ?_
        rw [fmod_nat]
        repeat walk_at "S"
        refine gl K St₁ hm₂ ?_
        refine callWith_def hd₂ ?_
        repeat walk_at "S"
        refine PyProof.Rows.floordiv_int (by decide) ?_
        have h3 : (y : Int).fdiv 3 = ((y / 3 : Nat) : Int) := fdiv_nat y 3
        rw [h3]
        repeat walk_at "S"
        refine ⟨St₁.keep _ _ (St₁.bs _ _ ho₂), ?_⟩
        refine lw_spec (outer := envOf "_law_rows" (fnScope (stAt 19)) s.heap.objs.size f cd :: outer) K (St₁.pre rfl) (by show A.depth + 1 < recursionLimit; omega) (Int.natCast_nonneg _) ho₂ hd₂ hc₂ fun h₂ tk₂ t₂ X₂ T₂ => ?_
        have St₂ := St₁.call X₂ T₂
        with_reducible refine tk2 fun _ => ?_
        dsimp only
        have hw : (⟨(wordOf 3 ((y / 3 : Nat) : Int).toNat).toArray⟩ : Str) = wordStr y := rfl
        rw [hw]
        have hwl : (wordStr y).length ≤ 100 := by
          have := wordOf_len 3 (y / 3)
          show (wordOf 3 (y / 3)).toArray.size ≤ 100
          simp; omega
        repeat walk_at "S"
        refine PyProof.Rows.mod_int (by decide) ?_
        refine PyProof.Rows.item_str_fmod (by decide) (by decide +kernel) (by decide +kernel) fun _ => ?_
        rw [bad_item]
        repeat walk_at "S"
        refine ⟨St₂.keep _ _ (St₂.bs _ _ ho'), ?_⟩
        refine body_spec (outer := envOf "_law_rows" (fnScope (stAt 19)) s.heap.objs.size f cd :: outer) K F (St₂.pre rfl) hfr' (by show A.depth + 1 + 40 < recursionLimit; omega) hwl (show 1 ≤ 100 by decide) (by have := Nat.mod_lt y hk0; omega) ho' hd' hc' fun h₃ tk₃ a₃ X₃ T₃ R₃ => ?_
        refine St₂.anewK X₃ T₃ fun hg St₃ k₃ c₃ _ => ?_
        with_reducible refine tk2 fun _ => ?_
        dsimp only
        generalize hbo : bodyOf (y % kinds) (wordStr y) (badOf y) = bo at *
        refine bodyK R₃ fun T₃ o₃ n₃ tb w2 w3 e₃ g₃ cl₃ d₃ R2 R3 => ?_
        cases e₃
        have hlen : items.length = i := by
          have h1 := hI.length
          rw [List.length_map, rowsGo_len, List.length_take] at h1
          omega
        have hlat : (!items.isEmpty) = !(ys.take i).isEmpty := by
          rw [Bool.eq_iff_iff]
          simp [List.isEmpty_iff, ← List.length_eq_zero_iff, hlen]
          omega
        have hsz : ((items.toArray.size : Nat) : Int) < 2 ^ 63 := by simp; omega
        have hemp : (!items.toArray.isEmpty) = !items.isEmpty := by simp
        refine unpack_St hh St₃ ⟨o₃, (of_cut g₃).1, cl₃, n₃, d₃⟩ fun h₄ hk₄ St₄ => ?_
        repeat walk_at "N"
        refine sto St₄ fun h₅ tk₅ St₅ => ?_
        repeat walk_at "N"
        refine sto St₅ fun h₆ tk₆ St₆ => ?_
        repeat walk_at "N"
        refine sto St₆ fun h₇ tk₇ St₇ => ?_
        walk_at "N"
        refine wpAny_execs_cons ?_
        refine wpAny_mono (Q := RowsM G s outer hg it oi' D k items kinds margin t2 t3 bo w2 w3 y) ?_ ?_ (fun _ _ x => x)
        · have e0 : ("" : Str) = Str.empty := rfl
          repeat walk_at "N"
          rw [e0]
          by_cases hb : bo.1 = Str.empty
          · refine ite_no (by simp [hb]) ?_
            repeat walk_at "N"
            refine wpAny_truthy_list (items := items.toArray) ⟨_, St₇.get (.tail _ (.head _)), rfl, _, rfl⟩ hsz ?_
            rw [hemp]
            cases hl : !items.isEmpty with
            | true =>
              refine ite_yes rfl ?_
              repeat walk_at "N"
              refine PyProof.Rows.floordiv_int (by decide) ?_
              have h4 : (y : Int).fdiv 4 = ((y / 4 : Nat) : Int) := fdiv_nat y 4
              rw [h4]
              repeat walk_at "N"
              have hm3 : (margin : Int) + 3 = ((margin + 3 : Nat) : Int) := rfl
              rw [hm3]
              refine PyProof.Rows.mod_int (by omega) ?_
              rw [fmod_nat]
              repeat walk_at "S"
              rename_i St₈
              have hbk : blanksOf margin true bo.1 y = y / 4 % (margin + 3) := by simp [blanksOf, hb]
              refine ⟨rfl, _, _, _, rfl, St₈, by walk_at "v", by walk_at "v", by walk_at "v", ⟨tb, by walk_at "v"⟩, by walk_at "v", by walk_at "v", ?_⟩
              unfold HasI; rw [hl, hbk]; exact ⟨_, upd_here⟩
            | false =>
              refine ite_no (by decide) ?_
              repeat walk_at "S"
              rename_i St₈
              have hbk : blanksOf margin false bo.1 y = margin + 1 := by simp [blanksOf, hb]
              refine ⟨rfl, _, _, _, rfl, St₈, by walk_at "v", by walk_at "v", by walk_at "v", ⟨tb, by walk_at "v"⟩, by walk_at "v", by walk_at "v", ?_⟩
              unfold HasI; rw [hl, hbk]; exact ⟨_, upd_here⟩
          · refine ite_yes (by simpa using hb) ?_
            repeat walk_at "N"
            refine wpAny_truthy_list (items := items.toArray) ⟨_, St₇.get (.tail _ (.head _)), rfl, _, rfl⟩ hsz ?_
            rw [hemp]
            cases hl : !items.isEmpty with
            | true =>
              refine ite_yes rfl ?_
              with_reducible refine tk2 fun _ => ?_
              dsimp only
              repeat walk_at "N"
              refine PyProof.Rows.mod_int (by decide) ?_
              have h3 : (y : Int).fmod 3 = ((y % 3 : Nat) : Int) := fmod_nat y 3
              rw [h3]
              repeat walk_at "S"
              rename_i St₈
              have hbk : blanksOf margin true bo.1 y = margin + y % 3 := by simp [blanksOf, hb]
              refine ⟨rfl, _, _, _, rfl, St₈, by walk_at "v", by walk_at "v", by walk_at "v", ⟨tb, by walk_at "v"⟩, by walk_at "v", by walk_at "v", ?_⟩
              unfold HasI; rw [hl, hbk]; exact ⟨_, upd_here⟩
            | false =>
              refine ite_no (by decide) ?_
              with_reducible refine tk2 fun _ => ?_
              dsimp only
              repeat walk_at "S"
              rename_i St₈
              have hbk : ((blanksOf margin false bo.1 y : Nat) : Int) = (margin : Int) + 0 := by simp [blanksOf, hb]
              refine ⟨rfl, _, _, _, rfl, St₈, by walk_at "v", by walk_at "v", by walk_at "v", ⟨tb, by walk_at "v"⟩, by walk_at "v", by walk_at "v", ?_⟩
              unfold HasI; rw [hl, hbk]; exact ⟨_, upd_here⟩
        · rintro _ _ ⟨rfl, h₈, tk₈, m₈, rfl, St₈, q1, q2, q3, ⟨tq, q4⟩, q5, q6, ⟨tr, q7⟩⟩
          dsimp only
          repeat walk_at "S"
          refine meth_append (St₈.get (.tail _ (.head _))) ?_
          repeat walk_at "S"
          refine max_two_ints hh fun h₉ tk₉ hk₉ => ?_
          have St₉ := St₈.grow hk₉
          with_reducible refine tk2 fun _ => ?_
          dsimp only
          obtain ⟨tm, hmx⟩ : ∃ tm, (if (0 : Int) > (blanksOf margin (!items.isEmpty) bo.1 y : Nat) - (margin : Nat) then Value.int 0 (tk₈ + 1) else Value.int ((blanksOf margin (!items.isEmpty) bo.1 y : Nat) - (margin : Nat)) tk₈) = .int ((blanksOf margin (!items.isEmpty) bo.1 y - margin : Nat) : Int) tm := by
            split
            · exact ⟨tk₈ + 1, by congr 1; omega⟩
            · exact ⟨tk₈, by congr 1; omega⟩
          rw [hmx]
          repeat walk_at "S"
          refine mkTup St₉ (by simp) fun a₁₀ h₁₀ ha₁₀ hk₁₀ St₁₀ => ?_
          with_reducible refine tk2 fun _ => ?_
          dsimp only
          repeat walk_at "S"
          refine append_St [(a₁₀, tupObj _), (it, oi')] [] St₁₀ (by omega) fun h₁₁ hk₁₁ St₁₁ => ?_
          have St₁₁ : Mine.St G _ _ _ _ _ _ ((a₁₀, _) :: [(it, oi'), (D, _)]) := St₁₁
          refine St₁₁.settleK fun hg' St₁₂ k₁₂ e₁₂ => ?_
          repeat walk_at "S"
          refine hN₂ (ys.length + 1 - (i + 1)) _ (by omega) ⟨i + 1, _, hg', _, _, _, oi', _, rfl, hoi', hilt, fun b o e => k₁₂ b o (k₃ b o (hst b o e)), St₁₂, q1, q2, q3, rfl, ?_⟩
          have e1 : ys.take (i + 1) = ys.take i ++ [y] := by rw [List.take_add_one, List.getElem?_eq_getElem hilt, hy]; rfl
          rw [e1, rowsGo_snoc, List.map_append]
          refine RdAll.append (hI.keeps (cut_keeps fun b o e => k₁₂ b o (k₃ b o e))) (.cons ?_ .nil)
          have cc : (cut h₂.objs.size h₃).StaysIn (cut s.heap.objs.size hg') := fun b o e => cut_get (Nat.le_trans St₂.big (of_cut e).2) (k₁₂ b o (c₃ b o e))
          have emk : rowData (mkRow kinds margin (false || !(ys.take i).isEmpty) y) = .tuple [.int ((blanksOf margin (!items.isEmpty) bo.1 y : Nat) : Int), .int ((blanksOf margin (!items.isEmpty) bo.1 y - margin : Nat) : Int), .str bo.1, .list (bo.2.1.map textData), faultData bo.2.2] := by
            rw [Bool.false_or, ← hlat]
            unfold rowData mkRow
            rw [hbo]
          rw [emk]
          exact Rd.tuple (cut_get (ha₁₀ ▸ St₉.big) e₁₂) (.cons .int (.cons .int (.cons .str (.cons (R2.keeps cc) (.cons (R3.keeps cc) .nil)))))
      · have hin' : i = ys.length := by
          have h1 : va.size ≤ i := by simpa using hv
          have h2 := ra.length
          simp at h2; omega
        subst hin'
        repeat walk_at "S"
        refine hR₂ _ _ ?_
        repeat walk_at "S"
        rw [List.take_length] at hI
        refine hQ _ _ _ St'.ext St'.tab ?_
        exact Rd.list (cut_get hDn (St'.get (.head _))) (hI.keeps (cut_keeps St'.keep))
    · exact ⟨0, _, h₀, _, _, _, oi, [], rfl, hoi, Nat.zero_le _, fun _ _ e => e, St₄, upd_off (by decide +kernel) rfl, upd_off (by decide +kernel) rfl, upd_here, rfl, .nil⟩
end

section
open PySem PySem.W PyProof.Rows PySem.Calls
set_option maxRecDepth 100000
set_option maxHeartbeats 4000000

noncomputable abbrev qS : Str := ⟨#[39]⟩
noncomputable def hasQ (x : Str) : Bool := !(Builtin.Str.occurrences x qS 0 x.length 1).isEmpty
noncomputable def textMsg (line col : Nat) : Str := ⟨(pText line col).toArray⟩
noncomputable def faultMsg (y : Str) (line col : Nat) : Str := ⟨(pFault (reprText y).cps.toList line col).toArray⟩
noncomputable abbrev eodMsg : Str := "Expected \"'\" (at end of document)"
noncomputable def dueTexts (shift stay line : Nat) (ts : List (Nat × Str)) : List (Str × Str) := ts.map fun p => (textMsg line (shift + stay + p.1 + 1), p.2)
noncomputable def dueGo (shift : Nat) : Nat → List (Str × Str) → List Row → List (Str × Str) × Str
  | _, found, [] => (found, "whole")
  | line, found, r :: rs => match r.fault with
    | none => dueGo shift (line + 1) (found ++ dueTexts shift r.stay (line + 1) r.texts) rs
    | some p => (found ++ dueTexts shift r.stay (line + 1) r.texts, if (p.2 == nlS && !(rs.map fun r => hasQ r.body).any id) = true then eodMsg else faultMsg p.2 (line + 1) (shift + r.stay + p.1 + 1))
noncomputable def dueOf (rows : List Row) (shift : Nat) : List (Str × Str) × Str := dueGo shift 0 [] rows
structure RowOk (r : Row) : Prop where
  stay : r.stay ≤ 1000
  len : r.texts.length ≤ 10
  texts : ∀ p ∈ r.texts, p.1 ≤ 1000
  fault : ∀ p, r.fault = some p → p.1 ≤ 1000 ∧ (reprText p.2).length ≤ 1000

theorem drop_cons {α : Type} {l : List α} {i : Nat} (h : i < l.length) : l.drop i = l[i] :: l.drop (i + 1) := List.drop_eq_getElem_cons h

theorem paired_rows {h₀ : Heap} {P : Row → Value → Prop} : ∀ {l ys : List Value} {rs : List Row}, Paired (fun v y => ∀ r, Rd h₀ v (rowData r) → P r y) l ys → RdAll h₀ l (rs.map rowData) → Paired P rs ys
  | _, _, [], .nil, _ => .nil
  | _, _, [], .cons _ _, h => by have := h.nil_inv; cases this
  | _, _, r :: rs, .nil, h => by obtain ⟨_, _, e, _⟩ := h.cons_inv; cases e
  | _, _, r :: rs, .cons a b, h => by
    obtain ⟨_, _, e, h1, h2⟩ := h.cons_inv
    cases e
    exact .cons (a r h1) (paired_rows b h2)
theorem paired_bools {g : Row → Bool} : ∀ {rs : List Row} {ys : List Value}, Paired (fun r y => y = .bool (g r)) rs ys → ys = (rs.map g).map .bool
  | _, _, .nil => rfl
  | _, _, .cons a b => by rw [a, paired_bools b]; rfl
theorem RdAll.drop {h : Heap} : ∀ {vs : List Value} {ds : List PyData} (i : Nat), RdAll h vs ds → RdAll h (vs.drop i) (ds.drop i)
  | _, _, 0, x => x
  | [], ds, i + 1, x => by
    have : ds = [] := List.eq_nil_of_length_eq_zero (by have := x.length; simpa using this.symm)
    subst this; exact x
  | v :: vs, [], i + 1, x => by have := x.nil_inv; cases this
  | v :: vs, d :: ds, i + 1, x => by
    obtain ⟨_, _, e, _, h2⟩ := x.cons_inv
    cases e
    exact RdAll.drop i h2
theorem rowK {P : Prop} {h : Heap} {v : Value} {r : Row} (x : Rd h v (rowData r)) (k : ∀ T oT nT tb1 tb2 tb3 aT oX vX nX w5, v = .ref T → h.get? T = some oT → oT.cls = .type "tuple" → oT.data = .seq #[.int r.blanks tb1, .int r.stay tb2, .str r.body tb3, .ref aT, w5] nT →
    h.get? aT = some oX → oX.cls = .type "list" → oX.data = .seq vX nX → RdAll h vX.toList (r.texts.map textData) → Rd h w5 (faultData r.fault) → P) : P := by
  unfold rowData at x
  obtain ⟨T, oT, vT, nT, rfl, gT, cT, dT, RT⟩ := x.tuple_inv
  obtain ⟨w1, u1, e1, R1, RT⟩ := RT.cons_inv
  obtain ⟨w2, u2, rfl, R2, RT⟩ := RT.cons_inv
  obtain ⟨w3, u3, rfl, R3, RT⟩ := RT.cons_inv
  obtain ⟨w4, u4, rfl, R4, RT⟩ := RT.cons_inv
  obtain ⟨w5, u5, rfl, R5, RT⟩ := RT.cons_inv
  obtain rfl := RT.nil_inv
  obtain ⟨tb1, rfl⟩ := R1.int_inv
  obtain ⟨tb2, rfl⟩ := R2.int_inv
  obtain ⟨tb3, rfl⟩ := R3.str_inv
  obtain ⟨aT, oX, vX, nX, rfl, gX, cX, dX, RX⟩ := R4.list_inv
  obtain rfl : vT = #[.int r.blanks tb1, .int r.stay tb2, .str r.body tb3, .ref aT, w5] := by rw [← Array.toArray_toList (xs := vT), e1]
  exact k T oT nT tb1 tb2 tb3 aT oX vX nX w5 rfl gT cT dT gX cX dX RX R5
/-- a row's tuple -/
theorem row_inv {h : Heap} {v : Value} {r : Row} (x : Rd h v (rowData r)) : ∃ T o n t1 t2 t3 w4 w5, v = .ref T ∧ h.get? T = some o ∧ o.cls = .type "tuple" ∧ o.data = .seq #[.int r.blanks t1, .int r.stay t2, .str r.body t3, w4, w5] n :=
  rowK x fun T o n t1 t2 t3 _ _ _ _ w5 e g c d _ _ _ _ _ => ⟨T, o, n, t1, t2, t3, _, w5, e, g, c, d⟩
theorem row_same {h : Heap} {v : Value} {r r' : Row} (x : Rd h v (rowData r)) (y : Rd h v (rowData r')) : r.blanks = r'.blanks ∧ r.stay = r'.stay ∧ r.body = r'.body := by
  obtain ⟨T, o, n, t1, t2, t3, w4, w5, rfl, g, _, d⟩ := row_inv x
  obtain ⟨T', o', n', t1', t2', t3', w4', w5', e, g', _, d'⟩ := row_inv y
  cases e
  rw [g] at g'; cases g'
  rw [d] at d'
  simp only [Data.seq.injEq, Array.mk.injEq, List.cons.injEq, Value.int.injEq, Value.str.injEq] at d'
  exact ⟨by omega, by omega, d'.1.2.2.1.1⟩
theorem lc {w : World} {A : Around} {E : Value → Shared → Prop} {s : Shared} {m : Str → Option Value} {x : Str} {pos : Pos} {v : Value} {sc : Scope} {cl : List (Str × Addr)} {C : Addr} {env : Env} {Q : Value → Shared → Prop} (hn : s.heap.Ns C m) (hv : m x = some v) (h : Q v s)
    (hk : (relabel sc env).kind = .function := by rfl) (hl : (compEnvC sc cl C env).kindOf x = some .local := by rfl) (hd : (x == ("__debug__" : Str)) = false := by decide) :
    wpAny (model pw w) A (eval (.Name x pos) (compEnvC sc cl C env)) Q E s := wpAny_Name (wpAny_loadName_local hk hl hn hv h) hd

theorem pairK {P : Prop} {h : Heap} {v : Value} {p : Nat × Str} (x : Rd h v (textData p)) (k : ∀ U oU nU tc1 tc2, v = .ref U → h.get? U = some oU → oU.cls = .type "tuple" → oU.data = .seq #[.int p.1 tc1, .str p.2 tc2] nU → P) : P := by
  unfold textData at x
  obtain ⟨U, oU, vU, nU, rfl, gU, cU, dU, RU⟩ := x.tuple_inv
  obtain ⟨w1, u1, e1, R1, RU⟩ := RU.cons_inv
  obtain ⟨w2, u2, rfl, R2, RU⟩ := RU.cons_inv
  obtain rfl := RU.nil_inv
  obtain ⟨tc1, rfl⟩ := R1.int_inv
  obtain ⟨tc2, rfl⟩ := R2.str_inv
  obtain rfl : vU = #[.int p.1 tc1, .str p.2 tc2] := by rw [← Array.toArray_toList (xs := vU), e1]
  exact k U oU nU tc1 tc2 rfl gU cU dU

inductive DueI (G : Glb) (s : Shared) (outer : List Env) (h₀ : Heap) (a : Addr) (rows : List Row) (shift : Nat) (t2 : Tok) (it : Addr) (D : Addr) (n : Nat) (s' : Shared) : Prop
  | mk (i : Nat) (h h₀' : Heap) (tk k : Nat) (m : Str → Option Value) (oi : Obj) (items : List Value) (found : List (Str × Str)) (_ : s' = { s with heap := h, toks := tk }) (_ : LIt a i oi) (_ : i ≤ rows.length) (_ : h₀.StaysIn h₀') (_ : Mine.St G s.heap outer s.heap.objs.size h₀' h m ([] ++ (it, oi) :: [(D, lst k items)])) (_ : m "rows" = some (.ref a)) (_ : m "shift" = some (.int shift t2)) (_ : m "found" = some (.ref D)) (_ : HasI m "line" i) (_ : n = rows.length + 1 - i) (_ : found.length ≤ 10 * i) (_ : RdAll (cut s.heap.objs.size h₀') items (pairsData found)) (_ : dueGo shift i found (rows.drop i) = dueOf rows shift) : DueI G s outer h₀ a rows shift t2 it D n s'

inductive DueM (G : Glb) (s : Shared) (outer : List Env) (h₀' : Heap) (a : Addr) (shift : Nat) (t2 : Tok) (it : Addr) (oi' : Obj) (D : Addr) (i : Nat) (row : Row) (tb2 : Tok) (w5 : Value) (found : List (Str × Str)) (fl : Flow) (s' : Shared) : Prop
  | mk (_ : fl = .next) (h : Heap) (h₁' : Heap) (tk : Nat) (k : Nat) (m : Str → Option Value) (items : List Value) (_ : s' = { s with heap := h, toks := tk }) (_ : Mine.St G s.heap outer s.heap.objs.size h₁' h m [(it, oi'), (D, lst k items)]) (_ : h₀'.StaysIn h₁') (_ : m "rows" = some (.ref a)) (_ : m "shift" = some (.int shift t2)) (_ : m "found" = some (.ref D)) (_ : HasI m "line" (i + 1 : Nat)) (_ : m "stay" = some (.int row.stay tb2)) (_ : m "fault" = some w5) (_ : RdAll (cut s.heap.objs.size h₁') items (pairsData (found ++ dueTexts shift row.stay (i + 1) row.texts))) : DueM G s outer h₀' a shift t2 it oi' D i row tb2 w5 found fl s'

inductive DueJ (G : Glb) (s : Shared) (outer : List Env) (h₀' : Heap) (a : Addr) (shift : Nat) (t2 : Tok) (aT : Addr) (it₂ : Addr) (it : Addr) (oi' : Obj) (D : Addr) (i : Nat) (row : Row) (tb2 : Tok) (w5 : Value) (found : List (Str × Str)) (n : Nat) (s' : Shared) : Prop
  | mk (j : Nat) (h h₁' : Heap) (tk k : Nat) (m : Str → Option Value) (oi₂ : Obj) (items : List Value) (_ : s' = { s with heap := h, toks := tk }) (_ : LIt aT j oi₂) (_ : j ≤ row.texts.length) (_ : h₀'.StaysIn h₁') (_ : Mine.St G s.heap outer s.heap.objs.size h₁' h m ([] ++ (it₂, oi₂) :: [(it, oi'), (D, lst k items)])) (_ : m "rows" = some (.ref a)) (_ : m "shift" = some (.int shift t2)) (_ : m "found" = some (.ref D)) (_ : HasI m "line" (i + 1 : Nat)) (_ : m "stay" = some (.int row.stay tb2)) (_ : m "fault" = some w5) (_ : n = row.texts.length + 1 - j) (_ : RdAll (cut s.heap.objs.size h₁') items (pairsData (found ++ dueTexts shift row.stay (i + 1) (row.texts.take j)))) : DueJ G s outer h₀' a shift t2 aT it₂ it oi' D i row tb2 w5 found n s'

inductive DueN (G : Glb) (s : Shared) (outer : List Env) (h₁' : Heap) (it : Addr) (oi' : Obj) (D : Addr) (k₈ : Nat) (items₈ : List Value) (shift : Nat) (t2 : Tok) (tq : Tok) (i : Nat) (row : Row) (tb2 : Tok) (tc1 : Tok) (tc2 : Tok) (p : Nat × Str) (rows : List Row) (b : Bool) (s' : Shared) : Prop
  | mk (_ : b = (p.2 == nlS && !((rows.drop (i + 1)).map fun r => hasQ r.body).any id)) (h : Heap) (tk : Nat) (m : Str → Option Value) (_ : s' = { s with heap := h, toks := tk }) (_ : Mine.St G s.heap outer s.heap.objs.size h₁' h m [(it, oi'), (D, lst k₈ items₈)]) (_ : m "shift" = some (.int shift t2)) (_ : m "found" = some (.ref D)) (_ : m "line" = some (.int (i + 1 : Nat) tq)) (_ : m "stay" = some (.int row.stay tb2)) (_ : m "at" = some (.int p.1 tc1)) (_ : m "sign" = some (.str p.2 tc2)) : DueN G s outer h₁' it oi' D k₈ items₈ shift t2 tq i row tb2 tc1 tc2 p rows b s'

theorem due_spec {w : World} {A : Around} {E : Value → Shared → Prop} {s : Shared} {G : Glb} {outer : List Env} {f : Addr} {o : Obj} {pm cd doc : Value} {a : Addr} {rows : List Row} {shift : Nat} {t2 : Tok} {Q : Value → Shared → Prop}
    (K : G.Ok) (F : Fns w G) (hp : Pre G outer s.heap) (hfr : A.frames = some outer) (hroom : A.depth + 50 < recursionLimit) (hh : A.handled = none) (hys : rows.length ≤ 1000) (hsh : shift ≤ 1000) (hrow : ∀ r ∈ rows, RowOk r)
    (hA : Rd (grd G outer s.heap) (.ref a) (rowsData rows))
    (ho : G.base.get? f = some o) (hdata : o.data = .func (docDef "_law_due" (fnParams (stAt 20)) (fnBody (stAt 20)) (fnScope (stAt 20)) pm cd doc)) (hcd : G.base.CodeRec cd "_law_due")
    (hQ : ∀ h' tk a, Ext (frs outer) G.P s.heap h' → G.Tab h' → Rd (cut s.heap.objs.size h') (.ref a) (readData (dueOf rows shift)) → Q (.ref a) { s with heap := h', toks := tk }) :
    wpAny (model pw w) A (call (.ref f) [.ref a, .int shift t2]) Q E s := by
  refine wpAny_call (enterPure (binds := [("rows", .ref a), ("shift", .int shift t2)]) K hp (by omega) ho hdata hcd ?_ ?_)
  · rfl
  · intro E₁ h₀ h₁ St hin
    have hfr' : (A.deeper (envOf "_law_due" (fnScope (stAt 20)) s.heap.objs.size f cd)).frames = some (envOf "_law_due" (fnScope (stAt 20)) s.heap.objs.size f cd :: outer) := Around.frames_deeper hfr
    have hA := hA.keeps (grd_into hin)
    obtain ⟨a', oa, va, na, ea, ga, ca, da, ra⟩ := hA.list_inv
    cases ea
    have hIa : ∀ {h}, h₀.StaysIn h → h.IsList a va := fun k => ⟨oa, k _ _ ga, ca, na, da⟩
    have hsz : va.size = rows.length := by have := ra.length; simpa using this
    repeat walk_at "S"
    refine mkList St (by simp) fun D h₂ hD hk₂ St₂ => ?_
    have hDn : s.heap.objs.size ≤ D := hD ▸ St.big
    repeat walk_at "S"
    rename_i St₃
    refine wpAny_For ?_
    repeat walk_at "S"
    refine iter_list St₃ (hIa St₃.keep) fun it h₄ oi hit hk₄ hoi St₄ => ?_
    refine forLoop_abs (DueI G s outer h₀ a rows shift t2 it D) ?_ (rows.length + 1) ?_
    · rintro n _ E₂ R₂ N₂ hR₂ hN₂ ⟨i, h, h₀', tk, k, m, oi, items, found, rfl, hoi, hile, hst, St, hm1, hm2, hm3, ⟨tl, hm4⟩, rfl, hfl, hI, hdue⟩
      refine next_list hh [] [(D, lst k items)] St hoi (hIa fun b o e => St.keep b o (hst b o e)) (fun v hv h' oi' hk' hoi' St' => ?_) (fun hv h' hk' St' => ?_)
      · have hilt : i < rows.length := by
          have h1 := (Array.getElem?_eq_some_iff.mp hv).1
          omega
        obtain ⟨d, hd1, hd2⟩ := ra.get (i := i) (v := v) (by simpa using hv)
        obtain rfl : d = rowData rows[i] := by
          simp [List.getElem?_map, List.getElem?_eq_getElem hilt] at hd1
          exact hd1.symm
        have hrok := hrow _ (List.getElem_mem hilt)
        rw [drop_cons hilt] at hdue
        generalize hy : rows[i] = row at *
        refine rowK hd2 fun T oT nT tb1 tb2 tb3 aT oX vX nX w5 eT gT cT dT gX cX dX RX R5 => ?_
        subst eT
        have hXsz : vX.size = row.texts.length := by have := RX.length; simpa using this
        refine go_list (St'.get (.head _)) hoi' ?_
        refine unpack_St hh St' ⟨oT, St'.keep _ _ (hst _ _ gT), cT, nT, dT⟩ fun h₅ hk₅ St₅ => ?_
        repeat walk_at "S"
        rename_i St₆
        have hl1 : (i : Int) + 1 = ((i + 1 : Nat) : Int) := rfl
        rw [hl1] at St₆
        refine wpAny_mono (Q := DueM G s outer h₀' a shift t2 it oi' D i row tb2 w5 found) ?_ ?_ (fun _ _ x => x)
        · refine wpAny_For ?_
          repeat walk_at "S"
          have hIx : ∀ {h}, h₀'.StaysIn h → h.IsList aT vX := fun k => ⟨oX, k _ _ (hst _ _ gX), cX, nX, dX⟩
          refine iter_list St₆ (hIx St₆.keep) fun it₂ h₇ oi₂ hit₂ hk₇ hoi₂ St₇ => ?_
          refine forLoop_abs (DueJ G s outer h₀' a shift t2 aT it₂ it oi' D i row tb2 w5 found) ?_ (row.texts.length + 1) ?_
          · rintro n _ E₃ R₃ N₃ hR₃ hN₃ ⟨j, h, h₁', tk, k, m, oi₂, items, rfl, hoi₂, hjle, hst₁, St, hm1, hm2, hm3, ⟨tl, hm4⟩, hm5, hm6, rfl, hI⟩
            refine next_list hh [] [(it, oi'), (D, lst k items)] St hoi₂ (hIx fun b o e => St.keep b o (hst₁ b o e)) (fun v hv h' oi₂' hk' hoi₂' St' => ?_) (fun hv h' hk' St' => ?_)
            · have hjlt : j < row.texts.length := by
                have h1 := (Array.getElem?_eq_some_iff.mp hv).1
                omega
              obtain ⟨d, hd1, hd2⟩ := RX.get (i := j) (v := v) (by simpa using hv)
              obtain rfl : d = textData row.texts[j] := by
                simp [List.getElem?_map, List.getElem?_eq_getElem hjlt] at hd1
                exact hd1.symm
              have hpm := hrok.texts _ (List.getElem_mem hjlt)
              have hst0 := hrok.stay
              have etk : row.texts.take (j + 1) = row.texts.take j ++ [row.texts[j]] := by rw [List.take_add_one, List.getElem?_eq_getElem hjlt]; rfl
              generalize hpy : row.texts[j] = p at *
              refine pairK hd2 fun U oU nU tc1 tc2 eU gU cU dU => ?_
              subst eU
              refine go_list (St'.get (.head _)) hoi₂' ?_
              refine unpack_St hh St' ⟨oU, St'.keep _ _ (hst₁ _ _ (hst _ _ gU)), cU, nU, dU⟩ fun h₈ hk₈ St₈ => ?_
              repeat walk_at "S"
              rename_i St₉
              refine meth_append (St₉.get (.tail _ (.tail _ (.head _)))) ?_
              repeat walk_at "S"
              refine mkTup St₉ (by simp) fun a₁₀ h₁₀ ha₁₀ hk₁₀ St₁₀ => ?_
              with_reducible refine tk2 fun _ => ?_
              dsimp only
              rw [fText_eq]
              have hcol : (shift : Int) + row.stay + p.1 + 1 = ((shift + row.stay + p.1 + 1 : Nat) : Int) := rfl
              rw [hcol] at St₁₀
              refine pct_text (line := i + 1) (col := shift + row.stay + p.1 + 1) (by omega) (by omega) ⟨_, St₁₀.get (.head _), rfl, 0, rfl⟩ fun t' k' => ?_
              with_reducible refine tk2 fun _ => ?_
              dsimp only
              repeat walk_at "S"
              refine mkTup St₁₀ (by simp) fun a₁₁ h₁₁ ha₁₁ hk₁₁ St₁₁ => ?_
              with_reducible refine tk2 fun _ => ?_
              dsimp only
              repeat walk_at "S"
              have hlen := hI.length
              have hlen' : (pairsData (found ++ dueTexts shift row.stay (i + 1) (row.texts.take j))).length ≤ 20000 := by
                have := hrok.len
                simp [pairsData, dueTexts]; omega
              refine append_St [(a₁₁, tupObj _), (a₁₀, tupObj _), (it₂, oi₂'), (it, oi')] [] St₁₁ (by omega) fun h₁₂ hk₁₂ St₁₂ => ?_
              have St₁₂ : Mine.St G _ _ _ _ _ _ ((a₁₁, _) :: (a₁₀, _) :: [(it₂, oi₂'), (it, oi'), (D, _)]) := St₁₂
              have St₁₂ := St₁₂.sub (List.Sublist.cons₂ _ (List.Sublist.cons _ (List.Sublist.refl _)))
              refine St₁₂.settleK fun hg' St₁₃ k₁₃ e₁₃ => ?_
              repeat walk_at "S"
              refine hN₃ (row.texts.length + 1 - (j + 1)) _ (by omega) ⟨j + 1, _, hg', _, _, _, oi₂', _, rfl, hoi₂', hjlt, fun b o e => k₁₃ b o (hst₁ b o e), St₁₃, by walk_at "v", by walk_at "v", by walk_at "v", ⟨tl, by walk_at "v"⟩, by walk_at "v", by walk_at "v", rfl, ?_⟩
              have ep : pairsData (found ++ dueTexts shift row.stay (i + 1) (row.texts.take (j + 1))) = pairsData (found ++ dueTexts shift row.stay (i + 1) (row.texts.take j)) ++ [.tuple [.str (textMsg (i + 1) (shift + row.stay + p.1 + 1)), .str p.2]] := by
                rw [etk]; simp [pairsData, dueTexts]
              rw [ep]
              exact RdAll.append (hI.keeps (cut_keeps k₁₃)) (.cons (Rd.tuple (cut_get (ha₁₁ ▸ St₁₀.big) e₁₃) (.cons .str (.cons .str .nil))) .nil)
            · have hjn : j = row.texts.length := by
                have : vX.size ≤ j := by simpa using hv
                omega
              subst hjn
              repeat walk_at "S"
              refine hR₃ _ _ ?_
              repeat walk_at "S"
              rw [List.take_length] at hI
              exact ⟨rfl, _, _, _, _, _, _, rfl, St', hst₁, hm1, hm2, hm3, ⟨tl, hm4⟩, hm5, hm6, hI⟩
          · refine ⟨0, _, h₀', _, _, _, oi₂, items, rfl, hoi₂, Nat.zero_le _, fun _ _ e => e, St₇, by walk_at "v", by walk_at "v", by walk_at "v", ⟨_, by walk_at "v"⟩, by walk_at "v", by walk_at "v", rfl, ?_⟩
            have : found ++ dueTexts shift row.stay (i + 1) (row.texts.take 0) = found := by simp [dueTexts]
            rw [this]; exact hI
        · rintro _ _ ⟨rfl, h₈, h₁', tk₈, k₈, m₈, items₈, rfl, St₈, hst₁, q1, q2, q3, ⟨tq, q4⟩, q5, q6, hI₈⟩
          dsimp only
          repeat walk_at "S"
          unfold dueGo at hdue
          cases hf : row.fault with
          | none =>
            rw [hf] at R5 hdue
            obtain rfl := R5.none_inv
            refine isnot_none_none ?_
            repeat walk_at "S"
            refine ite_no (by decide) ?_
            repeat walk_at "S"
            refine hN₂ (rows.length + 1 - (i + 1)) _ (by omega) ⟨i + 1, _, h₁', _, _, _, oi', items₈, found ++ dueTexts shift row.stay (i + 1) row.texts, rfl, hoi', hilt, fun b o e => hst₁ b o (hst b o e), St₈, q1, q2, q3, ⟨tq, q4⟩, rfl, ?_, hI₈, hdue⟩
            have := hrok.len
            simp [dueTexts]; omega
          | some p =>
            rw [hf] at R5 hdue
            have hpk := hrok.fault p hf
            have hst0 := hrok.stay
            have R5 : Rd h₀ w5 (textData p) := R5
            refine pairK R5 fun U oU nU tc1 tc2 eU gU cU dU => ?_
            subst eU
            refine isnot_ref_none ?_
            repeat walk_at "S"
            refine ite_yes rfl ?_
            repeat walk_at "S"
            refine unpack_St hh St₈ ⟨oU, St₈.keep _ _ (hst₁ _ _ (hst _ _ gU)), cU, nU, dU⟩ fun h₉ hk₉ St₉ => ?_
            repeat ((fail_if_success (with_reducible show wpAny _ _ (PySem.isTrue _ _ _) _ _ _)); walk_at "S")
            rename_i St₁₀
            have eq39 : ("'" : Str) = qS := by decide +kernel
            have e10 : ("\n" : Str) = nlS := by decide +kernel
            refine wpAny_mono (Q := DueN G s outer h₁' it oi' D k₈ items₈ shift t2 tq i row tb2 tc1 tc2 p rows) ?_ ?_ (fun _ _ x => x)
            · repeat walk_at "S"
              rw [e10]
              by_cases hs : p.2 = nlS
              · refine ite_yes (by simp [hs]) ?_
                with_reducible refine tk2 fun _ => ?_
                dsimp only
                repeat walk_at "S"
                refine comp_St (G := G) (hin := s.heap) (outer := outer) (L := s.heap.objs.size) (h₀ := h₁') (fun v y => ∀ r, Rd h₀ v (rowData r) → y = .bool (hasQ r.body)) hh ?_
                refine lslice_sn (G := G) (hin := s.heap) (outer := outer) (L := s.heap.objs.size) (h₀ := h₁') ?_
                repeat walk_at "S"
                have hst₂ : h₀.StaysIn h₁' := fun b o e => hst₁ b o (hst b o e)
                refine ⟨a, va, i + 1, _, _, _, rfl, rfl, hIa fun b o e => St₁₀.keep b o (hst₂ b o e), by omega, St₁₀, fun D₂ h₁₁ hk₁₁ St₁₁ => ?_⟩
                refine ⟨D₂, _, _, _, rfl, ⟨_, St₁₁.get (.head _), rfl, _, rfl⟩, ?_, St₁₁, ?_, ?_⟩
                · rw [List.size_toArray, List.length_drop, Array.length_toList]; omega
                · intro C v j s₃ m₃ E' hv hn hm hk
                  have hvj : va.toList[i + 1 + j]? = some v := by
                    have : (va.toList.drop (i + 1))[j]? = some v := by simpa using hv
                    rwa [List.getElem?_drop] at this
                  obtain ⟨d, hd1, hd2⟩ := ra.get hvj
                  have hlt : i + 1 + j < rows.length := by
                    have := (List.getElem?_eq_some_iff.mp hd1).1
                    simpa using this
                  obtain rfl : d = rowData rows[i + 1 + j] := by
                    simp [List.getElem?_map, List.getElem?_eq_getElem hlt] at hd1
                    exact hd1.symm
                  generalize rows[i + 1 + j] = r₀ at hd2
                  obtain ⟨T', o', n', b1, b2, b3, w4, w5, rfl, g', c', d'⟩ := row_inv hd2
                  have hT' : IsTup s₃.heap T' #[.int r₀.blanks b1, .int r₀.stay b2, .str r₀.body b3, w4, w5] := ⟨o', hk _ _ (hk₁₁ _ _ (St₁₀.keep _ _ (hst₂ _ _ g'))), c', n', d'⟩
                  refine wpAny_Compare1 ?_ (by with_unfolding_all rfl)
                  refine Constant_str ?_
                  refine Subscript_ ?_
                  refine lc hn hm ?_
                  refine wpAny_Constant_int ?_
                  refine item_tuple (j := 2) (x := .str r₀.body b3) hT' (by decide) (by decide) (by rfl) rfl ?_
                  rw [eq39]
                  refine PyProof.Rows.in_str ?_
                  refine ⟨fun r hr => ?_, _, _, rfl, fun _ _ e => e⟩
                  rw [(row_same hd2 hr).2.2]; rfl
                · intro D₃ n₃ h₁₂ tk₁₂ ys hP hk₁₂ St₁₂
                  have hP := paired_bools (paired_rows (rs := rows.drop (i + 1)) hP (by simpa using ra.drop (i + 1)))
                  repeat walk_at "S"
                  refine any_St (bs := (rows.drop (i + 1)).map fun r => hasQ r.body) hh St₁₂ ⟨_, St₁₂.get (.head _), rfl, _, rfl⟩ hP fun h₁₃ tk₁₃ hk₁₃ St₁₃ => ?_
                  repeat walk_at "S"
                  generalize hX : (List.map (fun r => hasQ r.body) (List.drop (i + 1) rows)).any id = X at *
                  cases X with
                  | true => exact ⟨by rw [hX]; simp, _, _, _, rfl, St₁₃.sub (List.Sublist.cons _ (List.Sublist.cons _ (List.Sublist.refl _))), by walk_at "v", by walk_at "v", by walk_at "v", by walk_at "v", by walk_at "v", by walk_at "v"⟩
                  | false =>
                    refine ite_yes rfl ?_
                    repeat walk_at "S"
                    exact ⟨by rw [hX]; simp [hs], _, _, _, rfl, St₁₃.sub (List.Sublist.cons _ (List.Sublist.cons _ (List.Sublist.refl _))), by walk_at "v", by walk_at "v", by walk_at "v", by walk_at "v", by walk_at "v", by walk_at "v"⟩
              · refine ite_no (by simpa using hs) ?_
                exact ⟨by simp [hs], _, _, _, rfl, St₁₀, by walk_at "v", by walk_at "v", by walk_at "v", by walk_at "v", by walk_at "v", by walk_at "v"⟩
            · rintro b _ ⟨hb, h₁₁, tk₁₁, m₁₁, rfl, St₁₁, q1, q2, q3, q4, q5, q6⟩
              dsimp only at hdue
              rw [← hb] at hdue
              cases b with
              | true =>
                refine ite_yes rfl ?_
                repeat walk_at "S"
                refine mkTup St₁₁ (by simp) fun a₁₂ h₁₂ ha₁₂ hk₁₂ St₁₂ => ?_
                refine hR₂ _ _ ?_
                refine hQ _ _ _ St₁₂.ext St₁₂.tab ?_
                rw [← hdue]
                exact Rd.tuple (cut_get (ha₁₂ ▸ St₁₁.big) (St₁₂.get (.head _))) (.cons (Rd.list (cut_get hDn (St₁₂.get (.tail _ (.tail _ (.head _))))) (hI₈.keeps (cut_keeps St₁₂.keep))) (.cons .str .nil))
              | false =>
                refine ite_no (by decide) ?_
                repeat walk_at "S"
                refine mkTup St₁₁ (by simp) fun a₁₂ h₁₂ ha₁₂ hk₁₂ St₁₂ => ?_
                with_reducible refine tk2 fun _ => ?_
                dsimp only
                rw [fFault_eq]
                have hcol : (shift : Int) + row.stay + p.1 + 1 = ((shift + row.stay + p.1 + 1 : Nat) : Int) := rfl
                rw [hcol] at St₁₂
                refine pct_fault (line := i + 1) (col := shift + row.stay + p.1 + 1) (by omega) (by omega) hpk.2 ⟨_, St₁₂.get (.head _), rfl, 0, rfl⟩ fun t' k' => ?_
                with_reducible refine tk2 fun _ => ?_
                dsimp only
                repeat walk_at "S"
                refine mkTup St₁₂ (by simp) fun a₁₃ h₁₃ ha₁₃ hk₁₃ St₁₃ => ?_
                refine hR₂ _ _ ?_
                refine hQ _ _ _ St₁₃.ext St₁₃.tab ?_
                rw [← hdue]
                exact Rd.tuple (cut_get (ha₁₃ ▸ St₁₂.big) (St₁₃.get (.head _))) (.cons (Rd.list (cut_get hDn (St₁₃.get (.tail _ (.tail _ (.tail _ (.head _)))))) (hI₈.keeps (cut_keeps St₁₃.keep))) (.cons .str .nil))
      · have hin' : i = rows.length := by
          have h1 : va.size ≤ i := by simpa using hv
          omega
        subst hin'
        repeat walk_at "S"
        refine hR₂ _ _ ?_
        repeat walk_at "S"
        refine mkTup St' (by simp) fun a₇ h₇ ha₇ hk₇ St₇ => ?_
        have e : dueOf rows shift = (found, ("whole" : Str)) := by
          rw [← hdue, List.drop_length]; rfl
        refine hQ _ _ _ St₇.ext St₇.tab ?_
        rw [e]
        exact Rd.tuple (cut_get (ha₇ ▸ St'.big) (St₇.get (.head _))) (.cons (Rd.list (cut_get hDn (St₇.get (.tail _ (.head _)))) (hI.keeps (cut_keeps St₇.keep))) (.cons .str .nil))
    · exact ⟨0, _, h₀, _, _, _, oi, [], [], rfl, hoi, Nat.zero_le _, fun _ _ e => e, St₄, upd_off (by decide +kernel) (upd_off (by decide +kernel) rfl), upd_off (by decide +kernel) (upd_off (by decide +kernel) rfl), upd_off (by decide +kernel) upd_here, ⟨_, upd_here⟩, rfl, Nat.zero_le _, .nil, rfl⟩
end

section
open PySem PySem.W PyProof.Rows PySem.Calls
set_option maxRecDepth 100000

theorem str_eq {x y : Str} (h : x.cps.toList = y.cps.toList) : x = y := by
  cases x; cases y; congr 1; exact Array.toList_inj.mp h
theorem str_len (x : Str) : x.length = x.cps.toList.length := rfl
theorem str_app (x y : Str) : (x ++ y).cps.toList = x.cps.toList ++ y.cps.toList := by
  show (x.cps ++ y.cps).toList = _
  simp

/-- a line's start -/
noncomputable def LineStart (Q : List Nat) (i : Nat) : Prop := Q.count 10 = i ∧ (Q = [] ∨ ∃ Q', Q = Q' ++ [10])

section
variable {x : Str} {P Q L W C C1 C2 S T : List Nat} {i b c : Nat}

theorem take_at (hx : x.cps.toList = Q ++ S) : x.cps.toList.take Q.length = Q := by rw [hx]; simp
theorem drop_at (hx : x.cps.toList = Q ++ S) : x.cps.toList.drop Q.length = S := by rw [hx]; simp
theorem nlCount_at (hx : x.cps.toList = (Q ++ L) ++ S) (hq : LineStart Q i) (hL : 10 ∉ L) : nlCount x (Q.length + L.length) = i := by
  unfold nlCount
  have : (Q ++ L).length = Q.length + L.length := by simp
  rw [← this, take_at hx, List.count_append, hq.1, List.count_eq_zero.mpr hL]; rfl
theorem colOf_at (hx : x.cps.toList = (Q ++ L) ++ S) (hq : LineStart Q i) (hL : 10 ∉ L) : colOf x (Q.length + L.length) = L.length + 1 := by
  unfold colOf
  have : (Q ++ L).length = Q.length + L.length := by simp
  rw [← this, take_at hx, List.reverse_append]
  have hall : ∀ c ∈ L.reverse, (c != 10) = true := fun c hc => by
    have := List.mem_reverse.mp hc
    simp only [bne_iff_ne, ne_eq]
    rintro rfl; exact hL this
  rw [List.takeWhile_append_of_pos hall]
  rcases hq.2 with rfl | ⟨Q', rfl⟩
  · simp
  · simp

noncomputable abbrev inAt : List Nat := [32, 40, 97, 116, 32]
noncomputable abbrev lineL : List Nat := [108, 105, 110, 101, 32]
noncomputable abbrev colL : List Nat := [44, 32, 99, 111, 108, 117, 109, 110, 32]
noncomputable abbrev dg (l : Nat) : List Nat := (Str.ofString (toString (l : Int))).cps.toList
theorem lit_at : (" (at " : Str).cps.toList = inAt := by decide +kernel
theorem lit_line : ("line " : Str).cps.toList = lineL := by decide +kernel
theorem lit_col : (", column " : Str).cps.toList = colL := by decide +kernel
theorem lit_close : (")" : Str).cps.toList = [41] := by decide +kernel
theorem lit_end : ("end of document" : Str).cps.toList = [101, 110, 100, 32, 111, 102, 32, 100, 111, 99, 117, 109, 101, 110, 116] := by decide +kernel

/-- the words at a place within a line -/
theorem errText_at {msg : Str} (hx : x.cps.toList = (Q ++ L) ++ S) (hS : S ≠ []) (hq : LineStart Q i) (hL : 10 ∉ L) :
    (errText msg x (Q.length + L.length)).cps.toList = msg.cps.toList ++ inAt ++ (lineL ++ dg (i + 1) ++ colL ++ dg (L.length + 1)) ++ [41] := by
  have hlen : ¬ x.length ≤ Q.length + L.length := by
    rw [str_len, hx]
    have : S.length ≠ 0 := fun q => hS (List.eq_nil_of_length_eq_zero q)
    simp; omega
  unfold errText coordText
  rw [if_neg hlen, nlCount_at hx hq hL, colOf_at hx hq hL]
  simp only [str_app, lit_at, lit_line, lit_col, lit_close]
  rfl
theorem errText_end {msg : Str} : (errText msg x x.length).cps.toList = msg.cps.toList ++ inAt ++ [101, 110, 100, 32, 111, 102, 32, 100, 111, 99, 117, 109, 101, 110, 116] ++ [41] := by
  unfold errText coordText
  rw [if_pos (Nat.le_refl _)]
  simp only [str_app, lit_at, lit_close, lit_end]

noncomputable def isWs (c : Nat) : Bool := c == 32 || c == 9 || c == 10
noncomputable def isIll (c : Nat) : Bool := illegal ⟨#[c]⟩
theorem ws_sign (c : Nat) : wsNl ⟨#[c]⟩ = isWs c := by
  unfold isWs wsNl inText
  rw [Bool.eq_iff_iff]
  simp [or_assoc]
noncomputable def CleanL (l : List Nat) : Prop := ∀ c ∈ l, isIll c = false

theorem tw_split {p : Nat → Bool} (hW : ∀ c ∈ W, p c = true) (hS : ∀ c, S.head? = some c → p c = false) : (W ++ S).takeWhile p = W := by
  rw [List.takeWhile_append_of_pos hW]
  cases S with
  | nil => simp
  | cons c S => rw [List.takeWhile_cons, hS c rfl]; simp
theorem skipTo_at {F : Str → Bool} (hx : x.cps.toList = P ++ (W ++ S)) (hW : ∀ c ∈ W, F ⟨#[c]⟩ = true) (hS : ∀ c, S.head? = some c → F ⟨#[c]⟩ = false) : skipTo x F P.length = P.length + W.length := by
  unfold skipTo
  rw [drop_at hx, tw_split (p := fun c => F ⟨#[c]⟩) hW hS]

theorem get_at (hx : x.cps.toList = P ++ S) : x.cps[P.length]? = S.head? := by
  rw [← Array.getElem?_toList, hx, List.getElem?_append_right (Nat.le_refl _), Nat.sub_self, List.head?_eq_getElem?]

theorem find_at (hc : c ∉ C) : (C ++ c :: T).findIdx? (· == c) = some C.length := by
  induction C with
  | nil => rw [List.nil_append, List.findIdx?_cons]; simp
  | cons a C ih =>
    have h1 : (a == c) = false := by
      simp only [beq_eq_false_iff_ne, ne_eq]; rintro rfl; exact hc (.head _)
    rw [List.cons_append, List.findIdx?_cons, h1, ih fun q => hc (.tail _ q)]
    simp
theorem find_none (hc : c ∉ C) : C.findIdx? (· == c) = none := by
  rw [List.findIdx?_eq_none_iff]
  intro a ha
  simp only [beq_eq_false_iff_ne, ne_eq]; rintro rfl; exact hc ha
theorem index_at (hx : x.cps.toList = P ++ (C ++ c :: T)) (hc : c ∉ C) : indexFrom x c P.length = some (P.length + C.length) := by
  unfold indexFrom
  rw [drop_at hx, find_at hc]; rfl
theorem index_none (hx : x.cps.toList = P ++ C) (hc : c ∉ C) : indexFrom x c P.length = none := by
  unfold indexFrom
  rw [drop_at hx, find_none hc]; rfl
theorem until_ok (hx : x.cps.toList = P ++ (C ++ T)) (hC : CleanL C) : untilTo x P.length illegal (P.length + C.length) = .ok (P.length + C.length) := by
  unfold untilTo
  rw [drop_at hx, Nat.add_sub_cancel_left, List.take_left, if_pos]
  rw [List.all_eq_true]
  intro c hc
  have := hC c hc
  unfold isIll at this
  rw [this]; rfl
theorem until_err {np : Nat} (hx : x.cps.toList = P ++ (C1 ++ b :: C2)) (h1 : CleanL C1) (hb : isIll b = true) (hnp : P.length + C1.length < np) :
    untilTo x P.length illegal np = .error (errText ("Found invalid character " ++ reprText ⟨#[b]⟩) x (P.length + C1.length)) := by
  have hbad : badAt x illegal P.length = P.length + C1.length := by
    unfold badAt
    refine skipTo_at hx (fun c hc => ?_) fun c hc => ?_
    · have := h1 c hc
      unfold isIll at this
      rw [this]; rfl
    · simp at hc; subst hc
      unfold isIll at hb
      rw [hb]; rfl
  have hget : x.cps.toList.getD (P.length + C1.length) 0 = b := by
    rw [hx, List.getD_eq_getElem?_getD, List.getElem?_append_right (by omega), Nat.add_sub_cancel_left, List.getElem?_append_right (Nat.le_refl _), Nat.sub_self]; rfl
  unfold untilTo
  rw [hbad, hget, if_neg]
  rw [drop_at hx]
  intro q
  rw [List.all_eq_true] at q
  have hmem : b ∈ (C1 ++ b :: C2).take (np - P.length) := by
    obtain ⟨k, hk⟩ : ∃ k, np - P.length = C1.length + (k + 1) := ⟨np - P.length - C1.length - 1, by omega⟩
    rw [hk, List.take_length_add_append]; simp
  have := q b hmem
  unfold isIll at hb
  rw [hb] at this; cases this

/-- a comment's turn -/
theorem comment_ok (hx : x.cps.toList = P ++ (35 :: C ++ T)) (hn : 10 ∉ C) (hT : T = [] ∨ ∃ T', T = 10 :: T') (hC : CleanL C) : skipComment x P.length = .ok (P.length + 1 + C.length) := by
  have hx2 : x.cps.toList = (P ++ [35]) ++ (C ++ T) := by rw [hx]; simp
  have hl : (P ++ [35]).length = P.length + 1 := by simp
  unfold skipComment
  rw [get_at hx, if_pos (by simp)]
  unfold skipUntil
  rw [← hl]
  rcases hT with rfl | ⟨T', rfl⟩
  · have hx3 : x.cps.toList = (P ++ [35]) ++ C := by rw [hx2]; simp
    rw [index_none hx3 hn]
    have e : x.length = (P ++ [35]).length + C.length := by rw [str_len, hx3, List.length_append]
    dsimp only
    rw [if_neg (by decide), e]
    exact until_ok hx2 hC
  · rw [index_at hx2 hn]
    exact until_ok hx2 hC
theorem comment_err (hx : x.cps.toList = P ++ (35 :: (C1 ++ b :: C2) ++ T)) (hn : 10 ∉ C1 ++ b :: C2) (hT : T = [] ∨ ∃ T', T = 10 :: T') (h1 : CleanL C1) (hb : isIll b = true) :
    skipComment x P.length = .error (errText ("Found invalid character " ++ reprText ⟨#[b]⟩) x (P.length + 1 + C1.length)) := by
  have hx2 : x.cps.toList = (P ++ [35]) ++ ((C1 ++ b :: C2) ++ T) := by rw [hx]; simp
  have hx4 : x.cps.toList = (P ++ [35]) ++ (C1 ++ b :: (C2 ++ T)) := by rw [hx]; simp
  have hl : (P ++ [35]).length = P.length + 1 := by simp
  unfold skipComment
  rw [get_at hx, if_pos (by simp)]
  unfold skipUntil
  rw [← hl]
  rcases hT with rfl | ⟨T', rfl⟩
  · have hx3 : x.cps.toList = (P ++ [35]) ++ (C1 ++ b :: C2) := by rw [hx2]; simp
    rw [index_none hx3 hn]
    dsimp only
    rw [if_neg (by decide)]
    exact until_err hx4 h1 hb (by rw [str_len, hx3]; simp; omega)
  · rw [index_at hx2 hn]
    exact until_err hx4 h1 hb (by simp)

theorem turn_plain (hx : x.cps.toList = P ++ (W ++ S)) (hW : ∀ c ∈ W, isWs c = true) (hS : ∀ c, S.head? = some c → isWs c = false ∧ c ≠ 35) : wsTurn x P.length = .ok (P.length + W.length) := by
  unfold wsTurn
  rw [skipTo_at (F := wsNl) hx (fun c hc => by rw [ws_sign]; exact hW c hc) fun c hc => by rw [ws_sign]; exact (hS c hc).1]
  have hx2 : x.cps.toList = (P ++ W) ++ S := by rw [hx]; simp
  have hl : (P ++ W).length = P.length + W.length := by simp
  unfold skipComment
  rw [← hl, get_at hx2, if_neg]
  intro q
  exact (hS _ q).2 rfl
theorem turn_comment (hx : x.cps.toList = P ++ (W ++ (35 :: C ++ T))) (hW : ∀ c ∈ W, isWs c = true) (hn : 10 ∉ C) (hT : T = [] ∨ ∃ T', T = 10 :: T') (hC : CleanL C) : wsTurn x P.length = .ok (P.length + W.length + 1 + C.length) := by
  unfold wsTurn
  rw [skipTo_at (F := wsNl) hx (fun c hc => by rw [ws_sign]; exact hW c hc) fun c hc => by rw [ws_sign]; simp at hc; subst hc; rfl]
  have hx2 : x.cps.toList = (P ++ W) ++ (35 :: C ++ T) := by rw [hx]; simp
  have hl : (P ++ W).length = P.length + W.length := by simp
  rw [← hl]
  exact comment_ok hx2 hn hT hC
theorem turn_err (hx : x.cps.toList = P ++ (W ++ (35 :: (C1 ++ b :: C2) ++ T))) (hW : ∀ c ∈ W, isWs c = true) (hn : 10 ∉ C1 ++ b :: C2) (hT : T = [] ∨ ∃ T', T = 10 :: T') (h1 : CleanL C1) (hb : isIll b = true) :
    wsTurn x P.length = .error (errText ("Found invalid character " ++ reprText ⟨#[b]⟩) x (P.length + W.length + 1 + C1.length)) := by
  unfold wsTurn
  rw [skipTo_at (F := wsNl) hx (fun c hc => by rw [ws_sign]; exact hW c hc) fun c hc => by rw [ws_sign]; simp at hc; subst hc; rfl]
  have hx2 : x.cps.toList = (P ++ W) ++ (35 :: (C1 ++ b :: C2) ++ T) := by rw [hx]; simp
  have hl : (P ++ W).length = P.length + W.length := by simp
  rw [← hl]
  exact comment_err hx2 hn hT h1 hb
/-- blanks ahead of a place turn nothing -/
theorem turn_ws (hx : x.cps.toList = P ++ (W ++ S)) (hW : ∀ c ∈ W, isWs c = true) : wsTurn x P.length = wsTurn x (P.length + W.length) := by
  unfold wsTurn
  congr 1
  have hx2 : x.cps.toList = (P ++ W) ++ S := by rw [hx]; simp
  have hl : (P ++ W).length = P.length + W.length := by simp
  unfold skipTo
  rw [drop_at hx, ← hl, drop_at hx2, List.takeWhile_append_of_pos fun c hc => by rw [ws_sign]; exact hW c hc]
  simp; omega

/-- the text's end -/
theorem lit_ok (hx : x.cps.toList = P ++ (39 :: C ++ 39 :: T)) (hn : 39 ∉ C) (hC : CleanL C) : parseLit x P.length = .ok (P.length + 1 + C.length + 1, ⟨C.toArray⟩) := by
  have hx2 : x.cps.toList = (P ++ [39]) ++ (C ++ 39 :: T) := by rw [hx]; simp
  have hl : (P ++ [39]).length = P.length + 1 := by simp
  unfold parseLit skipUntil
  rw [← hl, index_at hx2 hn]
  dsimp only
  rw [until_ok hx2 hC]
  dsimp only
  rw [drop_at hx2, Nat.add_sub_cancel_left, List.take_left]
theorem lit_err (hx : x.cps.toList = P ++ (39 :: (C1 ++ b :: C2) ++ 39 :: T)) (hn : 39 ∉ C1 ++ b :: C2) (h1 : CleanL C1) (hb : isIll b = true) :
    parseLit x P.length = .error (errText ("Found invalid character " ++ reprText ⟨#[b]⟩) x (P.length + 1 + C1.length)) := by
  have hx2 : x.cps.toList = (P ++ [39]) ++ ((C1 ++ b :: C2) ++ 39 :: T) := by rw [hx]; simp
  have hx4 : x.cps.toList = (P ++ [39]) ++ (C1 ++ b :: (C2 ++ 39 :: T)) := by rw [hx]; simp
  have hl : (P ++ [39]).length = P.length + 1 := by simp
  unfold parseLit skipUntil
  rw [← hl, index_at hx2 hn]
  dsimp only
  rw [until_err hx4 h1 hb (by simp)]
theorem lit_eof (hx : x.cps.toList = P ++ 39 :: C) (hn : 39 ∉ C) : parseLit x P.length = .error (errText ("Expected " ++ reprText ⟨#[39]⟩) x x.length) := by
  have hx2 : x.cps.toList = (P ++ [39]) ++ C := by rw [hx]; simp
  have hl : (P ++ [39]).length = P.length + 1 := by simp
  unfold parseLit skipUntil
  rw [← hl, index_none hx2 hn]
  rfl
end

/-- what skip_comments_and_array_ws gives, no fuel in sight -/
inductive WsTo (x : Str) : Nat → Except Str Nat → Prop
  | stop {p : Nat} : wsTurn x p = .ok p → WsTo x p (.ok p)
  | err {p : Nat} {M : Str} : wsTurn x p = .error M → WsTo x p (.error M)
  | step {p q : Nat} {r : Except Str Nat} : wsTurn x p = .ok q → q ≠ p → WsTo x q r → WsTo x p r

section
variable {x : Str} {p p' q q' : Nat} {r : Except Str Nat} {M y : Str} {found : List (Str × Str)}
theorem WsTo.run (h : WsTo x p r) : ∀ k, p ≤ x.length → x.length + 1 - p ≤ k → skipWs x k p = r := by
  induction h with
  | stop h =>
    intro k hp hk
    obtain ⟨k, rfl⟩ : ∃ k', k = k' + 1 := ⟨k - 1, by omega⟩
    rw [skipWs, h]; dsimp only; rw [if_pos rfl]
  | err h =>
    intro k hp hk
    obtain ⟨k, rfl⟩ : ∃ k', k = k' + 1 := ⟨k - 1, by omega⟩
    rw [skipWs, h]
  | step h hn _ ih =>
    intro k hp hk
    obtain ⟨k, rfl⟩ : ∃ k', k = k' + 1 := ⟨k - 1, by omega⟩
    have := wsTurn_ok hp h
    rw [skipWs, h]; dsimp only; rw [if_neg hn]
    exact ih k this.2 (by omega)
theorem WsTo.ex (hp : p ≤ x.length) : ∃ r, WsTo x p r := by
  generalize hd : x.length - p = d
  induction d using Nat.strongRecOn generalizing p with
  | _ d ih =>
    cases h : wsTurn x p with
    | error M => exact ⟨_, .err h⟩
    | ok q =>
      have := wsTurn_ok hp h
      by_cases hq : q = p
      · subst hq; exact ⟨_, .stop h⟩
      · obtain ⟨r, hr⟩ := ih (x.length - q) (by omega) this.2 rfl
        exact ⟨r, .step h hq hr⟩
theorem WsTo.ge (h : WsTo x p (.ok q)) (hp : p ≤ x.length) : p ≤ q ∧ q ≤ x.length := by
  have e := h.run (x.length + 1 - p) hp (Nat.le_refl _)
  exact ⟨skipWs_ge hp e, skipWs_le hp e⟩
theorem WsTo.ahead (ht : wsTurn x p = wsTurn x p') (h : WsTo x p' r) : WsTo x p r := by
  by_cases hpp : p = p'
  · rw [hpp]; exact h
  cases h with
  | stop h => exact .step (ht.trans h) (Ne.symm hpp) (.stop h)
  | err h => exact .err (ht.trans h)
  | step h hn h2 =>
    rename_i q
    by_cases hq : q = p
    · subst hq
      exact h2
    · exact .step (ht.trans h) hq h2

/-- what the reader gives from a place on -/
noncomputable def RG (x : Str) (p : Nat) (found : List (Str × Str)) : List (Str × Str) × Str := readGo x (x.length + 1 - p) p found
theorem RG_err (hp : p ≤ x.length) (h : WsTo x p (.error M)) : RG x p found = (found, M) := by
  unfold RG
  rw [show x.length + 1 - p = (x.length - p) + 1 by omega, readGo, h.run _ hp (Nat.le_refl _)]
theorem RG_end (hp : p ≤ x.length) (h : WsTo x p (.ok q)) (hq : x.length ≤ q) : RG x p found = (found, ("whole" : Str)) := by
  unfold RG
  rw [show x.length + 1 - p = (x.length - p) + 1 by omega, readGo, h.run _ hp (Nat.le_refl _)]
  dsimp only
  rw [if_pos hq]
theorem RG_bad (hp : p ≤ x.length) (h : WsTo x p (.ok q)) (hq : q < x.length) (h2 : parseLit x q = .error M) : RG x p found = (found, M) := by
  unfold RG
  rw [show x.length + 1 - p = (x.length - p) + 1 by omega, readGo, h.run _ hp (Nat.le_refl _)]
  dsimp only
  rw [if_neg (by omega), h2]
theorem RG_text (hp : p ≤ x.length) (h : WsTo x p (.ok q)) (hq : q < x.length) (h2 : parseLit x q = .ok (q', y)) : RG x p found = RG x q' (found ++ [(errText "text" x q, y)]) := by
  have h3 := parseLit_ok hq h2
  have h4 := h.ge hp
  unfold RG
  conv => lhs; rw [show x.length + 1 - p = (x.length - p) + 1 by omega, readGo, h.run _ hp (Nat.le_refl _)]
  dsimp only
  rw [if_neg (by omega), h2]
  dsimp only
  exact readGo_fuel (x.length - q') q' _ _ (Nat.le_refl _) h3.2 (by omega)
theorem RG_ws (hp : p ≤ x.length) (hp' : p' ≤ x.length) (h : ∀ r, WsTo x p' r → WsTo x p r) : RG x p found = RG x p' found := by
  obtain ⟨r, hr⟩ := WsTo.ex hp'
  have hr' := h r hr
  cases r with
  | error M => rw [RG_err hp hr', RG_err hp' hr]
  | ok q =>
    by_cases hq : x.length ≤ q
    · rw [RG_end hp hr' hq, RG_end hp' hr hq]
    · cases h2 : parseLit x q with
      | error M => rw [RG_bad hp hr' (by omega) h2, RG_bad hp' hr (by omega) h2]
      | ok t =>
        obtain ⟨q', y⟩ := t
        rw [RG_text hp hr' (by omega) h2, RG_text hp' hr (by omega) h2]
end
end

section
open PySem PySem.W PyProof.Rows PySem.Calls
set_option maxRecDepth 100000

/-- what a row is made of -/
structure RowShape (r : Row) (k : Nat) (w : Str) (b : Nat) : Prop where
  body : r.body = (bodyOf k w ⟨#[b]⟩).1
  texts : r.texts = (bodyOf k w ⟨#[b]⟩).2.1
  fault : r.fault = (bodyOf k w ⟨#[b]⟩).2.2
  clean : CleanL w.cps.toList
  w10 : 10 ∉ w.cps.toList
  w39 : 39 ∉ w.cps.toList
  bIll : isIll b = true
  b10 : b ≠ 10
  b39 : b ≠ 39

noncomputable def bodyL : Nat → List Nat → Nat → List Nat
  | 0, _, _ => []
  | 1, w, _ => 35 :: w
  | 2, w, _ => 39 :: w ++ [39]
  | 3, w, _ => 39 :: w ++ 39 :: 39 :: 39 :: 35 :: 39 :: w
  | 4, w, b => 35 :: (w ++ b :: [39, b])
  | 5, w, b => 39 :: 39 :: 39 :: (w ++ b :: w) ++ 39 :: [b]
  | _, w, _ => 39 :: w
theorem lit_nil : ("" : Str).cps.toList = [] := by decide +kernel
theorem lit_h : ("#" : Str).cps.toList = [35] := by decide +kernel
theorem lit_q : ("'" : Str).cps.toList = [39] := by decide +kernel
theorem lit_q3 : ("'''" : Str).cps.toList = [39, 39, 39] := by decide +kernel
theorem lit_qh : ("'''#'" : Str).cps.toList = [39, 39, 39, 35, 39] := by decide +kernel
theorem bodyL_eq (k : Nat) (w : Str) (b : Nat) : (bodyOf k w ⟨#[b]⟩).1.cps.toList = bodyL k w.cps.toList b := by
  have hb : (⟨#[b]⟩ : Str).cps.toList = [b] := rfl
  match k with
  | 0 => exact lit_nil
  | 1 => simp only [bodyOf, bodyL, str_app, lit_h]; rfl
  | 2 => simp only [bodyOf, bodyL, str_app, lit_q]; rfl
  | 3 => simp only [bodyOf, bodyL, str_app, lit_q, lit_qh]; simp
  | 4 => simp only [bodyOf, bodyL, str_app, lit_q, lit_h]; simp
  | 5 => simp only [bodyOf, bodyL, str_app, lit_q, lit_q3]; simp
  | n + 6 => simp only [bodyOf, bodyL, str_app, lit_q]; rfl

theorem nl_lit : ("\n" : Str) = nlS := by decide +kernel
theorem empty_lit : ("" : Str) = ⟨#[]⟩ := by decide +kernel

section
variable {x : Str} {P Q L W S T : List Nat} {i : Nat}
theorem lit_text : ("text" : Str).cps.toList = [116, 101, 120, 116] := by decide +kernel
theorem lit_found : ("Found invalid character " : Str).cps.toList = [70, 111, 117, 110, 100, 32, 105, 110, 118, 97, 108, 105, 100, 32, 99, 104, 97, 114, 97, 99, 116, 101, 114, 32] := by decide +kernel
theorem text_eq (hx : x.cps.toList = (Q ++ L) ++ S) (hS : S ≠ []) (hq : LineStart Q i) (hL : 10 ∉ L) {n : Nat} (hn : n = L.length + 1) : errText "text" x (Q.length + L.length) = textMsg (i + 1) n := by
  subst hn
  refine str_eq ?_
  rw [errText_at hx hS hq hL, lit_text]
  show _ = pText (i + 1) (L.length + 1)
  simp
theorem fault_eq {y : Str} (hx : x.cps.toList = (Q ++ L) ++ S) (hS : S ≠ []) (hq : LineStart Q i) (hL : 10 ∉ L) {n : Nat} (hn : n = L.length + 1) :
    errText ("Found invalid character " ++ reprText y) x (Q.length + L.length) = faultMsg y (i + 1) n := by
  subst hn
  refine str_eq ?_
  rw [errText_at hx hS hq hL, str_app, lit_found]
  show _ = pFault (reprText y).cps.toList (i + 1) (L.length + 1)
  simp
theorem eod_eq : errText ("Expected " ++ reprText ⟨#[39]⟩) x x.length = eodMsg := by
  refine str_eq ?_
  rw [errText_end]
  decide +kernel

theorem ws_stop (hx : x.cps.toList = P ++ (W ++ S)) (hW : ∀ c ∈ W, isWs c = true) (hS : ∀ c, S.head? = some c → isWs c = false ∧ c ≠ 35) : WsTo x P.length (.ok (P.length + W.length)) := by
  have h1 := turn_plain hx hW hS
  cases W with
  | nil => exact .stop h1
  | cons a W =>
    have hx2 : x.cps.toList = (P ++ a :: W) ++ ([] ++ S) := by rw [hx]; simp
    have h2 := turn_plain hx2 (fun _ q => nomatch q) hS
    have e : (P ++ a :: W).length + ([] : List Nat).length = P.length + (a :: W).length := by simp
    have e2 : (P ++ a :: W).length = P.length + (a :: W).length := by simp
    rw [e, e2] at h2
    exact .step h1 (by simp) (.stop h2)
theorem WsTo.behind {p p' : Nat} {r : Except Str Nat} (ht : wsTurn x p = .ok p') (hn : p' ≠ p) (h : WsTo x p' r) : WsTo x p r := .step ht hn h
end

noncomputable def tailL (pad : Row → Nat) (rs : List Row) : List Nat := rs.flatMap fun r => 10 :: (List.replicate (pad r) 32 ++ r.body.cps.toList)
theorem tail_head (pad : Row → Nat) (rs : List Row) : tailL pad rs = [] ∨ ∃ T', tailL pad rs = 10 :: T' := by
  cases rs with
  | nil => exact .inl rfl
  | cons r rs => exact .inr ⟨_, rfl⟩
theorem hasQ_eq (x : Str) : hasQ x = decide (39 ∈ x.cps.toList) := by
  unfold hasQ
  exact StrLaws.found_one x 39
theorem tail_q (pad : Row → Nat) : ∀ rs : List Row, ((rs.map fun r => hasQ r.body).any id) = decide (39 ∈ tailL pad rs)
  | [] => by simp [tailL]
  | r :: rs => by
    have ih := tail_q pad rs
    rw [List.map_cons, List.any_cons, ih, hasQ_eq]
    have e : tailL pad (r :: rs) = 10 :: (List.replicate (pad r) 32 ++ r.body.cps.toList) ++ tailL pad rs := rfl
    rw [e, Bool.eq_iff_iff]
    simp
theorem blank_ws {n : Nat} : ∀ c ∈ List.replicate n 32, isWs c = true := fun c hc => by rw [(List.mem_replicate.mp hc).2]; rfl
theorem blank_10 {n : Nat} : 10 ∉ List.replicate n 32 := fun hc => by have := (List.mem_replicate.mp hc).2; omega
theorem ill_10 : isIll 10 = true := by decide +kernel
theorem ill_39 : isIll 39 = false := by decide +kernel
theorem first_split {c : Nat} : ∀ {T : List Nat}, c ∈ T → ∃ T1 T2, T = T1 ++ c :: T2 ∧ c ∉ T1
  | [], h => nomatch h
  | a :: T, h => by
    by_cases ha : a = c
    · subst ha; exact ⟨[], T, rfl, fun q => nomatch q⟩
    · obtain ⟨T1, T2, e, hn⟩ := first_split (T := T) (by
        rcases List.mem_cons.mp h with q | q
        · exact absurd q.symm ha
        · exact q)
      exact ⟨a :: T1, T2, by rw [e]; rfl, fun q => by
        rcases List.mem_cons.mp q with q | q
        · exact ha q.symm
        · exact hn q⟩

section
variable {P Q W B v M N : List Nat} {w : Str} {sh st pd : Nat}
theorem wb1 (h : Q = P ++ W) : P.length + (W ++ B).length = (Q ++ B).length := by subst h; simp
theorem wb2 (h : Q = P ++ W) : P.length + (W ++ B).length = Q.length + B.length := by subst h; simp; omega
theorem wb3 (h : Q.length = P.length + W.length) (hM : M.length = B.length + (1 + v.length)) : P.length + (W ++ B).length + 1 + v.length = Q.length + M.length := by simp; omega
theorem wn1 (hp : pd = sh + st) (hB : B.length = pd) : sh + st + 0 + 1 = B.length + 1 := by omega
theorem wn2 (hp : pd = sh + st) (hB : B.length = pd) (hM : M.length = B.length + (1 + v.length + 1)) : sh + st + (v.length + 2) + 1 = M.length + 1 := by omega
theorem wn3 (hp : pd = sh + st) (hB : B.length = pd) (hw : w.length = v.length) (hM : M.length = B.length + (1 + v.length)) : sh + st + (w.length + 1) + 1 = M.length + 1 := by omega
theorem wn4 (hp : pd = sh + st) (hB : B.length = pd) (hw : w.length = v.length) (hM : M.length = B.length + 2) (hN : N.length = M.length + (1 + v.length)) : sh + st + (w.length + 3) + 1 = N.length + 1 := by omega
theorem we2 : (Q ++ B).length + 1 + v.length + 1 = (Q ++ (B ++ (39 :: v ++ [39]))).length := by simp; omega
theorem wm3 (h : B ++ (39 :: v ++ [39]) = M) : M.length = B.length + (1 + v.length + 1) := by subst h; simp; omega
theorem we3 (h : M.length = B.length + (1 + v.length + 1)) : (Q ++ B).length + 1 + v.length + 1 = (Q ++ M).length := by simp; omega
theorem we6 (h : N.length = M.length + 2) : (Q ++ M).length + 1 + ([] : List Nat).length + 1 = (Q ++ N).length := by simp; omega
theorem we7 (h : N.length = M.length + 2) (hM : M.length = B.length + (1 + v.length + 1)) : (Q ++ N).length + ([] : List Nat).length + 1 + (39 :: v).length = (Q ++ (B ++ (39 :: v ++ 39 :: 39 :: 39 :: 35 :: 39 :: v))).length := by simp; omega
theorem wm4 {c : Nat} (h : B ++ c :: v = M) : M.length = B.length + (1 + v.length) := by subst h; simp; omega
theorem we8 (h : N.length = M.length + (1 + v.length)) : (Q ++ M).length + 1 + v.length = Q.length + N.length := by simp; omega
theorem wk1 (h : Q = P ++ W) : (Q ++ (B ++ 35 :: v)).length = P.length + (W ++ B).length + 1 + v.length := by subst h; simp; omega
end

theorem row_step {x : Str} {r : Row} {rs : List Row} {pad : Row → Nat} {shift k b i : Nat} {w : Str} {P Q W : List Nat} {found : List (Str × Str)}
    (sh : RowShape r k w b) (hpad : r.body.cps.toList ≠ [] → pad r = shift + r.stay)
    (hx : x.cps.toList = Q ++ (List.replicate (pad r) 32 ++ (r.body.cps.toList ++ tailL pad rs))) (hQ : LineStart Q i) (hPW : Q = P ++ W) (hW : ∀ c ∈ W, isWs c = true)
    (ih : ∀ found', RG x (Q ++ (List.replicate (pad r) 32 ++ r.body.cps.toList)).length found' = dueGo shift (i + 1) found' rs) :
    RG x P.length found = dueGo shift i found (r :: rs) := by
  obtain ⟨hb, ht, hf, hc, h10, h39, hI, hb10, hb39⟩ := sh
  have hbl : r.body.cps.toList = bodyL k w.cps.toList b := by rw [hb, bodyL_eq]
  rw [hbl] at hpad hx ih
  generalize hB : List.replicate (pad r) 32 = B at *
  have hBw : ∀ c ∈ B, isWs c = true := by rw [← hB]; exact blank_ws
  have hB10 : 10 ∉ B := by rw [← hB]; exact blank_10
  have hBl : B.length = pad r := by rw [← hB]; simp
  have hT := tail_head pad rs
  have hq := tail_q pad rs
  generalize hTT : tailL pad rs = T at *
  generalize hwl : w.cps.toList = v at *
  have hws : ∀ c ∈ W ++ B, isWs c = true := fun c hc => (List.mem_append.mp hc).elim (hW c) (hBw c)
  have hlen : x.length = Q.length + (B.length + ((bodyL k v b).length + T.length)) := by rw [str_len, hx]; simp
  have hQl : Q.length = P.length + W.length := by rw [hPW]; simp
  have hPle : P.length ≤ x.length := by omega
  have hwlen : w.length = v.length := by rw [str_len, hwl]
  have hw : w = ⟨v.toArray⟩ := str_eq (by rw [hwl])
  have el : ∀ l : List Nat, (Q ++ (B ++ l)).length = Q.length + (B.length + l.length) := fun l => by simp
  unfold dueGo
  rw [ht, hf]
  match k, hbl with
  | 0, hbl =>
    simp only [bodyL, bodyOf] at *
    simp only [List.length_append, List.length_cons, List.length_nil] at hlen
    have e : found ++ dueTexts shift r.stay (i + 1) [] = found := by simp [dueTexts]
    rw [e, ← ih found]
    have hx1 : x.cps.toList = P ++ ((W ++ B) ++ T) := by rw [hx, hPW]; simp
    have e2 : (Q ++ (B ++ [])).length = P.length + (W ++ B).length := by simp [hPW]
    rw [e2]
    exact RG_ws hPle (by simp only [List.length_append, List.length_cons, List.length_nil]; omega) fun r hr => WsTo.ahead (turn_ws hx1 hws) hr
  | 1, hbl =>
    simp only [bodyL, bodyOf] at *
    simp only [List.length_append, List.length_cons, List.length_nil] at hlen
    have e : found ++ dueTexts shift r.stay (i + 1) [] = found := by simp [dueTexts]
    rw [e, ← ih found]
    have hx1 : x.cps.toList = P ++ ((W ++ B) ++ (35 :: v ++ T)) := by rw [hx, hPW]; simp
    have t1 := turn_comment hx1 hws h10 hT hc
    have e2 : (Q ++ (B ++ 35 :: v)).length = P.length + (W ++ B).length + 1 + v.length := wk1 hPW
    rw [e2]
    exact RG_ws hPle (by simp only [List.length_append, List.length_cons, List.length_nil]; omega) fun r hr => WsTo.step t1 (by omega) hr
  | 2, hbl =>
    simp only [bodyL, bodyOf] at *
    simp only [List.length_append, List.length_cons, List.length_nil] at hlen
    have hp : pad r = shift + r.stay := hpad (by simp)
    have hx1 : x.cps.toList = P ++ ((W ++ B) ++ (39 :: v ++ 39 :: T)) := by rw [hx, hPW]; simp
    have hx2 : x.cps.toList = (Q ++ B) ++ (39 :: v ++ 39 :: T) := by rw [hx]; simp
    have s1 := ws_stop hx1 hws (fun c q => by simp at q; subst q; decide)
    have e1 : P.length + (W ++ B).length = (Q ++ B).length := wb1 hPW
    have e1' : P.length + (W ++ B).length = Q.length + B.length := wb2 hPW
    rw [RG_text hPle s1 (by simp only [List.length_append, List.length_cons, List.length_nil]; omega) (by rw [e1]; exact lit_ok hx2 h39 hc), e1', text_eq hx2 (by simp) hQ hB10 (n := shift + r.stay + 0 + 1) (wn1 hp hBl)]
    have e2 : (Q ++ B).length + 1 + v.length + 1 = (Q ++ (B ++ (39 :: v ++ [39]))).length := we2
    rw [e2, ih, ← hw]
    rfl
  | 3, hbl =>
    simp only [bodyL, bodyOf] at *
    simp only [List.length_append, List.length_cons, List.length_nil] at hlen
    have hp : pad r = shift + r.stay := hpad (by simp)
    have hx1 : x.cps.toList = P ++ ((W ++ B) ++ (39 :: v ++ 39 :: (39 :: 39 :: 35 :: 39 :: v ++ T))) := by rw [hx, hPW]; simp
    have hx2 : x.cps.toList = (Q ++ B) ++ (39 :: v ++ 39 :: (39 :: 39 :: 35 :: 39 :: v ++ T)) := by rw [hx]; simp
    have s1 := ws_stop hx1 hws (fun c q => by simp at q; subst q; decide)
    have e1 : P.length + (W ++ B).length = (Q ++ B).length := wb1 hPW
    have e1' : P.length + (W ++ B).length = Q.length + B.length := wb2 hPW
    rw [RG_text hPle s1 (by simp only [List.length_append, List.length_cons, List.length_nil]; omega) (by rw [e1]; exact lit_ok hx2 h39 hc), e1', text_eq hx2 (by simp) hQ hB10 (n := shift + r.stay + 0 + 1) (wn1 hp hBl)]
    generalize hM : B ++ (39 :: v ++ [39]) = M at *
    have hMl : M.length = B.length + (1 + v.length + 1) := wm3 hM
    have hM10 : 10 ∉ M := by rw [← hM]; simp [hB10, h10]
    have hx3 : x.cps.toList = (Q ++ M) ++ ([] ++ (39 :: [] ++ 39 :: (35 :: 39 :: v ++ T))) := by rw [hx, ← hM]; simp
    have hx4 : x.cps.toList = (Q ++ M) ++ (39 :: [] ++ 39 :: (35 :: 39 :: v ++ T)) := by rw [hx, ← hM]; simp
    have s2 := ws_stop hx3 (fun _ q => nomatch q) (fun c q => by simp at q; subst q; decide)
    have e3 : (Q ++ B).length + 1 + v.length + 1 = (Q ++ M).length := we3 hMl
    have e4 : (Q ++ M).length + ([] : List Nat).length = (Q ++ M).length := by simp
    have e5 : (Q ++ M).length = Q.length + M.length := by simp
    rw [e4] at s2
    rw [e3, RG_text (by simp only [List.length_append, List.length_cons, List.length_nil]; omega) s2 (by simp only [List.length_append, List.length_cons, List.length_nil]; omega) (lit_ok hx4 (fun q => nomatch q) (fun _ q => nomatch q))]
    conv => lhs; arg 3; rw [e5]
    rw [text_eq hx4 (by simp) hQ hM10 (n := shift + r.stay + (v.length + 2) + 1) (wn2 hp hBl hMl)]
    generalize hN : M ++ [39, 39] = N at *
    have hx5 : x.cps.toList = (Q ++ N) ++ ([] ++ (35 :: (39 :: v) ++ T)) := by rw [hx, ← hN, ← hM]; simp
    have t1 := turn_comment hx5 (fun _ q => nomatch q) (by simp [h10]) hT (fun c q => by
      rcases List.mem_cons.mp q with rfl | q
      · exact ill_39
      · exact hc c q)
    have hNl : N.length = M.length + 2 := by rw [← hN]; simp
    have e6 : (Q ++ M).length + 1 + ([] : List Nat).length + 1 = (Q ++ N).length := we6 hNl
    have e7 : (Q ++ N).length + ([] : List Nat).length + 1 + (39 :: v).length = (Q ++ (B ++ (39 :: v ++ 39 :: 39 :: 39 :: 35 :: 39 :: v))).length := we7 hNl hMl
    rw [e7] at t1
    rw [e6, RG_ws (p' := (Q ++ (B ++ (39 :: v ++ 39 :: 39 :: 39 :: 35 :: 39 :: v))).length) (by simp only [List.length_append, List.length_cons, List.length_nil]; omega) (by simp only [List.length_append, List.length_cons, List.length_nil]; omega) fun r hr => WsTo.step t1 (by simp; omega) hr, ih]
    congr 1
    rw [hwlen, ← hw, empty_lit]
    simp [dueTexts]
  | 4, hbl =>
    simp only [bodyL, bodyOf] at *
    simp only [List.length_append, List.length_cons, List.length_nil] at hlen
    have hp : pad r = shift + r.stay := hpad (by simp)
    have e : found ++ dueTexts shift r.stay (i + 1) [] = found := by simp [dueTexts]
    rw [e]
    have hx1 : x.cps.toList = P ++ ((W ++ B) ++ (35 :: (v ++ b :: [39, b]) ++ T)) := by rw [hx, hPW]; simp
    have t1 := turn_err hx1 hws (by simp [h10, Ne.symm hb10]) hT hc hI
    generalize hM : B ++ 35 :: v = M at *
    have hMl : M.length = B.length + (1 + v.length) := wm4 hM
    have hM10 : 10 ∉ M := by rw [← hM]; simp [hB10, h10]
    have hx2 : x.cps.toList = (Q ++ M) ++ (b :: 39 :: b :: T) := by rw [hx, ← hM]; simp
    have e1 : P.length + (W ++ B).length + 1 + v.length = Q.length + M.length := wb3 hQl hMl
    rw [e1, fault_eq hx2 (by simp) hQ hM10 (n := shift + r.stay + (w.length + 1) + 1) (wn3 hp hBl hwlen hMl)] at t1
    rw [RG_err hPle (.err t1)]
    have hnb : ((⟨#[b]⟩ : Str) == nlS) = false := by simp [nlS, hb10]
    rw [hnb, Bool.false_and, if_neg (by decide)]
  | 5, hbl =>
    simp only [bodyL, bodyOf] at *
    simp only [List.length_append, List.length_cons, List.length_nil] at hlen
    have hp : pad r = shift + r.stay := hpad (by simp)
    have hx1 : x.cps.toList = P ++ ((W ++ B) ++ (39 :: [] ++ 39 :: (39 :: (v ++ b :: v) ++ 39 :: b :: T))) := by rw [hx, hPW]; simp
    have hx2 : x.cps.toList = (Q ++ B) ++ (39 :: [] ++ 39 :: (39 :: (v ++ b :: v) ++ 39 :: b :: T)) := by rw [hx]; simp
    have s1 := ws_stop hx1 hws (fun c q => by simp at q; subst q; decide)
    have e1 : P.length + (W ++ B).length = (Q ++ B).length := wb1 hPW
    have e1' : P.length + (W ++ B).length = Q.length + B.length := wb2 hPW
    rw [RG_text hPle s1 (by simp only [List.length_append, List.length_cons, List.length_nil]; omega) (by rw [e1]; exact lit_ok hx2 (fun q => nomatch q) (fun _ q => nomatch q)), e1', text_eq hx2 (by simp) hQ hB10 (n := shift + r.stay + 0 + 1) (wn1 hp hBl)]
    generalize hM : B ++ [39, 39] = M at *
    have hMl : M.length = B.length + 2 := by rw [← hM]; simp
    have hM10 : 10 ∉ M := by rw [← hM]; simp [hB10]
    have hx3 : x.cps.toList = (Q ++ M) ++ ([] ++ (39 :: (v ++ b :: v) ++ 39 :: b :: T)) := by rw [hx, ← hM]; simp
    have hx4 : x.cps.toList = (Q ++ M) ++ (39 :: (v ++ b :: v) ++ 39 :: b :: T) := by rw [hx, ← hM]; simp
    have s2 := ws_stop hx3 (fun _ q => nomatch q) (fun c q => by simp at q; subst q; decide)
    have e3 : (Q ++ B).length + 1 + ([] : List Nat).length + 1 = (Q ++ M).length := by simp; omega
    have e4 : (Q ++ M).length + ([] : List Nat).length = (Q ++ M).length := by simp
    rw [e4] at s2
    have p1 := lit_err hx4 (by simp [h39, Ne.symm hb39]) hc hI
    generalize hN : M ++ 39 :: v = N at *
    have hNl : N.length = M.length + (1 + v.length) := wm4 hN
    have hN10 : 10 ∉ N := by rw [← hN]; simp [hM10, h10]
    have hx5 : x.cps.toList = (Q ++ N) ++ (b :: v ++ 39 :: b :: T) := by rw [hx, ← hN, ← hM]; simp
    have e6 : (Q ++ M).length + 1 + v.length = Q.length + N.length := we8 hNl
    rw [e6, fault_eq hx5 (by simp) hQ hN10 (n := shift + r.stay + (w.length + 3) + 1) (wn4 hp hBl hwlen hMl hNl)] at p1
    rw [e3, RG_bad (by simp only [List.length_append, List.length_cons, List.length_nil]; omega) s2 (by simp only [List.length_append, List.length_cons, List.length_nil]; omega) p1]
    have hnb : ((⟨#[b]⟩ : Str) == nlS) = false := by simp [nlS, hb10]
    rw [hnb, Bool.false_and, if_neg (by decide), empty_lit]
    simp [dueTexts]
  | k + 6, hbl =>
    simp only [bodyL, bodyOf] at *
    simp only [List.length_append, List.length_cons, List.length_nil] at hlen
    have hp : pad r = shift + r.stay := hpad (by simp)
    have e : found ++ dueTexts shift r.stay (i + 1) [] = found := by simp [dueTexts]
    rw [e]
    have hx1 : x.cps.toList = P ++ ((W ++ B) ++ (39 :: (v ++ T))) := by rw [hx, hPW]; simp
    have hx2 : x.cps.toList = (Q ++ B) ++ (39 :: (v ++ T)) := by rw [hx]; simp
    have s1 := ws_stop hx1 hws (fun c q => by simp at q; subst q; decide)
    have e1 : P.length + (W ++ B).length = (Q ++ B).length := wb1 hPW
    rw [e1] at s1
    rw [nl_lit, hq, beq_self_eq_true, Bool.true_and]
    by_cases h : 39 ∈ T
    · rw [decide_eq_true h, if_neg (by decide)]
      rcases hT with hT | ⟨T', hT⟩
      · rw [hT] at h; cases h
      · have h' : 39 ∈ T' := by
          rw [hT] at h
          rcases List.mem_cons.mp h with q | q
          · cases q
          · exact q
        obtain ⟨T1, T2, eT, hn⟩ := first_split h'
        have hx4 : x.cps.toList = (Q ++ B) ++ (39 :: (v ++ 10 :: T1) ++ 39 :: T2) := by rw [hx2, hT, eT]; simp
        have p1 := lit_err hx4 (by simp [h39, hn]) hc ill_10
        generalize hN : B ++ 39 :: v = N at *
        have hNl : N.length = B.length + (1 + v.length) := wm4 hN
        have hN10 : 10 ∉ N := by rw [← hN]; simp [hB10, h10]
        have hx5 : x.cps.toList = (Q ++ N) ++ (10 :: T1 ++ 39 :: T2) := by rw [hx4, ← hN]; simp
        have e6 : (Q ++ B).length + 1 + v.length = Q.length + N.length := we8 hNl
        rw [e6, fault_eq hx5 (by simp) hQ hN10 (n := shift + r.stay + (w.length + 1) + 1) (wn3 hp hBl hwlen hNl)] at p1
        exact RG_bad hPle s1 (by simp only [List.length_append, List.length_cons, List.length_nil]; omega) p1
    · rw [decide_eq_false h, if_pos (by decide)]
      have hn : 39 ∉ v ++ T := fun q => (List.mem_append.mp q).elim h39 h
      have p1 := lit_eof hx2 hn
      rw [eod_eq] at p1
      exact RG_bad hPle s1 (by simp only [List.length_append, List.length_cons, List.length_nil]; omega) p1

noncomputable def Shaped (r : Row) : Prop := ∃ k w b, RowShape r k w b
theorem Shaped.no10 {r : Row} (h : Shaped r) : 10 ∉ r.body.cps.toList := by
  obtain ⟨k, w, b, hb, _, _, _, h10, _, _, hb10, _⟩ := h
  rw [hb, bodyL_eq]
  match k with
  | 0 => simp [bodyL]
  | 1 => simp [bodyL, h10]
  | 2 => simp [bodyL, h10]
  | 3 => simp [bodyL, h10]
  | 4 => simp [bodyL, h10, Ne.symm hb10]
  | 5 => simp [bodyL, h10, Ne.symm hb10]
  | n + 6 => simp [bodyL, h10]

theorem tail_read {x : Str} {pad : Row → Nat} {shift : Nat} : ∀ (rs : List Row) (i : Nat) (found : List (Str × Str)) (P : List Nat), (∀ r ∈ rs, Shaped r ∧ (r.body.cps.toList ≠ [] → pad r = shift + r.stay)) →
    x.cps.toList = P ++ tailL pad rs → P.count 10 + 1 = i → RG x P.length found = dueGo shift i found rs
  | [], i, found, P, _, hx, hi => by
    have hx1 : x.cps.toList = P ++ ([] ++ []) := by rw [hx]; rfl
    have s1 := ws_stop hx1 (fun _ q => nomatch q) (fun c q => by cases q)
    have hl : x.length = P.length := by rw [str_len, hx1]; simp
    rw [RG_end (by omega) s1 (by simp; omega)]
    rfl
  | r :: rs, i, found, P, hr, hx, hi => by
    obtain ⟨⟨k, w, b, sh⟩, hpad⟩ := hr r (.head _)
    have h10 := (hr r (.head _)).1.no10
    have hx1 : x.cps.toList = (P ++ [10]) ++ (List.replicate (pad r) 32 ++ (r.body.cps.toList ++ tailL pad rs)) := by rw [hx]; simp [tailL]
    refine row_step sh hpad hx1 (i := i) ⟨by rw [List.count_append]; simpa using hi, .inr ⟨P, rfl⟩⟩ rfl (fun c q => by rw [List.mem_singleton.mp q]; rfl) fun found' => ?_
    refine tail_read rs (i + 1) found' _ (fun r' h => hr r' (.tail _ h)) (by rw [hx1]; simp) ?_
    have c1 : (List.replicate (pad r) 32).count 10 = 0 := List.count_eq_zero.mpr blank_10
    have c2 : r.body.cps.toList.count 10 = 0 := List.count_eq_zero.mpr h10
    simp only [List.count_append, c1, c2, List.count_singleton_self]
    omega
theorem doc_read {x : Str} {pad : Row → Nat} {shift : Nat} {r : Row} {rs : List Row} (hr : ∀ r' ∈ r :: rs, Shaped r' ∧ (r'.body.cps.toList ≠ [] → pad r' = shift + r'.stay))
    (hx : x.cps.toList = List.replicate (pad r) 32 ++ (r.body.cps.toList ++ tailL pad rs)) : readGo x (x.length + 1) 0 [] = dueOf (r :: rs) shift := by
  obtain ⟨⟨k, w, b, sh⟩, hpad⟩ := hr r (.head _)
  have h10 := (hr r (.head _)).1.no10
  have := row_step (P := []) (Q := []) (W := []) (i := 0) (found := []) sh hpad hx ⟨rfl, .inl rfl⟩ rfl (fun _ q => nomatch q) fun found' => by
    refine tail_read rs 1 found' _ (fun r' h => hr r' (.tail _ h)) (by rw [hx]; simp) ?_
    have c1 : (List.replicate (pad r) 32).count 10 = 0 := List.count_eq_zero.mpr blank_10
    have c2 : r.body.cps.toList.count 10 = 0 := List.count_eq_zero.mpr h10
    simp only [List.count_append, c1, c2, List.count_nil]
  exact this
end

section
open PySem PySem.W PyProof.Rows PySem.Calls
set_option maxRecDepth 100000

theorem wordOf_mem : ∀ n r c, c ∈ wordOf n r → c ∈ lawAlpha
  | 0, _, c, h => nomatch h
  | n + 1, r, c, h => by
    rw [wordOf] at h
    split at h
    · cases h
    · rcases List.mem_cons.mp h with q | q
      · rw [q]
        have : r % 8 < 8 := Nat.mod_lt _ (by decide)
        have hlt : r % 8 < lawAlpha.length := this
        rw [List.getD_eq_getElem?_getD, List.getElem?_eq_getElem hlt]
        exact List.getElem_mem hlt
      · exact wordOf_mem n (r / 8) c q
theorem alpha_ok : ∀ c ∈ lawAlpha, isIll c = false ∧ c ≠ 10 ∧ c ≠ 39 := by decide +kernel
theorem bad_ok : ∀ c ∈ ([0, 31, 127, 13, 12] : List Nat), isIll c = true ∧ c ≠ 10 ∧ c ≠ 39 := by decide +kernel
theorem shaped_of (kinds margin : Nat) (later : Bool) (y : Nat) : RowShape (mkRow kinds margin later y) (y % kinds) (wordStr y) (([0, 31, 127, 13, 12] : List Nat).getD (y % 5) 0) := by
  have hw : ∀ c ∈ (wordStr y).cps.toList, isIll c = false ∧ c ≠ 10 ∧ c ≠ 39 := fun c hc => alpha_ok c (wordOf_mem 3 (y / 3) c hc)
  have hb : (([0, 31, 127, 13, 12] : List Nat).getD (y % 5) 0) ∈ ([0, 31, 127, 13, 12] : List Nat) := by
    have : y % 5 < 5 := Nat.mod_lt _ (by decide)
    have hlt : y % 5 < ([0, 31, 127, 13, 12] : List Nat).length := this
    rw [List.getD_eq_getElem?_getD, List.getElem?_eq_getElem hlt]
    exact List.getElem_mem hlt
  have hb' := bad_ok _ hb
  exact ⟨rfl, rfl, rfl, fun c hc => (hw c hc).1, fun h => (hw _ h).2.1 rfl, fun h => (hw _ h).2.2 rfl, hb'.1, hb'.2.1, hb'.2.2⟩

theorem bodyL_head (k : Nat) (w : List Nat) (b : Nat) : bodyL k w b = [] ∨ ∃ c l, bodyL k w b = c :: l ∧ (c == 32) = false := by
  match k with
  | 0 => exact .inl rfl
  | 1 => exact .inr ⟨_, _, rfl, rfl⟩
  | 2 => exact .inr ⟨_, _, rfl, rfl⟩
  | 3 => exact .inr ⟨_, _, rfl, rfl⟩
  | 4 => exact .inr ⟨_, _, rfl, rfl⟩
  | 5 => exact .inr ⟨_, _, rfl, rfl⟩
  | n + 6 => exact .inr ⟨_, _, rfl, rfl⟩
theorem bodyL_len (k : Nat) (w : List Nat) (b : Nat) : (bodyL k w b).length ≤ 2 * w.length + 8 := by
  match k with
  | 0 => simp [bodyL]
  | 1 => simp [bodyL]; omega
  | 2 => simp [bodyL]; omega
  | 3 => simp [bodyL]; omega
  | 4 => simp [bodyL]; omega
  | 5 => simp [bodyL]; omega
  | n + 6 => simp [bodyL]; omega

/-- a row's blanks -/
structure PadOk (margin : Nat) (r : Row) : Prop where
  stay : r.stay = r.blanks - margin
  blanks : r.body.cps.toList ≠ [] → r.blanks = margin + r.stay
  small : r.blanks ≤ margin + 3
  len : r.body.length ≤ 14
  head : r.body.cps.toList = [] ∨ ∃ c l, r.body.cps.toList = c :: l ∧ (c == 32) = false
theorem body_ne {r : Row} (h : r.body.cps.toList ≠ []) : r.body ≠ Str.empty := fun q => h (by rw [q]; rfl)
theorem body_ne' {r : Row} (h : r.body.cps.toList = []) : ¬ (r.body ≠ Str.empty) := fun q => q (str_eq (by rw [h]; rfl))
theorem padOk_of (kinds margin : Nat) (later : Bool) (y : Nat) : PadOk margin (mkRow kinds margin later y) := by
  have hs := shaped_of kinds margin later y
  have hbl : (mkRow kinds margin later y).body.cps.toList = bodyL (y % kinds) (wordStr y).cps.toList (([0, 31, 127, 13, 12] : List Nat).getD (y % 5) 0) := by rw [hs.body, bodyL_eq]
  have hwl : (wordStr y).cps.toList.length ≤ 3 := wordOf_len 3 (y / 3)
  have hbk : (mkRow kinds margin later y).blanks = blanksOf margin later (mkRow kinds margin later y).body y := rfl
  have hst : (mkRow kinds margin later y).stay = (mkRow kinds margin later y).blanks - margin := rfl
  have h3 : y % 3 < 3 := Nat.mod_lt _ (by decide)
  have h4 : y / 4 % (margin + 3) < margin + 3 := Nat.mod_lt _ (by omega)
  refine ⟨hst, fun h => ?_, ?_, ?_, ?_⟩
  · have := hbk
    unfold blanksOf at this
    rw [if_pos (body_ne h)] at this
    omega
  · rw [hbk]
    unfold blanksOf
    split
    · split <;> omega
    · split <;> omega
  · rw [str_len, hbl]
    have := bodyL_len (y % kinds) (wordStr y).cps.toList (([0, 31, 127, 13, 12] : List Nat).getD (y % 5) 0)
    omega
  · rw [hbl]; exact bodyL_head _ _ _
theorem first_body {kinds margin y : Nat} (h : (mkRow kinds margin false y).body.cps.toList ≠ []) : (mkRow kinds margin false y).blanks = margin := by
  have hbk : (mkRow kinds margin false y).blanks = blanksOf margin false (mkRow kinds margin false y).body y := rfl
  rw [hbk]
  unfold blanksOf
  rw [if_pos (body_ne h)]
  simp
theorem first_empty {kinds margin y : Nat} (h : (mkRow kinds margin false y).body.cps.toList = []) : (mkRow kinds margin false y).blanks = margin + 1 := by
  have hbk : (mkRow kinds margin false y).blanks = blanksOf margin false (mkRow kinds margin false y).body y := rfl
  rw [hbk]
  unfold blanksOf
  rw [if_neg (body_ne' h)]
  simp

theorem repr_bad : ∀ c ∈ ([0, 31, 127, 13, 12] : List Nat), (reprText ⟨#[c]⟩).length ≤ 1000 := by decide +kernel
theorem repr_nl : (reprText ("\n" : Str)).length ≤ 1000 := by decide +kernel
theorem rowOk_of {kinds margin : Nat} (later : Bool) (y : Nat) (hm : margin ≤ 4) : RowOk (mkRow kinds margin later y) := by
  have hs := shaped_of kinds margin later y
  have hp := padOk_of kinds margin later y
  have hwl : (wordStr y).length ≤ 3 := wordOf_len 3 (y / 3)
  have hb : (([0, 31, 127, 13, 12] : List Nat).getD (y % 5) 0) ∈ ([0, 31, 127, 13, 12] : List Nat) := by
    have : y % 5 < 5 := Nat.mod_lt _ (by decide)
    have hlt : y % 5 < ([0, 31, 127, 13, 12] : List Nat).length := this
    rw [List.getD_eq_getElem?_getD, List.getElem?_eq_getElem hlt]
    exact List.getElem_mem hlt
  have hrb := repr_bad _ hb
  have h1 := hp.stay
  have h2 := hp.small
  refine ⟨by omega, ?_, ?_, ?_⟩
  · rw [hs.texts]
    match y % kinds with
    | 0 | 1 | 2 | 3 | 4 | 5 => simp [bodyOf]
    | n + 6 => simp [bodyOf]
  · rw [hs.texts]
    match y % kinds with
    | 0 | 1 | 2 | 3 | 4 | 5 => simp [bodyOf] <;> omega
    | n + 6 => simp [bodyOf]
  · rw [hs.fault]
    match y % kinds with
    | 0 | 1 | 2 | 3 => simp [bodyOf]
    | 4 => intro p hp; simp [bodyOf] at hp; subst hp; exact ⟨by dsimp only; omega, hrb⟩
    | 5 => intro p hp; simp [bodyOf] at hp; subst hp; exact ⟨by dsimp only; omega, hrb⟩
    | n + 6 => intro p hp; simp [bodyOf] at hp; subst hp; exact ⟨by dsimp only; omega, repr_nl⟩

/-- a document -/
noncomputable def lineOf (pad : Row → Nat) (r : Row) : Str := blanks (pad r) ++ r.body
noncomputable def docOf (pad : Row → Nat) (rs : List Row) : Str := Txt.join nlS (rs.map (lineOf pad))
theorem line_list (pad : Row → Nat) (r : Row) : (lineOf pad r).cps.toList = List.replicate (pad r) 32 ++ r.body.cps.toList := by
  unfold lineOf; rw [str_app]
theorem join_list (sep : Str) : ∀ (l0 : Str) (ls : List Str), (Txt.join sep (l0 :: ls)).cps.toList = l0.cps.toList ++ ls.flatMap fun l => sep.cps.toList ++ l.cps.toList := by
  intro l0 ls
  have key : ∀ (ls : List Str) (acc : Array Nat), (ls.foldl (fun acc p => acc ++ sep.cps ++ p.cps) acc).toList = acc.toList ++ ls.flatMap fun l => sep.cps.toList ++ l.cps.toList := by
    intro ls
    induction ls with
    | nil => intro acc; simp
    | cons l ls ih => intro acc; rw [List.foldl_cons, ih]; simp
  exact key ls l0.cps
theorem doc_list (pad : Row → Nat) (r : Row) (rs : List Row) : (docOf pad (r :: rs)).cps.toList = List.replicate (pad r) 32 ++ (r.body.cps.toList ++ tailL pad rs) := by
  unfold docOf
  rw [List.map_cons, join_list, line_list, List.append_assoc]
  congr 2
  unfold tailL
  rw [List.flatMap_map]
  simp only [line_list]
  rfl

theorem free_cut {c : Nat} {a b X Y : List Nat} (ha : c ∉ a) (hb : c ∉ b) (h : a ++ c :: X = b ++ c :: Y) : a = b ∧ X = Y := by
  induction a generalizing b with
  | nil =>
    cases b with
    | nil => exact ⟨rfl, by simpa using h⟩
    | cons d b => exact absurd (List.cons.inj h).1 (fun q => hb (q ▸ .head _))
  | cons d a ih =>
    cases b with
    | nil => exact absurd (List.cons.inj h).1 (fun q => ha (q ▸ .head _))
    | cons e b =>
      obtain ⟨h1, h2⟩ := List.cons.inj h
      obtain ⟨h3, h4⟩ := ih (fun q => ha (.tail _ q)) (fun q => hb (.tail _ q)) h2
      exact ⟨by rw [h1, h3], h4⟩
theorem join_inj {c : Nat} : ∀ (as bs : List Str) (a b : List Nat), c ∉ a → c ∉ b → (∀ x ∈ as, c ∉ x.cps.toList) → (∀ x ∈ bs, c ∉ x.cps.toList) →
    (a ++ as.flatMap fun l => [c] ++ l.cps.toList) = (b ++ bs.flatMap fun l => [c] ++ l.cps.toList) → a = b ∧ as = bs
  | [], [], a, b, _, _, _, _, h => by simpa using h
  | [], y :: bs, a, b, ha, _, _, _, h => by
    exfalso; apply ha
    have : a = b ++ ((y :: bs).flatMap fun l => [c] ++ l.cps.toList) := by simpa using h
    rw [this]; simp
  | y :: as, [], a, b, _, hb, _, _, h => by
    exfalso; apply hb
    have : b = a ++ ((y :: as).flatMap fun l => [c] ++ l.cps.toList) := by simpa using h.symm
    rw [this]; simp
  | x :: as, y :: bs, a, b, ha, hb, hA, hB, h => by
    have e1 : ∀ (z : Str) zs, ((z :: zs).flatMap fun l => [c] ++ l.cps.toList) = c :: (z.cps.toList ++ zs.flatMap fun l => [c] ++ l.cps.toList) := fun z zs => by simp
    rw [e1, e1] at h
    obtain ⟨h1, h2⟩ := free_cut ha hb h
    obtain ⟨h3, h4⟩ := join_inj as bs _ _ (hA x (.head _)) (hB y (.head _)) (fun z q => hA z (.tail _ q)) (fun z q => hB z (.tail _ q)) h2
    exact ⟨h1, by rw [str_eq h3, h4]⟩
theorem split_join {l0 : Str} {ls : List Str} (h : ∀ l ∈ l0 :: ls, 10 ∉ l.cps.toList) : Txt.split (Txt.join nlS (l0 :: ls)) nlS = l0 :: ls := by
  have e := StrLaws.join_split (Txt.join nlS (l0 :: ls)) nlS
  have hf := StrLaws.split_free (Txt.join nlS (l0 :: ls)) 10
  have hp := split_pos (Txt.join nlS (l0 :: ls)) nlS
  have hf : ∀ p ∈ Txt.split (Txt.join nlS (l0 :: ls)) nlS, 10 ∉ p.cps.toList := hf
  generalize hS : Txt.split (Txt.join nlS (l0 :: ls)) nlS = S at *
  cases S with
  | nil => simp at hp
  | cons p ps =>
    rw [← StrLaws.glued_eq_join] at e
    have e : Txt.join nlS (p :: ps) = Txt.join nlS (l0 :: ls) := e
    have e2 := congrArg (fun s : Str => s.cps.toList) e
    simp only [join_list] at e2
    obtain ⟨h1, h2⟩ := join_inj (c := 10) ps ls _ _ (hf p (.head _)) (h l0 (.head _)) (fun x q => hf x (.tail _ q)) (fun x q => h x (.tail _ q)) e2
    rw [str_eq h1, h2]

theorem cutTo_list (i : Nat) (l : Str) : (cutTo i l).cps.toList = l.cps.toList.drop i := by
  unfold cutTo
  by_cases h : i ≤ l.length
  · rw [slice_from_eq (x := l) (i := (i : Int)) (b := l.length) (Int.natCast_nonneg _) (by omega) rfl]
    have e1 : ((i : Int)).toNat = i := by omega
    have e2 : ((l.length : Int) - (i : Int)).toNat = l.length - i := by omega
    rw [e1, e2]
    show List.take _ _ = _
    rw [List.take_of_length_le]
    rw [List.length_drop, str_len]
    exact Nat.le_refl _
  · rw [slice_from_beyond (by omega)]
    have : l.cps.toList.length ≤ i := by rw [← str_len]; omega
    rw [List.drop_eq_nil_of_le this]

theorem line_free {pad : Row → Nat} {rs : List Row} (hs : ∀ r ∈ rs, Shaped r) : ∀ l ∈ rs.map (lineOf pad), 10 ∉ l.cps.toList := fun l hl => by
  obtain ⟨r, hr, rfl⟩ := List.mem_map.mp hl
  rw [line_list]
  exact fun q => (List.mem_append.mp q).elim blank_10 (hs r hr).no10
theorem dedent_doc {pad pad' : Row → Nat} {r : Row} {rs : List Row} {n : Nat} (hs : ∀ r' ∈ r :: rs, Shaped r') (hn : indentOf (lineOf pad r) = n)
    (h : ∀ r' ∈ r :: rs, (List.replicate (pad r') 32 ++ r'.body.cps.toList).drop n = List.replicate (pad' r') 32 ++ r'.body.cps.toList) : dedentText (docOf pad (r :: rs)) = docOf pad' (r :: rs) := by
  have hf := line_free (pad := pad) hs
  unfold dedentText docOf
  rw [List.map_cons] at hf ⊢
  rw [split_join hf]
  unfold dedentLines
  rw [List.headD_cons, hn]
  congr 1
  rw [← List.map_cons (f := lineOf pad), List.map_map]
  refine List.map_congr_left fun r' hr' => str_eq ?_
  rw [Function.comp, cutTo_list, line_list, line_list]
  exact h r' hr'

theorem indent_line {pad : Row → Nat} {r : Row} {margin : Nat} (hp : PadOk margin r) : indentOf (lineOf pad r) = if r.body.cps.toList = [] then pad r - 1 else pad r := by
  unfold indentOf
  rw [str_len, line_list]
  rcases hp.head with h | ⟨c, l, h, hc⟩
  · rw [if_pos h, h, List.append_nil, List.takeWhile_replicate]
    simp <;> omega
  · rw [if_neg (by rw [h]; simp), h]
    have hall : ∀ c ∈ List.replicate (pad r) 32, (c == 32) = true := fun c hc => by rw [(List.mem_replicate.mp hc).2]; rfl
    rw [List.takeWhile_append_of_pos hall, List.takeWhile_cons, hc]
    simp <;> omega
theorem drop_rep {n m : Nat} {l : List Nat} (h : n ≤ m) : (List.replicate m 32 ++ l).drop n = List.replicate (m - n) 32 ++ l := by
  rw [List.drop_append, List.drop_replicate, List.length_replicate, Nat.sub_eq_zero_of_le h, List.drop_zero]

theorem rows_shaped {kinds margin : Nat} : ∀ (ys : List Nat) (later : Bool), ∀ r ∈ rowsGo kinds margin later ys, ∃ l y, r = mkRow kinds margin l y
  | [], _, r, h => nomatch h
  | y :: ys, later, r, h => by
    rw [rowsGo] at h
    rcases List.mem_cons.mp h with q | q
    · exact ⟨later, y, q⟩
    · exact rows_shaped ys true r q

theorem sum_le {f : Row → Nat} {b : Nat} : ∀ rs : List Row, (∀ r ∈ rs, f r ≤ b) → (rs.map f).sum ≤ rs.length * b
  | [], _ => by simp
  | r :: rs, h => by
    have := sum_le rs fun r' q => h r' (.tail _ q)
    have h1 := h r (.head _)
    simp only [List.map_cons, List.sum_cons, List.length_cons, Nat.add_mul, Nat.one_mul]
    omega
theorem doc_len {pad : Row → Nat} {rs : List Row} (h : ∀ r ∈ rs, pad r + r.body.length ≤ 30) : ((rs.map (lineOf pad)).map (·.length)).sum + rs.length ≤ rs.length * 31 := by
  rw [List.map_map]
  have := sum_le (f := (fun s : Str => s.length) ∘ lineOf pad) (b := 30) rs fun r hr => by
    show (lineOf pad r).length ≤ 30
    rw [str_len, line_list, List.length_append, List.length_replicate, ← str_len]
    exact h r hr
  omega

/-- all that is asked of one document, typed and bare -/
structure DocFacts (margin : Nat) (rs : List Row) : Prop where
  d1 : dedentText (docOf Row.blanks rs) = docOf Row.stay rs
  d2 : dedentText (docOf Row.stay rs) = docOf Row.stay rs
  r1 : readGo (docOf Row.stay rs) ((docOf Row.stay rs).length + 1) 0 [] = dueOf rs 0
  r2 : readGo (docOf Row.blanks rs) ((docOf Row.blanks rs).length + 1) 0 [] = dueOf rs margin
  ok : ∀ r ∈ rs, RowOk r
  pads : ∀ r ∈ rs, r.blanks ≤ 100 ∧ r.stay ≤ 100 ∧ r.body.length ≤ 100
  s1 : ∃ l ls, rs.map (lineOf Row.blanks) = l :: ls ∧ Txt.split (docOf Row.blanks rs) nlS = l :: ls ∧ 0 < l.length ∧ ((l :: ls).map (·.length)).sum + (l :: ls).length ≤ 1000
  s2 : ∃ l ls, rs.map (lineOf Row.stay) = l :: ls ∧ Txt.split (docOf Row.stay rs) nlS = l :: ls ∧ 0 < l.length ∧ ((l :: ls).map (·.length)).sum + (l :: ls).length ≤ 1000
theorem docFacts {kinds margin y : Nat} {ys : List Nat} (hm : margin ≤ 4) (hn : ys.length ≤ 20) : DocFacts margin (rowsOf kinds margin (y :: ys)) := by
  have hrs := rows_shaped (kinds := kinds) (margin := margin) (y :: ys) false
  have hlen := rowsGo_len kinds margin false (y :: ys)
  unfold rowsOf
  rw [show rowsGo kinds margin false (y :: ys) = mkRow kinds margin false y :: rowsGo kinds margin true ys from rfl] at *
  have hfb := @first_body kinds margin y
  have hfe := @first_empty kinds margin y
  have hp0 := padOk_of kinds margin false y
  generalize mkRow kinds margin false y = r at *
  generalize rowsGo kinds margin true ys = rs at *
  have hS : ∀ r' ∈ r :: rs, Shaped r' := fun r' h => by obtain ⟨l, z, rfl⟩ := hrs r' h; exact ⟨_, _, _, shaped_of _ _ _ _⟩
  have hP : ∀ r' ∈ r :: rs, PadOk margin r' := fun r' h => by obtain ⟨l, z, rfl⟩ := hrs r' h; exact padOk_of _ _ _ _
  have hO : ∀ r' ∈ r :: rs, RowOk r' := fun r' h => by obtain ⟨l, z, rfl⟩ := hrs r' h; exact rowOk_of _ _ hm
  have hi1 : indentOf (lineOf Row.blanks r) = margin := by
    rw [indent_line hp0]
    split
    · rename_i h; rw [hfe h]; omega
    · rename_i h; rw [hfb h]
  have hi2 : indentOf (lineOf Row.stay r) = 0 := by
    have h1 := hp0.stay
    rw [indent_line hp0]
    split
    · rename_i h; have := hfe h; omega
    · rename_i h; have := hfb h; omega
  have l1 : 0 < (lineOf Row.blanks r).length := by
    rw [str_len, line_list, List.length_append, List.length_replicate]
    by_cases h : r.body.cps.toList = []
    · have := hfe h; omega
    · have := List.length_pos_iff.mpr h; omega
  have l2 : 0 < (lineOf Row.stay r).length := by
    have h1 := hp0.stay
    rw [str_len, line_list, List.length_append, List.length_replicate]
    by_cases h : r.body.cps.toList = []
    · have := hfe h; omega
    · have := List.length_pos_iff.mpr h; omega
  have hsm : ∀ r' ∈ r :: rs, r'.blanks ≤ 7 ∧ r'.stay ≤ 7 ∧ r'.body.length ≤ 14 := fun r' h => by
    have q := hP r' h
    have q1 := q.small
    have q2 := q.stay
    exact ⟨by omega, by omega, q.len⟩
  have hl : (r :: rs).length ≤ 21 := by rw [hlen]; simp; omega
  have hz : ∀ pad : Row → Nat, (∀ r' ∈ r :: rs, pad r' ≤ 7) → (((lineOf pad r :: rs.map (lineOf pad)).map (·.length)).sum + (lineOf pad r :: rs.map (lineOf pad)).length ≤ 1000) := fun pad hpd => by
    have := doc_len (pad := pad) (rs := r :: rs) fun r' h => by have := hpd r' h; have := (hsm r' h).2.2; omega
    rw [List.map_cons (f := lineOf pad)] at this
    have e : (lineOf pad r :: rs.map (lineOf pad)).length = (r :: rs).length := by simp
    rw [e]
    omega
  refine ⟨dedent_doc hS hi1 fun r' h => ?_, dedent_doc hS hi2 fun r' h => rfl, doc_read (fun r' h => ⟨hS r' h, fun _ => by omega⟩) (doc_list _ _ _), doc_read (fun r' h => ⟨hS r' h, (hP r' h).blanks⟩) (doc_list _ _ _), hO, fun r' h => ?_, ?_, ?_⟩
  · have q := hP r' h
    have q1 := q.stay
    by_cases hb : r'.body.cps.toList = []
    · rw [hb, List.append_nil, List.append_nil, List.drop_replicate, q1]
    · have q2 := q.blanks hb
      rw [drop_rep (by omega), q1]
  · have := hsm r' h; omega
  · exact ⟨_, _, rfl, split_join (line_free (pad := Row.blanks) hS), l1, hz _ fun r' h => (hsm r' h).1⟩
  · exact ⟨_, _, rfl, split_join (line_free (pad := Row.stay) hS), l2, hz _ fun r' h => (hsm r' h).2.1⟩
end

section
open PySem PySem.W PyProof.Rows PySem.Calls
set_option maxRecDepth 100000

noncomputable def OkL (l : List Nat) : Prop := ∀ c ∈ l, c < 0x110000
theorem OkL.append {a b : List Nat} (x : OkL a) (y : OkL b) : OkL (a ++ b) := fun c h => (List.mem_append.mp h).elim (x c) (y c)
theorem OkL.str {x : Str} (h : OkL x.cps.toList) : PyData.strOk x = true := by
  unfold PyData.strOk
  rw [← Array.all_toList, List.all_eq_true]
  intro c hc
  exact decide_eq_true (h c hc)
theorem okL_dec {l : List Nat} (h : (l.all fun c => decide (c < 0x110000)) = true) : OkL l := fun c hc => of_decide_eq_true (List.all_eq_true.mp h c hc)
theorem okL_of (s : String) : OkL (Str.ofString s).cps.toList := fun c hc => by
  rw [signs_ofString] at hc
  obtain ⟨k, _, rfl⟩ := List.mem_map.mp hc
  have := k.valid
  unfold UInt32.isValidChar Nat.isValidChar at this
  have e : k.toNat = k.val.toNat := rfl
  rw [e]
  omega
theorem okL_digs (n : Nat) : OkL (digs n) := okL_of _
theorem ok_text (line col : Nat) : PyData.strOk (textMsg line col) = true := by
  refine OkL.str ?_
  show OkL (pText line col)
  exact ((((okL_dec (by decide +kernel)).append (okL_digs _)).append (okL_dec (by decide +kernel))).append (okL_digs _)).append (okL_dec (by decide +kernel))
theorem ok_fault {y : Str} (line col : Nat) (h : OkL (reprText y).cps.toList) : PyData.strOk (faultMsg y line col) = true := by
  refine OkL.str ?_
  show OkL (pFault (reprText y).cps.toList line col)
  exact ((((((okL_dec (by decide +kernel)).append h).append (okL_dec (by decide +kernel))).append (okL_digs _)).append (okL_dec (by decide +kernel))).append (okL_digs _)).append (okL_dec (by decide +kernel))
theorem ok_eod : PyData.strOk eodMsg = true := by decide +kernel
theorem ok_whole : PyData.strOk ("whole" : Str) = true := by decide +kernel

structure RowTxt (r : Row) : Prop where
  texts : ∀ p ∈ r.texts, PyData.strOk p.2 = true
  fault : ∀ p, r.fault = some p → OkL (reprText p.2).cps.toList
noncomputable def FoundOk (l : List (Str × Str)) : Prop := ∀ p ∈ l, PyData.strOk p.1 = true ∧ PyData.strOk p.2 = true
theorem FoundOk.append {a b : List (Str × Str)} (x : FoundOk a) (y : FoundOk b) : FoundOk (a ++ b) := fun p h => (List.mem_append.mp h).elim (x p) (y p)
theorem ok_dueTexts {shift stay line : Nat} {ts : List (Nat × Str)} (h : ∀ p ∈ ts, PyData.strOk p.2 = true) : FoundOk (dueTexts shift stay line ts) := fun p hp => by
  obtain ⟨q, hq, rfl⟩ := List.mem_map.mp hp
  exact ⟨ok_text _ _, h q hq⟩
theorem ok_dueGo {shift : Nat} : ∀ (rs : List Row) (line : Nat) (found : List (Str × Str)), (∀ r ∈ rs, RowTxt r) → FoundOk found → FoundOk (dueGo shift line found rs).1 ∧ PyData.strOk (dueGo shift line found rs).2 = true
  | [], _, found, _, hf => ⟨hf, ok_whole⟩
  | r :: rs, line, found, hr, hf => by
    have h := hr r (.head _)
    have hf' := hf.append (ok_dueTexts (shift := shift) (stay := r.stay) (line := line + 1) h.texts)
    unfold dueGo
    cases hq : r.fault with
    | none => exact ok_dueGo rs _ _ (fun r' q => hr r' (.tail _ q)) hf'
    | some p =>
      dsimp only
      refine ⟨hf', ?_⟩
      split
      · exact ok_eod
      · exact ok_fault _ _ (h.fault p hq)
theorem ok_pairs : ∀ l : List (Str × Str), FoundOk l → PyData.canLayAll0 (pairsData l) = true ∧ PyData.depthAll (pairsData l) ≤ 1
  | [], _ => ⟨rfl, Nat.zero_le _⟩
  | p :: l, h => by
    obtain ⟨h1, h2⟩ := h p (.head _)
    obtain ⟨h3, h4⟩ := ok_pairs l fun q hq => h q (.tail _ hq)
    have e : pairsData (p :: l) = .tuple [.str p.1, .str p.2] :: pairsData l := rfl
    rw [e]
    constructor
    · simp [PyData.canLayAll0, PyData.canLay0, h1, h2, h3]
    · simp [PyData.depthAll, PyData.depth]; omega
theorem shaped_read {r : List (Str × Str) × Str} (h : FoundOk r.1) (h2 : PyData.strOk r.2 = true) : SeqAt.shaped (readData r) = true := by
  obtain ⟨h3, h4⟩ := ok_pairs r.1 h
  unfold SeqAt.shaped readData
  rw [Bool.and_eq_true]
  refine ⟨?_, decide_eq_true ?_⟩
  · simp [PyData.canLay0, PyData.canLayAll0, h2, h3]
  · simp [PyData.depth, PyData.depthAll]; omega
theorem shaped_due {rs : List Row} (shift : Nat) (h : ∀ r ∈ rs, RowTxt r) : SeqAt.shaped (readData (dueOf rs shift)) = true :=
  let ⟨h1, h2⟩ := ok_dueGo (shift := shift) rs 0 [] h fun _ q => nomatch q
  shaped_read h1 h2
theorem due_same {d : PyData} (h : SeqAt.shaped d = true) : (!PyData.eqv d d) = false := by
  rw [SeqAt.eqv_refl d (SeqAt.canLay_of_shaped h)]; rfl

theorem okL_repr_bad : ∀ c ∈ ([0, 31, 127, 13, 12] : List Nat), ((reprText ⟨#[c]⟩).cps.toList.all fun c => decide (c < 0x110000)) = true := by decide +kernel
theorem okL_repr_nl : ((reprText ("\n" : Str)).cps.toList.all fun c => decide (c < 0x110000)) = true := by decide +kernel
theorem okL_alpha : ∀ c ∈ lawAlpha, c < 0x110000 := by decide +kernel
theorem rowTxt_of {kinds margin : Nat} (later : Bool) (y : Nat) : RowTxt (mkRow kinds margin later y) := by
  have hs := shaped_of kinds margin later y
  have hb : (([0, 31, 127, 13, 12] : List Nat).getD (y % 5) 0) ∈ ([0, 31, 127, 13, 12] : List Nat) := by
    have : y % 5 < 5 := Nat.mod_lt _ (by decide)
    have hlt : y % 5 < ([0, 31, 127, 13, 12] : List Nat).length := this
    rw [List.getD_eq_getElem?_getD, List.getElem?_eq_getElem hlt]
    exact List.getElem_mem hlt
  have hrb := okL_dec (okL_repr_bad _ hb)
  have hw : PyData.strOk (wordStr y) = true := OkL.str fun c hc => okL_alpha c (wordOf_mem 3 (y / 3) c hc)
  have he : PyData.strOk ("" : Str) = true := by decide +kernel
  refine ⟨?_, ?_⟩
  · rw [hs.texts]
    match y % kinds with
    | 0 | 1 | 4 => intro p hp; simp [bodyOf] at hp
    | 2 => intro p hp; simp [bodyOf] at hp; subst hp; exact hw
    | 3 =>
      intro p hp; simp [bodyOf] at hp
      rcases hp with rfl | rfl
      · exact hw
      · exact he
    | 5 => intro p hp; simp [bodyOf] at hp; subst hp; exact he
    | n + 6 => intro p hp; simp [bodyOf] at hp
  · rw [hs.fault]
    match y % kinds with
    | 0 | 1 | 2 | 3 => intro p hp; simp [bodyOf] at hp
    | 4 => intro p hp; simp [bodyOf] at hp; subst hp; exact hrb
    | 5 => intro p hp; simp [bodyOf] at hp; subst hp; exact hrb
    | n + 6 => intro p hp; simp [bodyOf] at hp; subst hp; exact okL_dec okL_repr_nl
theorem rows_txt {kinds margin : Nat} {ys : List Nat} : ∀ r ∈ rowsOf kinds margin ys, RowTxt r := fun r h => by
  obtain ⟨l, y, rfl⟩ := rows_shaped ys false r h
  exact rowTxt_of l y

theorem doc_short {pad : Row → Nat} {rs : List Row} {l : Str} {ls : List Str} (h : rs.map (lineOf pad) = l :: ls) (hs : ((l :: ls).map (·.length)).sum + (l :: ls).length ≤ 1000) : (docOf pad rs).length ≤ 1000 := by
  unfold docOf
  rw [h]
  show (Builtin.Str.glued nlS (l :: ls)).length ≤ 1000
  rw [StrLaws.glued_eq_join]
  have := StrLaws.join_length_le nlS (l :: ls)
  have h1 : nlS.length = 1 := rfl
  rw [h1] at this
  omega
end

section
open PySem PySem.W PyProof.Rows PySem.Calls
set_option maxRecDepth 100000
set_option maxHeartbeats 4000000

noncomputable def forBody : Stmt → List Stmt | .For _ _ b _ _ => b | _ => []
noncomputable abbrev lawFor : Stmt := nthS (fnBody (stAt 22)) 3
noncomputable abbrev lawEnv (L f : Addr) (cd : Value) : Env := envOf "law" (fnScope (stAt 22)) L f cd
theorem sp_eq : (" " : Str) = ⟨#[32]⟩ := by decide +kernel

theorem paired_strs {g : Row → Str} : ∀ {rs : List Row} {ys : List Value}, Paired (fun r y => ∃ t, y = .str (g r) t) rs ys → ∃ l : List (Str × Tok), ys = strValues l ∧ l.map (·.1) = rs.map g
  | _, _, .nil => ⟨[], rfl, rfl⟩
  | _, _, .cons (a := r) ⟨t, e⟩ b => by
    obtain ⟨l, h1, h2⟩ := paired_strs b
    exact ⟨(g r, t) :: l, by rw [e, h1]; rfl, by simp [h2]⟩

/-- the line that the comprehension makes of a row -/
theorem line_elt {w : World} {A : Around} {E' : Value → Shared → Prop} {s₃ : Shared} {h₀ : Heap} {v : Value} {r₀ : Row} {j : Nat} {pad : Row → Nat} {sc : Scope} {cl : List (Str × Addr)} {C : Addr} {env : Env} {m₃ : Str → Option Value} {p1 p2 p3 p4 p5 p6 p7 p8 p9 : Pos} {k1 k2 k3 : Nat}
    (hj : (j = 0 ∧ pad = Row.blanks) ∨ (j = 1 ∧ pad = Row.stay)) (hr : Rd h₀ v (rowData r₀)) (hk : ∀ b o, h₀.get? b = some o → s₃.heap.get? b = some o) (hn : s₃.heap.Ns C m₃) (hm : m₃ "row" = some v) (hz : pad r₀ ≤ 100) (hb : r₀.body.length ≤ 100)
    (hkn : (relabel sc env).kind = .function) (hl : (compEnvC sc cl C env).kindOf "row" = some .local) :
    wpAny (model pw w) A (eval (.BinOp (.BinOp (.Constant (.str " ") k1 p1) .Mult (.Subscript (.Name "row" p2) (.Constant (.int j) k2 p3) p4) p5) .Add (.Subscript (.Name "row" p6) (.Constant (.int 2) k3 p7) p8) p9) (compEnvC sc cl C env))
      (fun y s₄ => (∀ r, Rd h₀ v (rowData r) → ∃ t, y = .str (lineOf pad r) t) ∧ Keeps s₃ s₄) E' s₃ := by
  obtain ⟨T', o', n', b1, b2, b3, w4, w5, rfl, g', c', d'⟩ := row_inv hr
  have hT' : ∀ {h : Heap}, (∀ b o, s₃.heap.get? b = some o → h.get? b = some o) → IsTup h T' #[.int r₀.blanks b1, .int r₀.stay b2, .str r₀.body b3, w4, w5] := fun k => ⟨o', k _ _ (hk _ _ g'), c', n', d'⟩
  have hp : ∃ tp, (#[.int r₀.blanks b1, .int r₀.stay b2, .str r₀.body b3, w4, w5] : Array Value)[j]? = some (.int ((pad r₀ : Nat) : Int) tp) := by
    rcases hj with ⟨rfl, rfl⟩ | ⟨rfl, rfl⟩
    · exact ⟨b1, rfl⟩
    · exact ⟨b2, rfl⟩
  obtain ⟨tp, hp⟩ := hp
  have hj2 : j ≤ 1 := by omega
  refine wpAny_BinOp ?_
  refine wpAny_BinOp ?_
  refine Constant_str ?_
  refine Subscript_ ?_
  refine lc hn hm ?_ hkn hl
  refine wpAny_Constant_int ?_
  refine item_tuple (j := j) (x := .int ((pad r₀ : Nat) : Int) tp) (hT' fun _ _ e => e) (by omega) (by omega) (by rcases hj with ⟨rfl, _⟩ | ⟨rfl, _⟩ <;> rfl) hp ?_
  rw [sp_eq]
  refine mul_sp (by omega) fun t k => ?_
  refine Subscript_ ?_
  refine lc hn hm ?_ hkn hl
  refine wpAny_Constant_int ?_
  refine item_tuple (j := 2) (x := .str r₀.body b3) (hT' fun _ _ e => e) (by decide) (by simp) rfl rfl ?_
  have hbl : (blanks (pad r₀)).length = pad r₀ := by show (List.replicate _ _).toArray.size = _; simp
  refine PyProof.Rows.add_str (fun t' k' => ?_) (by simp only [sizeLine_eq]; omega)
  refine ⟨fun r hr' => ⟨t', ?_⟩, ?_⟩
  · obtain ⟨e1, e2, e3⟩ := row_same hr hr'
    have ep : pad r₀ = pad r := by
      rcases hj with ⟨_, rfl⟩ | ⟨_, rfl⟩
      · exact e1
      · exact e2
    unfold lineOf
    rw [← ep, ← e3]
  · exact ⟨_, _, rfl, fun _ _ e => e⟩

/-- one turn of the loop -/
theorem law_turn {w : World} {A : Around} {E : Value → Shared → Prop} {s : Shared} {G : Glb} {hin : Heap} {outer : List Env} {L f : Addr} {h₀ : Heap} {m : Str → Option Value} {cd : Value} {news : List (Addr × Obj)} {d : Addr} {ys : List Nat} {kinds margin : Nat} {tk tm : Tok} {Q : Flow → Shared → Prop}
    (K : G.Ok) (F : Fns w G) (hfr : A.frames = some (lawEnv L f cd :: outer)) (hroom : A.depth + 60 < recursionLimit) (hu : A.units + 100 < cLine) (hh : A.handled = none)
    (St : St G hin outer L h₀ s.heap m news) (hL : L = hin.objs.size) (hm1 : m "drawn" = some (.ref d)) (hm2 : m "kinds" = some (.int kinds tk)) (hm3 : m "margin" = some (.int margin tm))
    (hd : Rd h₀ (.ref d) (natsData ys)) (hys : ys ≠ []) (hyl : ys.length ≤ 20) (hk0 : 0 < kinds) (hk : kinds ≤ 7) (hmg : margin ≤ 4)
    (hQ : ∀ h' tk' m' h₁, Mine.St G hin outer L h₁ h' m' news → h₀.StaysIn h₁ → m' "margin" = some (.int margin tm) → Q .next { s with heap := h', toks := tk' }) :
    wpAny (model pw w) A (execs (forBody lawFor) (lawEnv L f cd)) Q E s := by
  have DF : DocFacts margin (rowsOf kinds margin ys) := by
    cases ys with
    | nil => exact absurd rfl hys
    | cons y ys => exact docFacts hmg (by simp at hyl; omega)
  have hrl : (rowsOf kinds margin ys).length = ys.length := rowsGo_len kinds margin false ys
  generalize hrows : rowsOf kinds margin ys = rows at *
  refine F.rows.elim fun f₁ o₁ pm₁ cd₁ doc₁ hf₁ ho₁ hd₁ hc₁ => ?_
  refine F.dedent.elim fun f₂ o₂ pm₂ cd₂ doc₂ hf₂ ho₂ hd₂ hc₂ => ?_
  refine F.read.elim fun f₃ o₃ pm₃ cd₃ doc₃ hf₃ ho₃ hd₃ hc₃ => ?_
  refine F.due.elim fun f₄ o₄ pm₄ cd₄ doc₄ hf₄ ho₄ hd₄ hc₄ => ?_
  repeat walk_at "S"
  refine gl K St hf₁ ?_
  refine callWith_def hd₁ ?_
  repeat walk_at "S"
  refine ⟨St.keep _ _ (St.bs _ _ ho₁), ?_⟩
  refine rows_spec (outer := lawEnv L f cd :: outer) K F (St.pre rfl) hfr (by omega) hh (by omega) hk0 hk (by omega) (hd.keeps (St.gr rfl)) ho₁ hd₁ hc₁ fun h₁ tk₁ a₁ X₁ T₁ R₁ => ?_
  rw [hrows] at R₁
  refine St.anewK X₁ T₁ fun g₁ St₁ k₁ c₁ _ => ?_
  have R₁ : Rd g₁ (.ref a₁) (rowsData rows) := R₁.keeps c₁
  with_reducible refine tk2 fun _ => ?_
  dsimp only
  repeat walk_at "S"
  rename_i St₂
  have hpads := DF.pads
  obtain ⟨l1, ls1, e1, hs1, hl1, hz1⟩ := DF.s1
  obtain ⟨l2, ls2, e2, hs2, hl2, hz2⟩ := DF.s2
  have hd1' := doc_short e1 hz1
  have hd2' := doc_short e2 hz2
  have hsum : ∀ (pad : Row → Nat) (l : Str) (ls : List Str), rows.map (lineOf pad) = l :: ls → ((l :: ls).map (·.length)).sum + (l :: ls).length ≤ 1000 → ((rows.map (lineOf pad)).map (·.length)).sum + (rows.map (lineOf pad)).length * (nlS : Str).length ≤ 16777216 := fun pad l ls e hz => by
    have h3 : (nlS : Str).length = 1 := rfl
    rw [h3, e]; omega
  obtain ⟨a₁', oa, va, na, ea, ga, ca, da, ra⟩ := R₁.list_inv
  cases ea
  have hIa : ∀ {h}, g₁.StaysIn h → h.IsList a₁ va := fun k => ⟨oa, k _ _ ga, ca, na, da⟩
  have hsz : va.size = rows.length := by have := ra.length; simpa using this
  have hrow : ∀ {i : Nat} {v : Value}, va[i]? = some v → ∃ r ∈ rows, Rd g₁ v (rowData r) := fun {i v} hv => by
    obtain ⟨d, hd1, hd2⟩ := ra.get (i := i) (v := v) (by simpa using hv)
    rw [List.getElem?_map] at hd1
    obtain ⟨r, hr, rfl⟩ := Option.map_eq_some_iff.mp hd1
    exact ⟨r, List.mem_of_getElem? hr, hd2⟩
  with_reducible refine GM.join ?_
  repeat walk_at "S"
  refine comp_St (G := G) (hin := hin) (outer := outer) (L := L) (h₀ := g₁) (fun v y => ∀ r, Rd g₁ v (rowData r) → ∃ t, y = .str (lineOf Row.blanks r) t) hh ?_
  repeat walk_at "S"
  refine ⟨a₁, va, _, _, rfl, hIa St₂.keep, by omega, St₂, ?_, ?_⟩
  · intro C v i s₃ m₃ E' hv hn hm hk
    obtain ⟨r, hr, hd⟩ := hrow hv
    exact line_elt (.inl ⟨rfl, rfl⟩) hd (fun b o e => hk b o (St₂.keep b o e)) hn hm (hpads r hr).1 (hpads r hr).2.2 rfl rfl
  intro D n h₃ tk₃ ys₃ hP hk₃ St₃
  obtain ⟨l₃, rfl, el₃⟩ := paired_strs (paired_rows hP ra)
  with_reducible refine tk2 fun _ => ?_
  dsimp only
  repeat walk_at "S"
  rw [nl_lit]
  refine SC.join ⟨_, St₃.get (.head _), rfl, _, rfl⟩ el₃ (joinOk_of (hsum _ _ _ e1 hz1)) fun t₃ k₃ => ?_
  have St₃ := St₃.sub (List.sublist_cons_self _ _)
  have edoc : Txt.join nlS (rows.map (lineOf Row.blanks)) = docOf Row.blanks rows := rfl
  rw [edoc]
  repeat walk_at "S"
  rename_i St₄
  with_reducible refine tk2 fun _ => ?_
  dsimp only
  with_reducible refine GM.join ?_
  repeat walk_at "S"
  refine comp_St (G := G) (hin := hin) (outer := outer) (L := L) (h₀ := g₁) (fun v y => ∀ r, Rd g₁ v (rowData r) → ∃ t, y = .str (lineOf Row.stay r) t) hh ?_
  repeat walk_at "S"
  refine ⟨a₁, va, _, _, rfl, hIa St₄.keep, by omega, St₄, ?_, ?_⟩
  · intro C v i s₃ m₃ E' hv hn hm hk
    obtain ⟨r, hr, hd⟩ := hrow hv
    exact line_elt (.inr ⟨rfl, rfl⟩) hd (fun b o e => hk b o (St₄.keep b o e)) hn hm (hpads r hr).2.1 (hpads r hr).2.2 rfl rfl
  intro D₅ n₅ h₅ tk₅ ys₅ hP₅ hk₅ St₅
  obtain ⟨l₅, rfl, el₅⟩ := paired_strs (paired_rows hP₅ ra)
  with_reducible refine tk2 fun _ => ?_
  dsimp only
  repeat walk_at "S"
  refine SC.join ⟨_, St₅.get (.head _), rfl, _, rfl⟩ el₅ (joinOk_of (hsum _ _ _ e2 hz2)) fun t₅ k₅ => ?_
  have St₅ := St₅.sub (List.sublist_cons_self _ _)
  have edoc₅ : Txt.join nlS (rows.map (lineOf Row.stay)) = docOf Row.stay rows := rfl
  rw [edoc₅]
  repeat walk_at "S"
  rename_i St₆
  refine gl K St₆ hf₂ ?_
  refine callWith_def hd₂ ?_
  repeat walk_at "S"
  refine ⟨St₆.keep _ _ (St₆.bs _ _ ho₂), ?_⟩
  with_reducible refine tk2 fun _ => ?_
  dsimp only
  refine dedent_spec (outer := lawEnv L f cd :: outer) K F (St₆.pre rfl) hfr (by omega) hh (by omega) hs1 hl1 (by omega) ho₂ hd₂ hc₂ fun h₇ tk₇ t₇ X₇ T₇ => ?_
  have St₇ := St₆.call X₇ T₇
  rw [DF.d1]
  with_reducible refine tk2 fun _ => ?_
  dsimp only
  repeat walk_at "S"
  rename_i St₈
  refine ite_no (by simp) ?_
  repeat walk_at "S"
  refine gl K St₈ hf₂ ?_
  refine callWith_def hd₂ ?_
  repeat walk_at "S"
  refine ⟨St₈.keep _ _ (St₈.bs _ _ ho₂), ?_⟩
  with_reducible refine tk2 fun _ => ?_
  dsimp only
  refine dedent_spec (outer := lawEnv L f cd :: outer) K F (St₈.pre rfl) hfr (by omega) hh (by omega) hs2 hl2 (by omega) ho₂ hd₂ hc₂ fun h₉ tk₉ t₉ X₉ T₉ => ?_
  have St₉ := St₈.call X₉ T₉
  rw [DF.d2]
  with_reducible refine tk2 fun _ => ?_
  dsimp only
  repeat walk_at "S"
  refine ite_no (by simp) ?_
  repeat walk_at "S"
  refine ite_no (by decide) ?_
  repeat walk_at "S"
  have hsd := fun shift => shaped_due (rs := rows) shift fun r hr => rows_txt r (hrows ▸ hr)
  refine gl K St₉ hf₃ ?_
  refine callWith_def hd₃ ?_
  repeat walk_at "S"
  refine ⟨St₉.keep _ _ (St₉.bs _ _ ho₃), ?_⟩
  with_reducible refine tk2 fun _ => ?_
  dsimp only
  refine read_spec (outer := lawEnv L f cd :: outer) K F (St₉.pre rfl) hfr (by omega) (by omega) hh (by omega) ho₃ hd₃ hc₃ fun h₁₀ tk₁₀ a₁₀ X₁₀ T₁₀ R₁₀ => ?_
  rw [DF.r1] at R₁₀
  refine St₉.anewK X₁₀ T₁₀ fun g₂ St₁₀ kk₁₀ c₁₀ _ => ?_
  have R₁₀ := R₁₀.keeps c₁₀
  with_reducible refine tk2 fun _ => ?_
  dsimp only
  repeat walk_at "S"
  refine gl K St₁₀ hf₄ ?_
  refine callWith_def hd₄ ?_
  repeat walk_at "S"
  refine ⟨St₁₀.keep _ _ (St₁₀.bs _ _ ho₄), ?_⟩
  with_reducible refine tk2 fun _ => ?_
  dsimp only
  refine due_spec (outer := lawEnv L f cd :: outer) (shift := 0) K F (St₁₀.pre rfl) hfr (by omega) hh (by omega) (by omega) DF.ok ((R₁.keeps kk₁₀).keeps (St₁₀.gr rfl)) ho₄ hd₄ hc₄ fun h₁₁ tk₁₁ a₁₁ X₁₁ T₁₁ R₁₁ => ?_
  refine St₁₀.anewK X₁₁ T₁₁ fun g₃ St₁₁ kk₁₁ c₁₁ _ => ?_
  have R₁₁ := R₁₁.keeps c₁₁
  with_reducible refine tk2 fun _ => ?_
  dsimp only
  repeat walk_at "S"
  refine ne_St ((R₁₀.keeps kk₁₁).keeps St₁₁.keep) (R₁₁.keeps St₁₁.keep) (hsd 0) (hsd 0) (by omega) ?_
  rw [due_same (hsd 0)]
  repeat walk_at "S"
  refine ite_no (by decide) ?_
  repeat walk_at "S"
  refine gl K St₁₁ hf₃ ?_
  refine callWith_def hd₃ ?_
  repeat walk_at "S"
  refine ⟨St₁₁.keep _ _ (St₁₁.bs _ _ ho₃), ?_⟩
  with_reducible refine tk2 fun _ => ?_
  dsimp only
  refine read_spec (outer := lawEnv L f cd :: outer) K F (St₁₁.pre rfl) hfr (by omega) (by omega) hh (by omega) ho₃ hd₃ hc₃ fun h₁₂ tk₁₂ a₁₂ X₁₂ T₁₂ R₁₂ => ?_
  rw [DF.r2] at R₁₂
  refine St₁₁.anewK X₁₂ T₁₂ fun g₄ St₁₂ kk₁₂ c₁₂ _ => ?_
  have R₁₂ := R₁₂.keeps c₁₂
  with_reducible refine tk2 fun _ => ?_
  dsimp only
  repeat walk_at "S"
  refine gl K St₁₂ hf₄ ?_
  refine callWith_def hd₄ ?_
  repeat walk_at "S"
  refine ⟨St₁₂.keep _ _ (St₁₂.bs _ _ ho₄), ?_⟩
  with_reducible refine tk2 fun _ => ?_
  dsimp only
  refine due_spec (outer := lawEnv L f cd :: outer) (shift := margin) K F (St₁₂.pre rfl) hfr (by omega) hh (by omega) (by omega) DF.ok ((((R₁.keeps kk₁₀).keeps kk₁₁).keeps kk₁₂).keeps (St₁₂.gr rfl)) ho₄ hd₄ hc₄ fun h₁₃ tk₁₃ a₁₃ X₁₃ T₁₃ R₁₃ => ?_
  refine St₁₂.anewK X₁₃ T₁₃ fun g₅ St₁₃ kk₁₃ c₁₃ _ => ?_
  have R₁₃ := R₁₃.keeps c₁₃
  with_reducible refine tk2 fun _ => ?_
  dsimp only
  repeat walk_at "S"
  refine ne_St ((R₁₂.keeps kk₁₃).keeps St₁₃.keep) (R₁₃.keeps St₁₃.keep) (hsd margin) (hsd margin) (by omega) ?_
  rw [due_same (hsd margin)]
  repeat walk_at "S"
  refine ite_no (by decide) ?_
  repeat walk_at "S"
  exact hQ _ _ _ _ St₁₃ (fun b o e => kk₁₃ b o (kk₁₂ b o (kk₁₁ b o (kk₁₀ b o (k₁ b o e))))) (by walk_at "v")
end

section
open PySem PySem.W PyProof.Rows PySem.Calls
set_option maxRecDepth 100000
set_option maxHeartbeats 4000000

noncomputable def numOf (x : Int) : Nat := if 0 ≤ x then (2 * x).toNat else (-2 * x - 1).toNat
noncomputable def numsData (script : List Int) : PyData := .list (script.map .int)

theorem paired_nums {h : Heap} : ∀ {vs ys : List Value} {xs : List Int}, Paired (fun v y => ∀ i t, v = .int i t → ∃ u, y = .int (numOf i : Nat) u) vs ys → RdAll h vs (xs.map .int) → RdAll h ys ((xs.map numOf).map fun y => .int (y : Nat))
  | _, _, [], .nil, _ => .nil
  | _, _, [], .cons _ _, h => by have := h.nil_inv; cases this
  | _, _, x :: xs, .nil, h => by obtain ⟨_, _, e, _⟩ := h.cons_inv; cases e
  | _, _, x :: xs, .cons a b, h => by
    obtain ⟨_, _, e, h1, h2⟩ := h.cons_inv
    cases e
    obtain ⟨t, rfl⟩ := h1.int_inv
    obtain ⟨u, rfl⟩ := a x t rfl
    exact .cons .int (paired_nums b h2)
theorem intsAre_of {h : Heap} : ∀ {vs : List Value} {ns : List Nat}, RdAll h vs (ns.map fun y => .int (y : Nat)) → IntsAre vs (ns.map fun y => ((y : Nat) : Int))
  | vs, [], r => by rw [r.nil_inv]; exact .nil
  | vs, n :: ns, r => by
    obtain ⟨v, us, rfl, h1, h2⟩ := r.cons_inv
    obtain ⟨t, rfl⟩ := h1.int_inv
    exact .cons _ _ (intsAre_of h2)
theorem sum_nat : ∀ ns : List Nat, (ns.map fun y => ((y : Nat) : Int)).sum = ((ns.sum : Nat) : Int)
  | [] => rfl
  | n :: ns => by rw [List.map_cons, List.sum_cons, sum_nat ns, List.sum_cons]; omega

theorem RdAll.take {h : Heap} : ∀ {vs : List Value} {ds : List PyData} (i : Nat), RdAll h vs ds → RdAll h (vs.take i) (ds.take i)
  | vs, ds, 0, x => by rw [List.take_zero, List.take_zero]; exact .nil
  | [], ds, i + 1, x => by
    have : ds = [] := List.eq_nil_of_length_eq_zero (by have := x.length; simpa using this.symm)
    subst this; exact .nil
  | v :: vs, [], i + 1, x => by have := x.nil_inv; cases this
  | v :: vs, d :: ds, i + 1, x => by
    obtain ⟨_, _, e, h1, h2⟩ := x.cons_inv
    cases e
    exact .cons h1 (RdAll.take i h2)
theorem RdAll.reverse {h : Heap} : ∀ {vs : List Value} {ds : List PyData}, RdAll h vs ds → RdAll h vs.reverse ds.reverse
  | [], ds, x => by
    have : ds = [] := List.eq_nil_of_length_eq_zero (by have := x.length; simpa using this.symm)
    subst this; exact .nil
  | v :: vs, [], x => by have := x.nil_inv; cases this
  | v :: vs, d :: ds, x => by
    obtain ⟨_, _, e, h1, h2⟩ := x.cons_inv
    cases e
    rw [List.reverse_cons, List.reverse_cons]
    exact (RdAll.reverse h2).append (.cons h1 .nil)
theorem St.settleAll {G : Glb} {hin : Heap} {outer : List Env} {L : Addr} {h : Heap} {m : Str → Option Value} : ∀ (news : List (Addr × Obj)) (h₀ : Heap), St G hin outer L h₀ h m news →
    ∃ h₁, St G hin outer L h₁ h m [] ∧ h₀.StaysIn h₁ ∧ ∀ p ∈ news, h₁.get? p.1 = some p.2
  | [], h₀, S => ⟨h₀, S, fun _ _ e => e, fun _ q => nomatch q⟩
  | (a, o) :: news, h₀, S => by
    obtain ⟨h₁, S₁, k₁, e₁⟩ := S.settle
    obtain ⟨h₂, S₂, k₂, e₂⟩ := St.settleAll news h₁ S₁
    refine ⟨h₂, S₂, fun b o e => k₂ b o (k₁ b o e), fun p hp => ?_⟩
    rcases List.mem_cons.mp hp with rfl | hp
    · exact k₂ _ _ e₁
    · exact e₂ p hp
theorem go_tupiter {w : World} {A : Around} {E : Value → Shared → Prop} {s : Shared} {it l T : Addr} {i : Nat} {o : Obj} {elts : List Expr} {k : Nat} {pos : Pos} {Q : Unit → Shared → Prop} (ho : s.heap.get? it = some o) (hi : TIt l i o) (hQ : Q () s) :
    wpAny (model pw w) A (letOwnedTupleGo (.Tuple elts k pos) (.ref it) (.ref T)) Q E s := by
  obtain ⟨hc, hd⟩ := hi
  unfold letOwnedTupleGo
  refine wpAny_bind (wpAny_load ho ?_)
  rw [hc, hd]
  show wpAny _ A (if (["enumerate", "zip", "dict_itemiterator", "dict_reverseitemiterator", "odict_iterator", "itertools.zip_longest", "itertools.pairwise"].contains "tuple_iterator" &&
      (#[.ref l, .int i 0] : Array Value)[0]? == some (rawInt T)) = true then _ else _) Q E s
  rw [if_neg (by
    intro h
    rw [show (["enumerate", "zip", "dict_itemiterator", "dict_reverseitemiterator", "odict_iterator", "itertools.zip_longest", "itertools.pairwise"].contains "tuple_iterator") = false from by decide, Bool.false_and] at h
    cases h)]
  exact wpAny_pure hQ
section
variable {M : Model} {A : Around} {E : Value → Shared → Prop} {s : Shared} {G : Glb} {hin : Heap} {outer : List Env} {L : Addr} {h₀ : Heap} {m : Str → Option Value} {news : List (Addr × Obj)}
theorem mkNats {vs : List Value} (ns : List Nat) {Q : Value → Shared → Prop} (S : St G hin outer L h₀ s.heap m news) (hv : ∀ h, RdAll h vs (ns.map fun y => .int (y : Nat))) (hsz : ns.length ≤ 1000)
    (hQ : ∀ a h' us, us.length = ns.length → (∀ h, RdAll h us (ns.map fun y => .int (y : Nat))) → (∀ b o, s.heap.get? b = some o → h'.get? b = some o) → St G hin outer L h₀ h' m ((a, listObj us) :: news) → Q (.ref a) { s with heap := h' }) : wpAny M A (newList vs) Q E s := by
  have hl : vs.length = ns.length := by have := (hv default).length; simpa using this
  exact mkList S (by omega) fun a h' _ k S' => hQ a h' vs hl hv k S'
theorem mkPair {d : Addr} {k : Int} {t : Tok} {Q : Value → Shared → Prop} (S : St G hin outer L h₀ s.heap m news)
    (hQ : ∀ a h' u, (∀ b o, s.heap.get? b = some o → h'.get? b = some o) → St G hin outer L h₀ h' m ((a, tupObj [.ref d, .int k u]) :: news) → Q (.ref a) { s with heap := h' }) : wpAny M A (newTuple [.ref d, .int k t]) Q E s :=
  mkTup S (by simp) fun a h' _ k S' => hQ a h' t k S'
end
noncomputable def TurnOk (g : Heap) (v : Value) : Prop := ∃ T d ys kinds t, v = .ref T ∧ IsTup g T #[.ref d, .int ((kinds : Nat) : Int) t] ∧ Rd g (.ref d) (natsData ys) ∧ ys ≠ [] ∧ ys.length ≤ 20 ∧ 0 < kinds ∧ kinds ≤ 7

inductive LawI (G : Glb) (s : Shared) (outer : List Env) (g₃ : Heap) (TT : Addr) (it : Addr) (margin : Nat) (n : Nat) (s' : Shared) : Prop
  | mk (i : Nat) (h h₀' : Heap) (tk : Nat) (m : Str → Option Value) (oi : Obj) (tm : Tok) (_ : s' = { s with heap := h, toks := tk }) (_ : TIt TT i oi) (_ : i ≤ 3) (_ : g₃.StaysIn h₀') (_ : Mine.St G s.heap outer s.heap.objs.size h₀' h m ([] ++ (it, oi) :: [])) (_ : m "margin" = some (.int margin tm)) (_ : n = 3 + 1 - i) : LawI G s outer g₃ TT it margin n s'

theorem law_spec {w : World} {A : Around} {E : Value → Shared → Prop} {s : Shared} {G : Glb} {outer : List Env} {f : Addr} {o : Obj} {pm cd doc : Value} {a : Addr} {script : List Int} {Q : Value → Shared → Prop}
    (K : G.Ok) (F : Fns w G) (hp : Pre G outer s.heap) (hfr : A.frames = some outer) (hroom : A.depth + 70 < recursionLimit) (hu : A.units + 120 < cLine) (hh : A.handled = none) (hn : script.length ≤ 1000)
    (hA : Rd (grd G outer s.heap) (.ref a) (numsData script))
    (ho : G.base.get? f = some o) (hdata : o.data = .func (docDef "law" (fnParams (stAt 22)) (fnBody (stAt 22)) (fnScope (stAt 22)) pm cd doc)) (hcd : G.base.CodeRec cd "law")
    (hQ : ∀ h' tk, Ext (frs outer) G.P s.heap h' → G.Tab h' → Q (.bool true) { s with heap := h', toks := tk }) :
    wpAny (model pw w) A (call (.ref f) [.ref a]) Q E s := by
  refine wpAny_call (enterPure (binds := [("script", .ref a)]) K hp (by omega) ho hdata hcd ?_ ?_)
  · rfl
  · intro E₁ h₀ h₁ St hin
    have hfr' : (A.deeper (lawEnv s.heap.objs.size f cd)).frames = some (lawEnv s.heap.objs.size f cd :: outer) := Around.frames_deeper hfr
    have hA := hA.keeps (grd_into hin)
    obtain ⟨a', oa, va, na, ea, ga, ca, da, ra⟩ := hA.list_inv
    cases ea
    have hIa : ∀ {h}, h₀.StaysIn h → h.IsList a va := fun k => ⟨oa, k _ _ ga, ca, na, da⟩
    have hsz : va.size = script.length := by have := ra.length; simpa using this
    refine wpAny_execs_cons ?_
    refine compA_St (G := G) (hin := s.heap) (outer := outer) (h₀ := h₀) (fun v y => ∀ i t, v = .int i t → ∃ u, y = .int (numOf i : Nat) u) hh ?_
    repeat walk_at "S"
    refine ⟨a, va, _, _, rfl, hIa St.keep, by omega, St, ?_, ?_⟩
    · intro C v i s₃ m₃ E' hv hn hm hk
      obtain ⟨d, hd1, hd2⟩ := ra.get (i := i) (v := v) (by simpa using hv)
      rw [List.getElem?_map] at hd1
      obtain ⟨x, hx, rfl⟩ := Option.map_eq_some_iff.mp hd1
      obtain ⟨t, rfl⟩ := hd2.int_inv
      refine IfExp_ ?_
      refine wpAny_isTrue_Compare1 ?_ (by with_unfolding_all rfl)
      refine lc hn hm ?_
      refine wpAny_Constant_int ?_
      refine PyProof.Rows.ge_int ?_
      refine wpAny_truthy_bool ?_
      by_cases h0 : 0 ≤ x
      · refine ite_yes (decide_eq_true h0) ?_
        refine wpAny_BinOp ?_
        refine wpAny_Constant_int ?_
        refine lc hn hm ?_
        refine PyProof.Rows.mul_int ?_ (.of_left (by decide))
        rw [show 2 * x = ((numOf x : Nat) : Int) by unfold numOf; rw [if_pos h0]; omega]
        refine ⟨fun i t' e => ?_, _, _, rfl, fun _ _ e => e⟩
        cases e
        exact ⟨_, rfl⟩
      · refine ite_no (by simp [h0]) ?_
        refine wpAny_BinOp ?_
        refine wpAny_BinOp ?_
        refine wpAny_UnaryOp ?_
        refine wpAny_Constant_int ?_
        refine PyProof.Rows.neg_int ?_
        refine lc hn hm ?_
        refine PyProof.Rows.mul_int ?_ (.of_left (by decide))
        refine wpAny_Constant_int ?_
        refine PyProof.Rows.sub_int ?_
        rw [show -2 * x - 1 = ((numOf x : Nat) : Int) by unfold numOf; rw [if_neg h0]; omega]
        refine ⟨fun i t' e => ?_, _, _, rfl, fun _ _ e => e⟩
        cases e
        exact ⟨_, rfl⟩
    · intro D n h₂ tk₂ ys hP St₂
      have rN := paired_nums hP ra
      refine St₂.settleK fun g₂ St₂ k₂ e₂ => ?_
      have rN : RdAll h₀ ys ((script.map numOf).map fun y => .int (y : Nat)) := rN
      have hyl : ys.length = script.length := by have := rN.length; simpa using this
      generalize hns : script.map numOf = ns at *
      repeat walk_at "S"
      refine sum_St (G := G) (hin := s.heap) (outer := outer) (L := s.heap.objs.size) (h₀ := g₂) hh St₂ ⟨_, St₂.keep _ _ e₂, rfl, _, rfl⟩ (intsAre_of rN) fun h₃ tk₃ t₃ k₃ St₃ => ?_
      rw [sum_nat]
      repeat walk_at "S"
      refine PyProof.Rows.mod_int (by decide) ?_
      have hmod : (((ns.sum : Nat) : Int) + 2).fmod 5 = (((ns.sum + 2) % 5 : Nat) : Int) := fmod_nat (ns.sum + 2) 5
      rw [hmod]
      have hmg : (ns.sum + 2) % 5 ≤ 4 := by omega
      generalize (ns.sum + 2) % 5 = margin at *
      with_reducible refine tk2 fun _ => ?_
      dsimp only
      repeat walk_at "S"
      rename_i St₄
      refine lslice_ns (G := G) (hin := s.heap) (outer := outer) (L := s.heap.objs.size) (h₀ := g₂) ?_
      repeat walk_at "S"
      refine ⟨D, ys.toArray, 8, _, _, _, rfl, rfl, ⟨_, St₄.keep _ _ e₂, rfl, _, rfl⟩, by simp; omega, St₄, fun D₅ h₅ hk₅ St₅ => ?_⟩
      with_reducible refine tk2 fun _ => ?_
      dsimp only
      repeat walk_at "S"
      rename_i St₆
      refine wpAny_For ?_
      repeat walk_at "S"
      have hf8 : (ys.toArray.toList.take 8).length ≤ 8 := by simp; omega
      generalize hfs : ys.toArray.toList.take 8 = fs at *
      have rF : RdAll h₀ fs ((ns.take 8).map fun y => .int (y : Nat)) := by
        rw [← hfs, List.map_take]; exact rN.take 8
      have hnl : (ns.take 8).length ≤ 8 := by simp; omega
      have rL : ∀ {us ws : List Value} {n n' : List Nat} {h : Heap}, RdAll h us (n.map fun y => .int (y : Nat)) → RdAll h ws (n'.map fun y => .int (y : Nat)) → RdAll h (us ++ ws) ((n ++ n').map fun y => .int (y : Nat)) := fun a b => by
        rw [List.map_append]; exact a.append b
      refine mkNats [7, 8, 14, 13] St₆ (fun _ => .cons .int (.cons .int (.cons .int (.cons .int .nil)))) (by decide) fun l₇ h₇ us₇ hl₇ hu₇ hk₇ St₇ => ?_
      with_reducible refine tk2 fun _ => ?_
      dsimp only
      repeat walk_at "S"
      refine ladd_St St₇ ⟨_, St₇.get (.tail _ (.head _)), rfl, _, rfl⟩ ⟨_, St₇.get (.head _), rfl, _, rfl⟩ (by simp at hl₇; omega) fun d₈ h₈ hk₈ St₈ => ?_
      with_reducible refine tk2 fun _ => ?_
      dsimp only
      repeat walk_at "S"
      refine mkPair St₈ fun T₉ h₉ t₉ hk₉ St₉ => ?_
      have St₉ := St₉.sub (news' := [(T₉, _), (d₈, _), (D₅, _)]) (.cons₂ _ (.cons₂ _ (.cons _ (.refl _))))
      with_reducible refine tk2 fun _ => ?_
      dsimp only
      repeat walk_at "S"
      refine mkNats [16, 12] St₉ (fun _ => .cons .int (.cons .int .nil)) (by decide) fun l₁₀ h₁₀ us₁₀ hl₁₀ hu₁₀ hk₁₀ St₁₀ => ?_
      with_reducible refine tk2 fun _ => ?_
      dsimp only
      repeat walk_at "S"
      refine ladd_St St₁₀ ⟨_, St₁₀.get (.tail _ (.tail _ (.tail _ (.head _)))), rfl, _, rfl⟩ ⟨_, St₁₀.get (.head _), rfl, _, rfl⟩ (by simp at hl₁₀; omega) fun d₁₁ h₁₁ hk₁₁ St₁₁ => ?_
      with_reducible refine tk2 fun _ => ?_
      dsimp only
      repeat walk_at "S"
      refine mkPair St₁₁ fun T₁₂ h₁₂ t₁₂ hk₁₂ St₁₂ => ?_
      have St₁₂ := St₁₂.sub (news' := [(T₁₂, _), (d₁₁, _), (T₉, _), (d₈, _), (D₅, _)]) (.cons₂ _ (.cons₂ _ (.cons _ (.refl _))))
      with_reducible refine tk2 fun _ => ?_
      dsimp only
      repeat walk_at "S"
      refine lslice_rev (G := G) (hin := s.heap) (outer := outer) (L := s.heap.objs.size) (h₀ := g₂) ?_
      repeat walk_at "S"
      refine wpAny_UnaryOp ?_
      repeat walk_at "S"
      refine PyProof.Rows.neg_int ?_
      refine ⟨D₅, fs.toArray, _, _, _, rfl, rfl, ⟨_, St₁₂.get (.tail _ (.tail _ (.tail _ (.tail _ (.head _))))), rfl, _, rfl⟩, by simp; omega, St₁₂, fun d₁₃ h₁₃ hk₁₃ St₁₃ => ?_⟩
      have e₁₃ : fs.toArray.toList.reverse = fs.reverse := by simp
      rw [e₁₃] at St₁₃
      with_reducible refine tk2 fun _ => ?_
      dsimp only
      repeat walk_at "S"
      refine mkNats [20] St₁₃ (fun _ => .cons .int .nil) (by decide) fun l₁₄ h₁₄ us₁₄ hl₁₄ hu₁₄ hk₁₄ St₁₄ => ?_
      with_reducible refine tk2 fun _ => ?_
      dsimp only
      repeat walk_at "S"
      refine ladd_St (vs := fs.reverse) St₁₄ ⟨_, St₁₄.get (.tail _ (.head _)), rfl, _, rfl⟩ ⟨_, St₁₄.get (.head _), rfl, _, rfl⟩ (by simp at hl₁₄ ⊢; omega) fun d₁₅ h₁₅ hk₁₅ St₁₅ => ?_
      with_reducible refine tk2 fun _ => ?_
      dsimp only
      repeat walk_at "S"
      refine mkPair St₁₅ fun T₁₆ h₁₆ t₁₆ hk₁₆ St₁₆ => ?_
      with_reducible refine tk2 fun _ => ?_
      dsimp only
      repeat walk_at "S"
      refine mkTup St₁₆ (by simp) fun TT h₁₇ _ hk₁₇ St₁₇ => ?_
      with_reducible refine tk2 fun _ => ?_
      dsimp only
      repeat walk_at "S"
      obtain ⟨g₃, St₁₈, k₁₈, e₁₈⟩ := St₁₇.settleAll
      have k₁₈' : h₀.StaysIn g₃ := fun b o e => k₁₈ b o (k₂ b o e)
      have hIT : ∀ {h}, g₃.StaysIn h → IsTup h TT #[.ref T₉, .ref T₁₂, .ref T₁₆] := fun k => ⟨_, k _ _ (e₁₈ (TT, tupObj [.ref T₉, .ref T₁₂, .ref T₁₆]) (List.mem_of_getElem? (i := 0) rfl)), rfl, 0, rfl⟩
      have hitems : ∀ (i : Nat) v, (#[.ref T₉, .ref T₁₂, .ref T₁₆] : Array Value)[i]? = some v → TurnOk g₃ v := by
        intro i v hv
        match i, hv with
        | 0, hv =>
          obtain rfl := Option.some.inj hv
          exact ⟨T₉, d₈, ns.take 8 ++ [7, 8, 14, 13], 4, t₉, rfl, ⟨_, e₁₈ (T₉, tupObj [.ref d₈, .int 4 t₉]) (List.mem_of_getElem? (i := 7) rfl), rfl, 0, rfl⟩, Rd.list (n := 0) (e₁₈ (d₈, listObj (fs ++ us₇)) (List.mem_of_getElem? (i := 8) rfl)) (rL (rF.keeps k₁₈') (hu₇ _)), by simp, by simp; omega, by decide, by decide⟩
        | 1, hv =>
          obtain rfl := Option.some.inj hv
          exact ⟨T₁₂, d₁₁, ns.take 8 ++ [16, 12], 7, t₁₂, rfl, ⟨_, e₁₈ (T₁₂, tupObj [.ref d₁₁, .int 7 t₁₂]) (List.mem_of_getElem? (i := 5) rfl), rfl, 0, rfl⟩, Rd.list (n := 0) (e₁₈ (d₁₁, listObj (fs ++ us₁₀)) (List.mem_of_getElem? (i := 6) rfl)) (rL (rF.keeps k₁₈') (hu₁₀ _)), by simp, by simp; omega, by decide, by decide⟩
        | 2, hv =>
          obtain rfl := Option.some.inj hv
          exact ⟨T₁₆, d₁₅, (ns.take 8).reverse ++ [20], 7, t₁₆, rfl, ⟨_, e₁₈ (T₁₆, tupObj [.ref d₁₅, .int 7 t₁₆]) (List.mem_of_getElem? (i := 1) rfl), rfl, 0, rfl⟩, Rd.list (n := 0) (e₁₈ (d₁₅, listObj (fs.reverse ++ us₁₄)) (List.mem_of_getElem? (i := 2) rfl)) (rL (by rw [List.map_reverse]; exact (rF.keeps k₁₈').reverse) (hu₁₄ _)), by simp, by simp; omega, by decide, by decide⟩
        | i + 3, hv => cases hv
      refine iter_tup St₁₈ (hIT St₁₈.keep) fun it h₁₉ oi hit hk₁₉ hoi St₁₉ => ?_
      refine forLoop_abs (LawI G s outer g₃ TT it margin) ?_ (3 + 1) ?_
      · rintro n _ E₂ R₂ N₂ hR₂ hN₂ ⟨i, h, h₀', tk, m, oi, tm, rfl, hoi, hile, hst, St, hm1, rfl⟩
        refine next_tup hh [] [] St hoi (hIT fun b o e => St.keep b o (hst b o e)) (fun v hv h' oi' hk' hoi' St' => ?_) (fun hv h' hk' St' => ?_)
        · have hilt : i < 3 := by
            have h1 := (Array.getElem?_eq_some_iff.mp hv).1
            simpa using h1
          obtain ⟨T, d, zs, kinds, t, rfl, ⟨oT, gT, cT, nT, dT⟩, hd, hz, hzl, hk0, hk7⟩ := hitems i v hv
          refine go_tupiter (St'.get (.head _)) hoi' ?_
          refine unpack_St hh St' ⟨oT, St'.keep _ _ (hst _ _ gT), cT, nT, dT⟩ fun h₂₀ hk₂₀ St₂₀ => ?_
          repeat ((fail_if_success (with_reducible show wpAny _ _ (execs _ _) _ _ _)); walk_at "S")
          rename_i St₂₁
          refine law_turn (news := [] ++ (it, oi') :: []) K F hfr' (by show A.depth + 1 + 60 < recursionLimit; omega) (by show A.units + 3 + 100 < cLine; omega) hh St₂₁ rfl (by walk_at "v") (by walk_at "v") (by walk_at "v") (hd.keeps hst) hz hzl hk0 hk7 hmg fun h₂₂ tk₂₂ m₂₂ g₄ St₂₂ k₂₂ hm₂₂ => ?_
          exact hN₂ (3 + 1 - (i + 1)) _ (by omega) ⟨i + 1, _, _, _, _, oi', tm, rfl, hoi', by omega, fun b o e => k₂₂ b o (hst b o e), St₂₂, hm₂₂, rfl⟩
        · repeat walk_at "S"
          refine hR₂ _ _ ?_
          repeat walk_at "S"
          exact hQ _ _ St'.ext St'.tab
      · exact ⟨0, _, g₃, _, _, oi, _, rfl, hoi, by omega, fun _ _ e => e, St₁₉, by walk_at "v", rfl⟩
end

end Mine
end

section
open PySem PySem.W PyProof.Rows PySem.Calls
set_option maxRecDepth 100000
namespace Mine

/-- what a set's table may be, and where the run may stand -/
structure Od where
  es : Array (Int × Value)
  ep : Nat
  t : SetTable
  pos : Pos
noncomputable abbrev Orc := Nat → Od
noncomputable abbrev Gh := List (Addr × List Nat)

/-- the next of an iterator, told as a flow -/
noncomputable def encF : Option Value → Fin
  | some v => .done (.ret v)
  | none => .done .next
noncomputable def encNext (it : Value) : Sem Fin := pyNext it >>= fun v => pure (encF v)

noncomputable def getT (x : SharedT) (a : Addr) : Option Obj := match Nat.blt a x.n with
  | true => match x.tree.get a with
    | some o => alive o
    | none => none
  | false => none
noncomputable def fsObj (d : Od) : Obj := { cls := .type "frozenset", dict := none, data := .set d.es d.ep d.t, slots := #[] }

/-- what a set that is new may be taken as -/
noncomputable def freshSet (o : Obj) : Bool := match o with
  | ⟨.type nm, none, .set ⟨[]⟩ _ t, ⟨[]⟩⟩ => (nm == "frozenset") && t.fits 0
  | _ => false
noncomputable def ghOf (gh : Gh) (a : Addr) : Option (List Nat) := match gh with
  | [] => none
  | (b, l) :: r => match Nat.beq b a with
    | true => some l
    | false => ghOf r a
noncomputable def ghSet (gh : Gh) (a : Addr) (l : List Nat) : Gh := match gh with
  | [] => []
  | (b, m) :: r => match Nat.beq b a with
    | true => (b, l) :: r
    | false => (b, m) :: ghSet r a l
noncomputable def has (l : List Nat) (c : Nat) : Bool := l.any fun d => Nat.beq d c
noncomputable def addTo (l : List Nat) (c : Nat) : List Nat := match has l c with | true => l | false => l ++ [c]
noncomputable def oneChar : Value → Option Nat
  | .str ⟨⟨[c]⟩⟩ _ => some c
  | _ => none

inductive Hk where
  | loop (a : Addr) (it : Value)
  | or (a b : Addr) (l m : List Nat)
  | sub (a b : Addr) (l m : List Nat)
  | none
noncomputable def hookOf (x : SharedT) (gh : Gh) : Code → Hk
  | .builtin id ⟨[.ref a, y], []⟩ => match ghOf gh a with
    | some l => match y with
      | .ref b => match ghOf gh b with
        | some m => if id = "frozenset.__or__" then .or a b l m else if id = "frozenset.__sub__" then .sub a b l m else .none
        | none => if id = "set.update.loop" then .loop a (.ref b) else .none
      | y => if id = "set.update.loop" then .loop a y else .none
    | none => match getT x a with
      | some o => match freshSet o with
        | true => if id = "set.update.loop" then .loop a y else .none
        | false => .none
      | none => .none
  | _ => .none

noncomputable abbrev Kt (R : Type) := End → SharedT → Gh → Orc → Option R
noncomputable abbrev Rc (R : Type) := Ctx → Pos → Sem Fin → List Frame → SharedT → Gh → Orc → Kt R → Option R

noncomputable def putT (x : SharedT) (a : Addr) (f : Obj → Obj) : SharedT := { x with tree := x.tree.set a f }
noncomputable def insT (x : SharedT) (o : Obj) : SharedT := { x with tree := x.tree.ins x.n o, n := x.n + 1 }
noncomputable def tickT (x : SharedT) : SharedT := { x with toks := x.toks + 1 }
noncomputable def setGenT (x : SharedT) (g : Nat) (s : GenState) : SharedT := { x with gens := x.gens.setIfInBounds g s }
noncomputable def roomT (x : SharedT) (o : Obj) : Bool := ((x.tree.ins x.n o).get x.n).isSome
noncomputable def tlO (O : Orc) : Orc := fun i => O (i + 1)
noncomputable def withGh (gh : Gh) (a : Addr) : Gh := match ghOf gh a with | some _ => gh | none => (a, []) :: gh

/-- a code is run -/
noncomputable def evCode {R : Type} (rec : Rc R) (p : Pos) (Γ : Ctx) (x : SharedT) (gh : Gh) (O : Orc) (K : Kt R) : Option R := match hookOf x gh Γ.code with
  | .none => rec Γ p (denote treeTable Γ.code) [] x gh O K
  | .loop a it => match Γ.handled with
    | some _ => none
    | none => rec Γ p (encNext it) [] x (withGh gh a) O fun e x₁ gh₁ O₁ => match e with
      | .ret (.ok (.ret v)) => match oneChar v with
        | some c => match ghOf gh₁ a with
          | some l => match Nat.blt l.length 1000 with
            | true => rec Γ (O₁ 0).pos (.pure (.again Γ.code)) [] (tickT (putT x₁ a fun _ => fsObj (O₁ 0))) (ghSet gh₁ a (addTo l c)) (tlO O₁) K
            | false => none
          | none => none
        | none => none
      | .ret (.ok .next) => K (.ret (.ok (.ret .none))) x₁ gh₁ O₁
      | _ => none
  | .or a b l m => match m with
    | [c] => match (Nat.beq l.length 2 || Nat.beq l.length 32) && !has l c && !Nat.beq a b && roomT x (fsObj (O 0)) with
      | true => K (.ret (.ok (.ret (.ref x.n)))) (insT x (fsObj (O 0))) ((x.n, l ++ [c]) :: gh) (tlO O)
      | false => none
    | _ => none
  | .sub a b l m => match m with
    | [c] => match Nat.beq l.length 33 && Nat.beq (l.filter fun d => !Nat.beq d c).length 32 && has l c && !Nat.beq a b && roomT x (fsObj (O 0)) with
      | true => K (.ret (.ok (.ret (.ref x.n)))) (insT x (fsObj (O 0))) ((x.n, l.filter fun d => !Nat.beq d c) :: gh) (tlO O)
      | false => none
    | _ => none

noncomputable def ev {R : Type} (w : World) : Nat → Rc R
  | 0, _, _, _, _, _, _, _, _ => none
  | n + 1, Γ, p, t, F :: fs, x, gh, O, K => ev w n (Γ.over (F :: fs)) p t [] x gh O fun e x₁ gh₁ O₁ => match e with
    | .ret r => match F with
      | .ret k _ _ _ c₁ p₁ _ => ev w n (Γ.goto c₁) p₁ (k r) fs x₁ gh₁ O₁ K
      | .gen .. => none
    | .susp v g₀ l₀ k₀ c₀ p₀ fs₀ => match splitAtGen (F :: fs) with
      | none => K (.susp v g₀ l₀ k₀ c₀ p₀ (fs₀ ++ F :: fs)) x₁ gh₁ O₁
      | some _ => none
  | n + 1, Γ, p, t, [], x, gh, O, K => match t with
    | .pure (.done f) => K (.ret (.ok f)) x gh O
    | .raise e => K (.ret (.error e)) x gh O
    | .pure (.again c) => match Code.quiet c with
      | true => evCode (ev w n) p (Γ.goto c) x gh O K
      | false => none
    | .rule _ k => ev w n Γ p (k ()) [] x gh O K
    | .at p' k => ev w n Γ p' (k ()) [] x gh O K
    | .load a _ k => match getT x a with
      | some o => ev w n Γ p (k o) [] x gh O K
      | none => none
    | .update a _ f k => match ghOf gh a with
      | some _ => none
      | none => match getT x a with
        | some _ => ev w n Γ p (k ()) [] (putT x a f) gh O K
        | none => none
    | .loadIfAlive a k => match getT x a with
      | some o => ev w n Γ p (k (some o)) [] x gh O K
      | none => none
    | .point _ k => ev w n Γ p (k ()) [] x gh O K
    | .alloc o k => match roomT x o with
      | true => ev w n Γ p (k x.n) [] (insT x o) gh O K
      | false => none
    | .fresh k => ev w n Γ p (k x.toks) [] (tickT x) gh O K
    | .ask k => ev w n Γ p (k ⟨pw, w.params⟩) [] x gh O K
    | .handled own k => ev w n Γ p (k (if own then Γ.own else Γ.handled)) [] x gh O K
    | .genState g k => match x.gens[g]? with
      | some st => ev w n Γ p (k st.seen) [] x gh O K
      | none => none
    | .stack k => ev w n Γ p (k ((Γ.code, p) :: Γ.below)) [] x gh O K
    | .thread k => ev w n Γ p (k 0) [] x gh O K
    | .newGen c k => ev w n Γ p (k x.gens.size) [] { x with gens := x.gens.push (.fresh c) } gh O K
    | .call c h g l k => evCode (ev w n) p (Γ.enter c h p) x gh O fun e x₁ gh₁ O₁ => match e with
      | .ret r => ev w n Γ p (k r) [] x₁ gh₁ O₁ K
      | .susp v g₀ l₀ k₀ c₀ p₀ fs => K (.susp v g₀ l₀ k₀ c₀ p₀ (fs ++ [.ret k h g l Γ.code p []])) x₁ gh₁ O₁
    | .yield v g l k => K (.susp v g l k Γ.code p []) x gh O
    | .resume g r _ k => match x.gens[g]? with
      | some (.fresh c) => match r with
        | .send .none => evCode (ev w n) p (Γ.wake c p) (setGenT x g .running) gh O fun e₁ x₁ gh₁ O₁ => match e₁.quiet with
          | true => ev w n Γ p (k e₁.result) [] (setGenT x₁ g e₁.genState) gh₁ O₁ K
          | false => none
        | _ => none
      | some (.suspended k₀ _ c₀ p₀ fs _) => ev w n (Γ.wake c₀ p) p₀ (k₀ r) fs (setGenT x g .running) gh O fun e₁ x₁ gh₁ O₁ => match e₁.quiet with
          | true => ev w n Γ p (k e₁.result) [] (setGenT x₁ g e₁.genState) gh₁ O₁ K
          | false => none
      | some .finished => ev w n Γ p (k .finished) [] x gh O K
      | _ => none
    | _ => none

noncomputable def topTree : Sem Fin := do
  let code ← moduleCode pw.main
  let frame ← newBodyFrame code mainNs mainNs
  let _ ← run (.body (behindTheImports pw) { scope := pw.main.scope, locals := mainNs, globals := mainNs, cells := [], code, frame := some frame })
  ret .none
noncomputable def Γ0 : Ctx := ⟨.builtin "claim.caller" {}, none, none, [], none⟩
end Mine
end

section
open PySem PySem.W PyProof.Rows PySem.Calls
set_option maxRecDepth 100000
namespace Mine
open Sem (wp)

/-- two entries of no one key -/
noncomputable def Apart (w : World) (e e' : Int × Value) : Prop := ∀ k, ¬ ((strKind pw w).is k e.2 = true ∧ (strKind pw w).is k e'.2 = true)
/-- a frozenset of one-sign texts, with the signs l -/
noncomputable def GS (w : World) (h : Heap) (a : Addr) (l : List Nat) : Prop :=
  ∃ d : Od, h.get? a = some (fsObj d) ∧ ElemsOf (strKind pw w) d.es.toList ∧ (∀ k, inText l k = true ↔ ∃ e ∈ d.es.toList, (strKind pw w).is k e.2 = true) ∧ d.t.fits d.es.size = true ∧ d.es.size = l.length ∧ d.es.toList.Pairwise (Apart w)
theorem GS.same {w : World} {h h' : Heap} {a : Addr} {l : List Nat} (x : GS w h a l) (e : h'.get? a = h.get? a) : GS w h' a l := let ⟨d, h1, r⟩ := x; ⟨d, e.trans h1, r⟩

structure Hooks (w : World) : Prop where
  add : ∀ {A : Around} {E : Value → Shared → Prop} {s : Shared} {a : Addr} {l : List Nat} {c : Nat} {tk : Tok}, GS w s.heap a l → l.length < 1000 →
    wpAny (model pw w) A (holding [.str ⟨#[c]⟩ tk] (setAdd a (.str ⟨#[c]⟩ tk))) (fun _ s' => ∃ d, s' = { s with heap := s.heap.update a (fun _ => fsObj d), toks := s.toks + 1 } ∧ GS w s'.heap a (addTo l c)) E s
  or : ∀ {A : Around} {s : Shared} {a b : Addr} {l : List Nat} {c : Nat}, GS w s.heap a l → GS w s.heap b [c] → (l.length = 2 ∨ l.length = 32) → has l c = false → a ≠ b →
    codeAny (model pw w) A (.builtin "frozenset.__or__" ⟨[.ref a, .ref b], []⟩) (fun r s' => r = .ok (.ret (.ref s.heap.objs.size)) ∧ ∃ d, s' = { s with heap := s.heap.push (fsObj d) } ∧ GS w s'.heap s.heap.objs.size (l ++ [c])) s
  sub : ∀ {A : Around} {s : Shared} {a b : Addr} {l : List Nat} {c : Nat}, GS w s.heap a l → GS w s.heap b [c] → l.length = 33 → (l.filter fun d => !Nat.beq d c).length = 32 → has l c = true → a ≠ b →
    codeAny (model pw w) A (.builtin "frozenset.__sub__" ⟨[.ref a, .ref b], []⟩) (fun r s' => r = .ok (.ret (.ref s.heap.objs.size)) ∧ ∃ d, s' = { s with heap := s.heap.push (fsObj d) } ∧ GS w s'.heap s.heap.objs.size (l.filter fun d => !Nat.beq d c)) s

noncomputable abbrev Mt (w : World) : Model := ⟨denote treeTable, pw, w⟩
theorem model_tree (w : World) : model pw w = Mt w := by unfold model Mt; rw [table_eq_tree]

theorem beq_iff {a b : Nat} : Nat.beq a b = true ↔ a = b := ⟨Nat.eq_of_beq_eq_true, fun h => by subst h; exact Nat.beq_refl a⟩
theorem ghOf_ghSet : ∀ {gh : Gh} {a b : Addr} {l m : List Nat}, ghOf (ghSet gh a l) b = some m → (b = a ∧ m = l) ∨ (b ≠ a ∧ ghOf gh b = some m)
  | [], _, _, _, _, h => by cases h
  | (c, k) :: r, a, b, l, m, h => by
    rw [ghSet] at h
    cases hc : Nat.beq c a with
    | true =>
      have e := Nat.eq_of_beq_eq_true hc; subst e
      rw [hc] at h
      simp only [ghOf] at h ⊢
      cases hb : Nat.beq c b with
      | true => rw [hb] at h; exact .inl ⟨(Nat.eq_of_beq_eq_true hb).symm, (Option.some.inj h).symm⟩
      | false => rw [hb] at h; exact .inr ⟨fun q => (by subst q; simp at hb), h⟩
    | false =>
      rw [hc] at h
      simp only [ghOf] at h ⊢
      cases hb : Nat.beq c b with
      | true => rw [hb] at h; exact .inr ⟨fun q => (by subst q; rw [hb] at hc; cases hc), h⟩
      | false => rw [hb] at h; exact ghOf_ghSet h

section
variable {w : World} {x : SharedT} {gh : Gh}
theorem getT_tree {a : Addr} {o : Obj} (h : getT x a = some o) : ∃ o', a < x.n ∧ x.tree.get a = some o' ∧ alive o' = some o := by
  unfold getT at h
  cases hb : Nat.blt a x.n with
  | false => rw [hb] at h; cases h
  | true =>
    rw [hb] at h
    dsimp only at h
    cases ht : x.tree.get a with
    | none => rw [ht] at h; cases h
    | some o' => rw [ht] at h; exact ⟨o', by simpa [Nat.blt_eq] using hb, rfl, h⟩
theorem getT_abs {a : Addr} {o : Obj} (h : getT x a = some o) : x.abs.heap.get? a = some o :=
  let ⟨_, h1, h2, h3⟩ := getT_tree h; (abs_get h1 h2).trans h3
theorem put_abs {a : Addr} {o : Obj} {f : Obj → Obj} (h : getT x a = some o) : (putT x a f).abs = { x.abs with heap := x.abs.heap.update a f } := by
  obtain ⟨o', h1, h2, h3⟩ := getT_tree h
  unfold putT SharedT.abs
  dsimp only
  rw [absHeap_set h2]
theorem ins_abs {o : Obj} (h : roomT x o = true) : (insT x o).abs = { x.abs with heap := x.abs.heap.push o } := by
  unfold insT SharedT.abs
  dsimp only
  rw [absHeap_ins h]
theorem size_abs : x.abs.heap.objs.size = x.n := absHeap_size _ _ _

noncomputable def Good (w : World) (x : SharedT) (gh : Gh) : Prop := ∀ a l, ghOf gh a = some l → GS w x.abs.heap a l
theorem Good.put {a : Addr} {o : Obj} {f : Obj → Obj} (g : Good w x gh) (hn : ghOf gh a = none) (h : getT x a = some o) : Good w (putT x a f) gh := fun b l hb => by
  rw [put_abs h]
  exact (g b l hb).same (Heap.get?_update_other _ _ fun q => by subst q; rw [hn] at hb; cases hb)
theorem GS.lt {h : Heap} {a : Addr} {l : List Nat} (g : GS w h a l) : a < h.objs.size := let ⟨_, e, _⟩ := g; Heap.lt_size e
theorem GS.push {h : Heap} {a : Addr} {l : List Nat} (g : GS w h a l) (o : Obj) : GS w (h.push o) a l := let ⟨d, e, r⟩ := g; ⟨d, Heap.get?_push_of_some o e, r⟩
theorem Good.ins {o : Obj} (g : Good w x gh) (h : roomT x o = true) : Good w (insT x o) gh := fun b l hb => by
  rw [ins_abs h]; exact (g b l hb).push o

noncomputable def consO (d : Od) (O : Orc) : Orc
  | 0 => d
  | i + 1 => O i
theorem tl_cons (d : Od) (O : Orc) : tlO (consO d O) = O := rfl

noncomputable def Out {R : Type} (w : World) (val : Orc → Option R) (runs : End → Shared → Prop) (x : SharedT) (K : Kt R) : Prop :=
  ∃ e x' gh', runs e x'.abs ∧ Good w x' gh' ∧ x'.os = x.os ∧ x'.life = x.life ∧ (∀ O, (K e x' gh' O).isSome = true) ∧ ∃ f : Orc → Orc, ∀ O, val (f O) = K e x' gh' O
variable {R : Type} {val val' : Orc → Option R} {runs runs' : End → Shared → Prop} {K K' : Kt R}
theorem Out.end (e : End) (x : SharedT) (gh : Gh) (g : Good w x gh) (r : runs e x.abs) (h : ∀ O, (K e x gh O).isSome = true) : Out w (fun O => K e x gh O) runs x K :=
  ⟨e, x, gh, r, g, rfl, rfl, h, id, fun _ => rfl⟩
theorem Out.mono {x₀ : SharedT} (o : Out w val runs x K) (h : ∀ e s, runs e s → runs' e s) (h1 : x.os = x₀.os := by rfl) (h2 : x.life = x₀.life := by rfl) : Out w val runs' x₀ K :=
  let ⟨e, x', gh', r, g, a, b, c⟩ := o; ⟨e, x', gh', h e _ r, g, a.trans h1, b.trans h2, c⟩
theorem Out.then (o : Out w val runs x K') (k : ∀ e₁ x₁ gh₁, runs e₁ x₁.abs → Good w x₁ gh₁ → (∀ O, (K' e₁ x₁ gh₁ O).isSome = true) → Out w (fun O => K' e₁ x₁ gh₁ O) runs' x₁ K) : Out w val runs' x K := by
  obtain ⟨e₁, x₁, gh₁, r, g, a, b, c, f, hf⟩ := o
  obtain ⟨e, x', gh', r', g', a', b', c', f', hf'⟩ := k e₁ x₁ gh₁ r g c
  exact ⟨e, x', gh', r', g', a'.trans a, b'.trans b, c', fun O => f (f' O), fun O => (hf _).trans (hf' O)⟩
theorem Out.pre (d : Od) (o : Out w (fun O => val (consO d O)) runs x K) : Out w val runs x K :=
  let ⟨e, x', gh', r, g, a, b, c, f, hf⟩ := o; ⟨e, x', gh', r, g, a, b, c, fun O => consO d (f O), hf⟩

noncomputable def Snd (w : World) {R : Type} (rec : Rc R) : Prop := ∀ Γ p t fs x gh K, Good w x gh → (∀ O, (rec Γ p t fs x gh O K).isSome = true) → Out w (fun O => rec Γ p t fs x gh O K) (fun e s' => Runs (Mt w) Γ p t fs x.abs e s') x K
end

theorem hookOf_loop {x : SharedT} {gh : Gh} {c : Code} {a : Addr} {it : Value} (h : hookOf x gh c = .loop a it) : c = .builtin "set.update.loop" ⟨[.ref a, it], []⟩ ∧ (ghOf gh a = none → ∃ o, getT x a = some o ∧ freshSet o = true) := by
  unfold hookOf at h
  repeat' (split at h)
  all_goals first
    | (cases h; done)
    | (cases h; subst_vars; refine ⟨rfl, fun q => ?_⟩; first | (simp_all; done) | exact ⟨_, by assumption, by assumption⟩)
theorem hookOf_or {x : SharedT} {gh : Gh} {c : Code} {a b : Addr} {l m : List Nat} (h : hookOf x gh c = .or a b l m) : c = .builtin "frozenset.__or__" ⟨[.ref a, .ref b], []⟩ ∧ ghOf gh a = some l ∧ ghOf gh b = some m := by
  unfold hookOf at h
  repeat' (split at h)
  all_goals first
    | (cases h; done)
    | (cases h; subst_vars; exact ⟨rfl, by assumption, by assumption⟩)
theorem hookOf_sub {x : SharedT} {gh : Gh} {c : Code} {a b : Addr} {l m : List Nat} (h : hookOf x gh c = .sub a b l m) : c = .builtin "frozenset.__sub__" ⟨[.ref a, .ref b], []⟩ ∧ ghOf gh a = some l ∧ ghOf gh b = some m := by
  unfold hookOf at h
  repeat' (split at h)
  all_goals first
    | (cases h; done)
    | (cases h; subst_vars; exact ⟨rfl, by assumption, by assumption⟩)
end Mine
end

section
open PySem PySem.W PyProof.Rows PySem.Calls
set_option maxRecDepth 100000
set_option maxHeartbeats 4000000
namespace Mine
open Sem (wp)

/-- what a tree comes to, and what runs behind it -/
noncomputable def Exact {α : Type} (M : Model) (Γ : Ctx) (m : Sem α) (a : α) (p' : Pos) (s' : Shared) (p : Pos) (s : Shared) : Prop :=
  ∀ (f : α → Sem Fin) (e : End) (s'' : Shared), Runs M Γ p' (f a) [] s' e s'' → Runs M Γ p (m.bind f) [] s e s''

theorem wp_exact {α : Type} {M : Model} {Γ : Ctx} (m : Sem α) : ∀ {Q : α → Pos → Shared → Prop} {E : Value → Pos → Shared → Prop} {p : Pos} {s : Shared}, wp M Γ m Q E p s →
    (∃ a p' s', Q a p' s' ∧ Exact M Γ m a p' s' p s) ∨ ∃ e p' s', E e p' s' := by
  induction m with
  | pure a => intro Q E p s h; exact .inl ⟨a, p, s, h, fun f e s'' r => r⟩
  | raise x => intro Q E p s h; exact .inr ⟨x, p, s, h⟩
  | unsupported _ => intro Q E p s h; exact h.elim
  | finish _ => intro Q E p s h; exact h.elim
  | register _ _ => intro Q E p s h; exact h.elim
  | fork _ _ => intro Q E p s h; exact h.elim
  | await _ _ _ _ _ => intro Q E p s h; exact h.elim
  | yield _ _ _ _ => intro Q E p s h; exact h.elim
  | rule t k ih => intro Q E p s h; exact (ih () h).imp (fun ⟨a, p', s', q, x⟩ => ⟨a, p', s', q, fun f e s'' r => .rule (x f e s'' r)⟩) id
  | «at» p₁ k ih => intro Q E p s h; exact (ih () h).imp (fun ⟨a, p', s', q, x⟩ => ⟨a, p', s', q, fun f e s'' r => .at (x f e s'' r)⟩) id
  | load a _ k ih => intro Q E p s h; obtain ⟨o, ho, h⟩ := h; exact (ih o h).imp (fun ⟨a, p', s', q, x⟩ => ⟨a, p', s', q, fun f e s'' r => .load ho (x f e s'' r)⟩) id
  | update a _ g k ih => intro Q E p s h; obtain ⟨ho, h⟩ := h; exact (ih () h).imp (fun ⟨a, p', s', q, x⟩ => ⟨a, p', s', q, fun f e s'' r => .update ho (x f e s'' r)⟩) id
  | alloc o k ih => intro Q E p s h; exact (ih _ h).imp (fun ⟨a, p', s', q, x⟩ => ⟨a, p', s', q, fun f e s'' r => .alloc (x f e s'' r)⟩) id
  | loadIfAlive a k ih => intro Q E p s h; exact (ih _ h).imp (fun ⟨a, p', s', q, x⟩ => ⟨a, p', s', q, fun f e s'' r => .loadIfAlive (x f e s'' r)⟩) id
  | point _ k ih => intro Q E p s h; exact (ih _ h).imp (fun ⟨a, p', s', q, x⟩ => ⟨a, p', s', q, fun f e s'' r => .point (x f e s'' r)⟩) id
  | fresh k ih => intro Q E p s h; exact (ih _ h).imp (fun ⟨a, p', s', q, x⟩ => ⟨a, p', s', q, fun f e s'' r => .fresh (x f e s'' r)⟩) id
  | ask k ih => intro Q E p s h; exact (ih _ h).imp (fun ⟨a, p', s', q, x⟩ => ⟨a, p', s', q, fun f e s'' r => .ask (x f e s'' r)⟩) id
  | choose src n k ih => intro Q E p s h; obtain ⟨hn, h⟩ := h; exact (ih _ h).imp (fun ⟨a, p', s', q, x⟩ => ⟨a, p', s', q, fun f e s'' r => .choose hn (x f e s'' r)⟩) id
  | os q _ k ih => intro Q E p s h; exact (ih _ h).imp (fun ⟨a, p', s', q, x⟩ => ⟨a, p', s', q, fun f e s'' r => .os (x f e s'' r)⟩) id
  | call c hd g l k ih => intro Q E p s h; obtain ⟨r₁, s₁, hr, h⟩ := h; exact (ih _ h).imp (fun ⟨a, p', s', q, x⟩ => ⟨a, p', s', q, fun f e s'' r => .call hr (x f e s'' r)⟩) id
  | handled own k ih => intro Q E p s h; exact (ih _ h).imp (fun ⟨a, p', s', q, x⟩ => ⟨a, p', s', q, fun f e s'' r => .handled (x f e s'' r)⟩) id
  | newGen c k ih => intro Q E p s h; exact (ih _ h).imp (fun ⟨a, p', s', q, x⟩ => ⟨a, p', s', q, fun f e s'' r => .newGen (x f e s'' r)⟩) id
  | genState g k ih => intro Q E p s h; obtain ⟨st, hg, h⟩ := h; exact (ih _ h).imp (fun ⟨a, p', s', q, x⟩ => ⟨a, p', s', q, fun f e s'' r => .genState hg (x f e s'' r)⟩) id
  | stack k ih => intro Q E p s h; exact (ih _ h).imp (fun ⟨a, p', s', q, x⟩ => ⟨a, p', s', q, fun f e s'' r => .stack (x f e s'' r)⟩) id
  | thread k ih => intro Q E p s h; exact (ih _ h).imp (fun ⟨a, p', s', q, x⟩ => ⟨a, p', s', q, fun f e s'' r => .thread (x f e s'' r)⟩) id
  | resume g r₀ l k ih =>
    intro Q E p s h
    obtain ⟨res, s₁, hw, h⟩ := h
    refine (ih _ h).imp (fun ⟨a, p', s', q, x⟩ => ⟨a, p', s', q, fun f e s'' r => ?_⟩) id
    exact (Sem.runs_resume_iff ..).mpr ⟨res, s₁, hw, x f e s'' r⟩

theorem entry_update_loop : entryFor table "set.update.loop" = some Builtin.«set.update.loop» := entryFor_of_tree (by kernel_rfl)
theorem den_loop (a : Addr) (it : Value) : denote treeTable (.builtin "set.update.loop" ⟨[.ref a, it], []⟩) = (pyNext it).bind fun o => match o with
    | some v => (holding [v] (setAdd a v)).bind fun _ => .pure (.again (.builtin "set.update.loop" ⟨[.ref a, it], []⟩))
    | none => .pure (.done (.ret .none)) := by
  show (match entryFor treeTable "set.update.loop" with | some b => b ⟨[.ref a, it], []⟩ | none => unsupported ((withoutEnding? "set.update.loop" "#data").getD "set.update.loop")) = _
  rw [← table_eq_tree, entry_update_loop]
  show (pyNext it).bind _ = _
  congr 1
  funext o
  cases o <;> rfl

noncomputable def aroundOf (Γ : Ctx) : Around := { handled := Γ.handled, depth := frameCount Γ.below + Γ.code.weight, units := Γ.units }
theorem in_around (Γ : Ctx) : Γ.In (aroundOf Γ) := ⟨rfl, Nat.le_refl _, (fun _ h => nomatch h), (fun _ h => nomatch h), Nat.le_refl _⟩
noncomputable def belowOf (Γ : Ctx) : Around := { handled := Γ.handled, depth := frameCount Γ.below, units := unitsOf Γ.below }
theorem below_around (Γ : Ctx) : Γ.Below (belowOf Γ) := ⟨rfl, Nat.le_refl _, (fun _ h => nomatch h), (fun _ h => nomatch h), Nat.le_refl _⟩

theorem oneChar_of {v : Value} {c : Nat} (h : oneChar v = some c) : ∃ tk, v = .str ⟨#[c]⟩ tk := by
  unfold oneChar at h
  split at h
  · cases h; exact ⟨_, rfl⟩
  · cases h

theorem fresh_gs {w : World} {h : Heap} {a : Addr} {o : Obj} (e : h.get? a = some o) (hf : freshSet o = true) : GS w h a [] := by
  unfold freshSet at hf
  split at hf
  · rename_i nm ep t
    obtain ⟨h1, h2⟩ := Bool.and_eq_true_iff.mp hf
    have h1 := eq_of_beq h1
    subst h1
    exact ⟨⟨#[], ep, t, default⟩, e, fun e he => (by simp at he), fun k => (by simp [inText]), h2, rfl, .nil⟩
  · cases hf

section
variable {w : World} {R : Type} {rec : Rc R}

theorem evCode_sound (H : Hooks w) (hrec : Snd w rec) {p : Pos} {Γ : Ctx} {x : SharedT} {gh : Gh} {K : Kt R} (g : Good w x gh) (h : ∀ O, (evCode rec p Γ x gh O K).isSome = true) :
    Out w (fun O => evCode rec p Γ x gh O K) (fun e s' => Runs (Mt w) Γ p (denote treeTable Γ.code) [] x.abs e s') x K := by
  unfold evCode at h ⊢
  cases hk : hookOf x gh Γ.code with
  | none =>
    simp only [hk] at h ⊢
    exact hrec _ _ _ _ _ _ _ g h
  | loop a it =>
    obtain ⟨hc, hfr⟩ := hookOf_loop hk
    simp only [hk] at h ⊢
    cases hh : Γ.handled with
    | some v => simp only [hh] at h; exact Bool.noConfusion (show false = true from h fun _ => ⟨#[], 0, default, default⟩)
    | none =>
      simp only [hh] at h ⊢
      have g' : Good w x (withGh gh a) := by
        unfold withGh
        cases hq : ghOf gh a with
        | some l => exact g
        | none =>
          obtain ⟨o, ho, hf⟩ := hfr hq
          intro b l hb
          simp only [ghOf] at hb
          cases hab : Nat.beq a b with
          | true => rw [hab] at hb; cases hb; cases Nat.eq_of_beq_eq_true hab; exact fresh_gs (getT_abs ho) hf
          | false => rw [hab] at hb; exact g b l hb
      refine (hrec _ _ _ _ _ _ _ g' h).then fun e₁ x₁ gh₁ r₁ g₁ k₁ => ?_
      have dn := den_loop a it
      rw [← hc] at dn
      have key : ∀ f, e₁ = .ret (.ok f) → ∃ v p₁, encF v = .done f ∧ Exact (Mt w) Γ (pyNext it) v p₁ x₁.abs p x.abs := by
        rintro f rfl
        have hw := (Sem.wp_iff_runs (Mt w) Γ (encNext it) (fun r s' => r = .ok f ∧ s' = x₁.abs) p x.abs).mpr ⟨_, _, r₁, rfl, rfl⟩
        have hw : wp (Mt w) Γ ((pyNext it).bind fun v => .pure (encF v)) _ _ p x.abs := hw
        rw [Sem.wp_bind] at hw
        rcases wp_exact _ hw with ⟨v, p₁, s₁, q, ex⟩ | ⟨_, _, _, q, _⟩
        · cases v with
          | some v => obtain ⟨q1, rfl⟩ := q; exact ⟨some v, p₁, by rw [← (Except.ok.inj q1)]; rfl, ex⟩
          | none => obtain ⟨q1, rfl⟩ := q; exact ⟨none, p₁, by rw [← (Except.ok.inj q1)]; rfl, ex⟩
        · cases q
      cases e₁ with
      | susp => exact Bool.noConfusion (show false = true from k₁ fun _ => ⟨#[], 0, default, default⟩)
      | ret r => cases r with
        | error e => exact Bool.noConfusion (show false = true from k₁ fun _ => ⟨#[], 0, default, default⟩)
        | ok f => cases f with
          | brk => exact Bool.noConfusion (show false = true from k₁ fun _ => ⟨#[], 0, default, default⟩)
          | cont => exact Bool.noConfusion (show false = true from k₁ fun _ => ⟨#[], 0, default, default⟩)
          | next =>
            dsimp only at k₁ ⊢
            refine Out.end _ _ _ g₁ ?_ k₁
            obtain ⟨v, p₁, hv, ex⟩ := key _ rfl
            cases v with
            | some v => cases hv
            | none => rw [dn]; exact ex _ _ _ .done
          | ret v =>
            obtain ⟨v', p₁, hv, ex⟩ := key _ rfl
            obtain rfl : v' = some v := by cases v' with | some u => cases hv; rfl | none => cases hv
            dsimp only at k₁ ⊢
            cases ho : oneChar v with
            | none => simp only [ho] at k₁; exact Bool.noConfusion (show false = true from k₁ fun _ => ⟨#[], 0, default, default⟩)
            | some c =>
              simp only [ho] at k₁ ⊢
              cases hl : ghOf gh₁ a with
              | none => simp only [hl] at k₁; exact Bool.noConfusion (show false = true from k₁ fun _ => ⟨#[], 0, default, default⟩)
              | some l =>
                simp only [hl] at k₁ ⊢
                cases hz : Nat.blt l.length 1000 with
                | false => simp only [hz] at k₁; exact Bool.noConfusion (show false = true from k₁ fun _ => ⟨#[], 0, default, default⟩)
                | true =>
                  simp only [hz] at k₁ ⊢
                  obtain ⟨tk, rfl⟩ := oneChar_of ho
                  have hw := H.add (A := aroundOf Γ) (E := fun _ _ => False) (s := x₁.abs) (c := c) (tk := tk) (g₁ a l hl) (by simpa [Nat.blt_eq] using hz) Γ p₁ (in_around Γ)
                  rw [model_tree] at hw
                  rcases wp_exact _ hw with ⟨b, p₂, s₂, ⟨d, rfl, gs⟩, ex₂⟩ | ⟨_, _, _, q⟩
                  · refine Out.pre { d with pos := p₂ } ?_
                    have hget : ∃ o, getT x₁ a = some o := by
                      obtain ⟨d', e', _⟩ := g₁ a l hl
                      have lt : a < x₁.n := by rw [← size_abs]; exact Heap.lt_size e'
                      unfold getT
                      rw [show Nat.blt a x₁.n = true by simpa [Nat.blt_eq] using lt]
                      dsimp only
                      cases ht : x₁.tree.get a with
                      | some o => exact ⟨fsObj d', (abs_get (life := x₁.life) lt ht).symm.trans e'⟩
                      | none =>
                        exfalso
                        have := absHeap_at x₁.tree x₁.n x₁.life a
                        rw [if_pos lt, ht] at this
                        have e2 : (absHeap x₁.tree x₁.n x₁.life).get? a = some (fsObj d') := e'
                        unfold Heap.get? at e2
                        rw [this] at e2
                        have e3 : some (default : Obj) = some (fsObj d') := e2
                        exact absurd (congrArg Obj.cls (Option.some.inj e3)) (show Obj.cls default ≠ _ from (by simp [fsObj]; show ((default : Obj).cls) ≠ _; decide))
                    obtain ⟨o, hget⟩ := hget
                    have ex2 : (tickT (putT x₁ a fun _ => fsObj { d with pos := p₂ })).abs = { x₁.abs with heap := x₁.abs.heap.update a (fun _ => fsObj d), toks := x₁.abs.toks + 1 } := by
                      have e := put_abs (f := fun _ => fsObj { d with pos := p₂ }) hget
                      have e1 : (putT x₁ a fun _ => fsObj { d with pos := p₂ }).abs.heap = x₁.abs.heap.update a (fun _ => fsObj d) := by rw [e]; rfl
                      have e2 : (tickT (putT x₁ a fun _ => fsObj { d with pos := p₂ })).abs = { x₁.abs with heap := (putT x₁ a fun _ => fsObj { d with pos := p₂ }).abs.heap, toks := x₁.abs.toks + 1 } := rfl
                      rw [e2, e1]
                    have g₂ : Good w (tickT (putT x₁ a fun _ => fsObj { d with pos := p₂ })) (ghSet gh₁ a (addTo l c)) := by
                      intro b m hb
                      rw [ex2]
                      rcases ghOf_ghSet hb with ⟨rfl, rfl⟩ | ⟨hne, hb⟩
                      · exact gs
                      · exact (g₁ b m hb).same (Heap.get?_update_other _ _ (Ne.symm hne))
                    refine (hrec _ _ _ _ _ _ _ g₂ fun O => k₁ (consO { d with pos := p₂ } O)).mono fun e s' r => ?_
                    rw [ex2] at r
                    rw [dn]
                    refine ex _ _ _ ?_
                    dsimp only
                    refine ex₂ _ _ _ ?_
                    exact r
                  · exact q.elim
  | or a b l m =>
    obtain ⟨hc, ha, hb⟩ := hookOf_or hk
    simp only [hk] at h ⊢
    have O₀ : Orc := fun _ => ⟨#[], 0, default, default⟩
    match m, h, hb with
    | [c], h, hb =>
      dsimp only at h ⊢
      have h1 : ∀ O : Orc, ((Nat.beq l.length 2 || Nat.beq l.length 32) && !has l c && !Nat.beq a b && roomT x (fsObj (O 0))) = true := fun O => by
        cases hz : ((Nat.beq l.length 2 || Nat.beq l.length 32) && !has l c && !Nat.beq a b && roomT x (fsObj (O 0))) with
        | true => rfl
        | false => have := h O; rw [hz] at this; cases this
      simp only [h1] at h ⊢
      have h2 := h1 O₀
      simp only [Bool.and_eq_true, Bool.or_eq_true, Bool.not_eq_true', beq_iff] at h2
      obtain ⟨⟨⟨c1, c2⟩, c3⟩, _⟩ := h2
      obtain ⟨r, s', hr, rfl, d, rfl, gs⟩ := H.or (A := belowOf Γ) (s := x.abs) (g a l ha) (g b [c] hb) c1 c2 (fun q => by subst q; simp at c3) Γ p hc (below_around Γ)
      rw [model_tree] at hr
      have hr : Runs (Mt w) Γ p (denote treeTable Γ.code) [] x.abs _ _ := hr
      refine Out.pre d ?_
      have hroom : roomT x (fsObj d) = true := by have := h1 (fun _ => d); simp only [Bool.and_eq_true] at this; exact this.2
      have ei := ins_abs hroom
      rw [size_abs] at hr gs
      refine (Out.end (.ret (.ok (.ret (.ref x.n)))) (insT x (fsObj d)) ((x.n, l ++ [c]) :: gh) ?_ (by rw [ei]; exact hr) fun O => h (consO d O)).mono (fun _ _ r => r)
      intro b' m hb'
      simp only [ghOf] at hb'
      cases hab : Nat.beq x.n b' with
      | true => rw [hab] at hb'; cases hb'; cases Nat.eq_of_beq_eq_true hab; rw [ei]; exact gs
      | false => rw [hab] at hb'; exact g.ins hroom b' m hb'
    | [], h, _ => exact Bool.noConfusion (show false = true from h O₀)
    | _ :: _ :: _, h, _ => exact Bool.noConfusion (show false = true from h O₀)
  | sub a b l m =>
    obtain ⟨hc, ha, hb⟩ := hookOf_sub hk
    simp only [hk] at h ⊢
    have O₀ : Orc := fun _ => ⟨#[], 0, default, default⟩
    match m, h, hb with
    | [c], h, hb =>
      dsimp only at h ⊢
      have h1 : ∀ O : Orc, (Nat.beq l.length 33 && Nat.beq (l.filter fun d => !Nat.beq d c).length 32 && has l c && !Nat.beq a b && roomT x (fsObj (O 0))) = true := fun O => by
        cases hz : (Nat.beq l.length 33 && Nat.beq (l.filter fun d => !Nat.beq d c).length 32 && has l c && !Nat.beq a b && roomT x (fsObj (O 0))) with
        | true => rfl
        | false => have := h O; rw [hz] at this; cases this
      simp only [h1] at h ⊢
      have h2 := h1 O₀
      simp only [Bool.and_eq_true, Bool.not_eq_true', beq_iff] at h2
      obtain ⟨⟨⟨⟨c1, c2⟩, c3⟩, c4⟩, _⟩ := h2
      obtain ⟨r, s', hr, rfl, d, rfl, gs⟩ := H.sub (A := belowOf Γ) (s := x.abs) (g a l ha) (g b [c] hb) c1 c2 c3 (fun q => by subst q; simp at c4) Γ p hc (below_around Γ)
      rw [model_tree] at hr
      have hr : Runs (Mt w) Γ p (denote treeTable Γ.code) [] x.abs _ _ := hr
      refine Out.pre d ?_
      have hroom : roomT x (fsObj d) = true := by have := h1 (fun _ => d); simp only [Bool.and_eq_true] at this; exact this.2
      have ei := ins_abs hroom
      rw [size_abs] at hr gs
      refine (Out.end (.ret (.ok (.ret (.ref x.n)))) (insT x (fsObj d)) ((x.n, l.filter fun d => !Nat.beq d c) :: gh) ?_ (by rw [ei]; exact hr) fun O => h (consO d O)).mono (fun _ _ r => r)
      intro b' m hb'
      simp only [ghOf] at hb'
      cases hab : Nat.beq x.n b' with
      | true => rw [hab] at hb'; cases hb'; cases Nat.eq_of_beq_eq_true hab; rw [ei]; exact gs
      | false => rw [hab] at hb'; exact g.ins hroom b' m hb'
    | [], h, _ => exact Bool.noConfusion (show false = true from h O₀)
    | _ :: _ :: _, h, _ => exact Bool.noConfusion (show false = true from h O₀)
end
end Mine
end

section
open PySem PySem.W PyProof.Rows PySem.Calls
set_option maxRecDepth 100000
set_option maxHeartbeats 4000000
namespace Mine

section
variable {w : World} {R : Type}
noncomputable def O₀ : Orc := fun _ => ⟨#[], 0, default, default⟩
theorem not_none {val : Orc → Option R} (h : ∀ O, (val O).isSome = true) (e : ∀ O, val O = none) {C : Prop} : C := by
  have := h O₀; rw [e] at this; cases this

theorem ev_sound (H : Hooks w) : ∀ n, Snd w (ev (R := R) w n)
  | 0 => fun Γ p t fs x gh K g h => not_none h fun O => rfl
  | n + 1 => fun Γ p t fs x gh K g h => by
    have ih := ev_sound H n
    cases fs with
    | cons F fs =>
      have h : ∀ O, (ev w n (Γ.over (F :: fs)) p t [] x gh O fun e x₁ gh₁ O₁ => match e with
        | .ret r => match F with
          | .ret k _ _ _ c₁ p₁ _ => ev w n (Γ.goto c₁) p₁ (k r) fs x₁ gh₁ O₁ K
          | .gen .. => none
        | .susp v g₀ l₀ k₀ c₀ p₀ fs₀ => match splitAtGen (F :: fs) with
          | none => K (.susp v g₀ l₀ k₀ c₀ p₀ (fs₀ ++ F :: fs)) x₁ gh₁ O₁
          | some _ => none).isSome = true := h
      refine (ih _ _ _ _ _ _ _ g h).then fun e₁ x₁ gh₁ r₁ g₁ k₁ => ?_
      cases e₁ with
      | ret r => cases F with
        | ret k hd gd l c₁ p₁ kp => exact (ih _ _ _ _ _ _ _ g₁ k₁).mono fun e s' r' => .segRet r₁ r'
        | gen => exact not_none k₁ fun O => rfl
      | susp v g₀ l₀ k₀ c₀ p₀ fs₀ =>
        dsimp only at k₁ ⊢
        cases hs : splitAtGen (F :: fs) with
        | none =>
          simp only [hs] at k₁ ⊢
          exact Out.end _ _ _ g₁ (.segSuspOut hs r₁) k₁
        | some y => simp only [hs] at k₁; exact not_none k₁ fun O => rfl
    | nil =>
      cases t with
      | pure f => cases f with
        | done f => exact Out.end (.ret (.ok f)) x gh g .done h
        | again c =>
          cases hq : Code.quiet c with
          | false =>
            refine not_none h fun O => ?_
            show (match Code.quiet c with | true => _ | false => none) = none
            rw [hq]
          | true =>
            have e : ∀ O, ev w (n + 1) Γ p (.pure (.again c)) [] x gh O K = evCode (ev w n) p (Γ.goto c) x gh O K := fun O => by
              show (match Code.quiet c with | true => evCode (ev w n) p (Γ.goto c) x gh O K | false => none) = _
              rw [hq]
            simp only [e] at h ⊢
            exact (evCode_sound H ih g h).mono fun e s' r => .again hq r
      | raise v => exact Out.end (.ret (.error v)) x gh g .raise h
      | rule tag k => exact (ih _ _ _ _ _ _ _ g h).mono fun e s' r => .rule r
      | «at» p' k => exact (ih _ _ _ _ _ _ _ g h).mono fun e s' r => .at r
      | load a part k =>
        cases ha : getT x a with
        | none =>
          refine not_none h fun O => ?_
          show (match getT x a with | some o => _ | none => none) = none
          rw [ha]
        | some o =>
          have e : ∀ O, ev w (n + 1) Γ p (.load a part k) [] x gh O K = ev w n Γ p (k o) [] x gh O K := fun O => by
            show (match getT x a with | some o => ev w n Γ p (k o) [] x gh O K | none => none) = _
            rw [ha]
          simp only [e] at h ⊢
          exact (ih _ _ _ _ _ _ _ g h).mono fun e s' r => .load (getT_abs ha) r
      | update a part f k =>
        cases hgh : ghOf gh a with
        | some l =>
          refine not_none h fun O => ?_
          show (match ghOf gh a with | some _ => none | none => _) = none
          rw [hgh]
        | none =>
          cases ha : getT x a with
          | none =>
            refine not_none h fun O => ?_
            show (match ghOf gh a with | some _ => none | none => match getT x a with | some o => _ | none => none) = none
            rw [hgh, ha]
          | some o =>
            have e : ∀ O, ev w (n + 1) Γ p (.update a part f k) [] x gh O K = ev w n Γ p (k ()) [] (putT x a f) gh O K := fun O => by
              show (match ghOf gh a with | some _ => none | none => match getT x a with | some o => ev w n Γ p (k ()) [] (putT x a f) gh O K | none => none) = _
              rw [hgh, ha]
            simp only [e] at h ⊢
            refine (ih _ _ _ _ _ _ _ (g.put hgh ha) h).mono fun e s' r => .update (by rw [getT_abs ha]; rfl) ?_
            rw [put_abs ha] at r; exact r
      | loadIfAlive a k =>
        cases ha : getT x a with
        | none =>
          refine not_none h fun O => ?_
          show (match getT x a with | some o => _ | none => none) = none
          rw [ha]
        | some o =>
          have e : ∀ O, ev w (n + 1) Γ p (.loadIfAlive a k) [] x gh O K = ev w n Γ p (k (some o)) [] x gh O K := fun O => by
            show (match getT x a with | some o => ev w n Γ p (k (some o)) [] x gh O K | none => none) = _
            rw [ha]
          simp only [e] at h ⊢
          exact (ih _ _ _ _ _ _ _ g h).mono fun e s' r => .loadIfAlive (by rw [getT_abs ha]; exact r)
      | point l k => exact (ih _ _ _ _ _ _ _ g h).mono fun e s' r => .point r
      | alloc o k =>
        cases hr : roomT x o with
        | false =>
          refine not_none h fun O => ?_
          show (match roomT x o with | true => _ | false => none) = none
          rw [hr]
        | true =>
          have e : ∀ O, ev w (n + 1) Γ p (.alloc o k) [] x gh O K = ev w n Γ p (k x.n) [] (insT x o) gh O K := fun O => by
            show (match roomT x o with | true => ev w n Γ p (k x.n) [] (insT x o) gh O K | false => none) = _
            rw [hr]
          simp only [e] at h ⊢
          refine (ih _ _ _ _ _ _ _ (g.ins hr) h).mono fun e s' r => .alloc ?_
          rw [ins_abs hr] at r
          rw [size_abs]; exact r
      | fresh k => exact (ih Γ p _ _ (tickT x) gh K g h).mono fun e s' r => .fresh r
      | ask k => exact (ih _ _ _ _ _ _ _ g h).mono fun e s' r => .ask r
      | handled own k => exact (ih _ _ _ _ _ _ _ g h).mono fun e s' r => .handled r
      | genState i k =>
        cases ha : x.gens[i]? with
        | none =>
          refine not_none h fun O => ?_
          show (match x.gens[i]? with | some o => _ | none => none) = none
          rw [ha]
        | some st =>
          have e : ∀ O, ev w (n + 1) Γ p (.genState i k) [] x gh O K = ev w n Γ p (k st.seen) [] x gh O K := fun O => by
            show (match x.gens[i]? with | some st => ev w n Γ p (k st.seen) [] x gh O K | none => none) = _
            rw [ha]
          simp only [e] at h ⊢
          exact (ih _ _ _ _ _ _ _ g h).mono fun e s' r => .genState ha r
      | stack k => exact (ih _ _ _ _ _ _ _ g h).mono fun e s' r => .stack r
      | thread k => exact (ih _ _ _ _ _ _ _ g h).mono fun e s' r => .thread r
      | newGen c k => exact (ih Γ p _ _ { x with gens := x.gens.push (.fresh c) } gh K g h).mono fun e s' r => .newGen r
      | call c hd gd l k =>
        have h : ∀ O, (evCode (ev w n) p (Γ.enter c hd p) x gh O fun e x₁ gh₁ O₁ => match e with
          | .ret r => ev w n Γ p (k r) [] x₁ gh₁ O₁ K
          | .susp v g₀ l₀ k₀ c₀ p₀ fs => K (.susp v g₀ l₀ k₀ c₀ p₀ (fs ++ [.ret k hd gd l Γ.code p []])) x₁ gh₁ O₁).isSome = true := h
        refine (evCode_sound H ih g h).then fun e₁ x₁ gh₁ r₁ g₁ k₁ => ?_
        cases e₁ with
        | ret r => exact (ih _ _ _ _ _ _ _ g₁ k₁).mono fun e s' r' => .call r₁ r'
        | susp v g₀ l₀ k₀ c₀ p₀ fs => exact Out.end _ _ _ g₁ (.callSusp r₁) k₁
      | yield v gd l k => exact Out.end (.susp v gd l k Γ.code p []) x gh g .yield h
      | resume i r l k =>
        have hF : ∀ O, ev w (n + 1) Γ p (.resume i r l k) [] x gh O K = (fun o : Option GenState => match (generalizing := false) o with
          | some (.fresh c) => (match (generalizing := false) r with
            | .send .none => evCode (ev w n) p (Γ.wake c p) (setGenT x i .running) gh O fun e₁ x₁ gh₁ O₁ => match e₁.quiet with
              | true => ev w n Γ p (k e₁.result) [] (setGenT x₁ i e₁.genState) gh₁ O₁ K
              | false => none
            | _ => none)
          | some (.suspended k₀ _ c₀ p₀ fs _) => ev w n (Γ.wake c₀ p) p₀ (k₀ r) fs (setGenT x i .running) gh O fun e₁ x₁ gh₁ O₁ => match e₁.quiet with
              | true => ev w n Γ p (k e₁.result) [] (setGenT x₁ i e₁.genState) gh₁ O₁ K
              | false => none
          | some .finished => ev w n Γ p (k .finished) [] x gh O K
          | _ => none) x.gens[i]? := fun O => rfl
        cases ha : x.gens[i]? with
        | none =>
          refine not_none h fun O => ?_
          rw [hF O, ha]
        | some st => cases st with
          | running =>
            refine not_none h fun O => ?_
            rw [hF O, ha]
          | finished =>
            have e : ∀ O, ev w (n + 1) Γ p (.resume i r l k) [] x gh O K = ev w n Γ p (k .finished) [] x gh O K := fun O => by rw [hF O, ha]
            simp only [e] at h ⊢
            exact (ih _ _ _ _ _ _ _ g h).mono fun e s' r => .resumeFinished ha r
          | suspended k₀ l₀ c₀ p₀ fs cl =>
            have e : ∀ O, ev w (n + 1) Γ p (.resume i r l k) [] x gh O K = ev w n (Γ.wake c₀ p) p₀ (k₀ r) fs (setGenT x i .running) gh O fun e₁ x₁ gh₁ O₁ => match e₁.quiet with
              | true => ev w n Γ p (k e₁.result) [] (setGenT x₁ i e₁.genState) gh₁ O₁ K
              | false => none := fun O => by
                rw [hF O, ha]
            simp only [e] at h ⊢
            refine Out.mono (x := setGenT x i .running) ((ih _ _ _ _ (setGenT x i .running) _ _ g h).then (runs' := fun e s' => Runs (Mt w) Γ p (.resume i r l k) [] x.abs e s') fun e₁ x₁ gh₁ r₁ g₁ k₁ => ?_) fun _ _ r => r
            cases hq : e₁.quiet with
            | false => simp only [hq] at k₁; exact not_none k₁ fun O => rfl
            | true =>
              simp only [hq] at k₁ ⊢
              exact (ih Γ p _ _ (setGenT x₁ i e₁.genState) gh₁ K g₁ k₁).mono fun e s' r' => .resumeSuspended ha r₁ hq r'
          | fresh c => cases r with
            | throw v =>
              refine not_none h fun O => ?_
              rw [hF O, ha]
            | send v =>
              by_cases hv : v = .none
              · subst hv
                have e : ∀ O, ev w (n + 1) Γ p (.resume i (.send .none) l k) [] x gh O K = evCode (ev w n) p (Γ.wake c p) (setGenT x i .running) gh O fun e₁ x₁ gh₁ O₁ => match e₁.quiet with
                  | true => ev w n Γ p (k e₁.result) [] (setGenT x₁ i e₁.genState) gh₁ O₁ K
                  | false => none := fun O => by
                    rw [hF O, ha]
                simp only [e] at h ⊢
                refine Out.mono (x := setGenT x i .running) ((evCode_sound H ih (x := setGenT x i .running) g h).then (runs' := fun e s' => Runs (Mt w) Γ p (.resume i (.send .none) l k) [] x.abs e s') fun e₁ x₁ gh₁ r₁ g₁ k₁ => ?_) fun _ _ r => r
                cases hq : e₁.quiet with
                | false => simp only [hq] at k₁; exact not_none k₁ fun O => rfl
                | true =>
                  simp only [hq] at k₁ ⊢
                  exact (ih Γ p _ _ (setGenT x₁ i e₁.genState) gh₁ K g₁ k₁).mono fun e s' r' => .resumeFresh ha r₁ hq r'
              · refine not_none h fun O => ?_
                cases v <;> first | exact absurd rfl hv | rw [hF O, ha]
      | unsupported => exact not_none h fun O => rfl
      | finish => exact not_none h fun O => rfl
      | register => exact not_none h fun O => rfl
      | choose => exact not_none h fun O => rfl
      | os => exact not_none h fun O => rfl
      | fork => exact not_none h fun O => rfl
      | await => exact not_none h fun O => rfl
end
end Mine
end

section
open PySem PySem.W PyProof.Rows PySem.Calls
set_option maxRecDepth 100000
set_option maxHeartbeats 4000000
namespace Mine
open PySem.SetTable

noncomputable def iterL (m : Nat) : Nat → Nat → Nat
  | 0, i => i
  | t + 1, i => iterL m t ((i * 5 + 1) % m)
theorem iterL_add (m : Nat) : ∀ s t i, iterL m (s + t) i = iterL m t (iterL m s i)
  | 0, t, i => by rw [Nat.zero_add]; rfl
  | s + 1, t, i => by rw [Nat.add_right_comm]; exact iterL_add m s t _
noncomputable def Cov (m : Nat) : Prop := ∀ i, i < m → ∀ j, j < m → ∃ t, t < m ∧ iterL m t i = j
theorem cover {m : Nat} (h0 : ∀ j, j < m → ∃ t, t < m ∧ iterL m t 0 = j) (h1 : iterL m m 0 = 0) : Cov m := by
  intro i hi j hj
  obtain ⟨s, hs, rfl⟩ := h0 i hi
  obtain ⟨u, hu, rfl⟩ := h0 j hj
  by_cases h : s ≤ u
  · exact ⟨u - s, by omega, by rw [← iterL_add]; congr 1; omega⟩
  · refine ⟨u + m - s, by omega, ?_⟩
    rw [← iterL_add, show s + (u + m - s) = m + u by omega, iterL_add, h1]
theorem cov8 : Cov 8 := cover (by decide) (by decide)
theorem cov128 : Cov 128 := cover (by decide +kernel) (by decide +kernel)

theorem free_none_step {mask : Nat} {owner : Array (Option Nat)} {F i p : Nat} (h : layClean.free mask owner (F + 1) i p = none) :
    (owner.getD i (some 0)).isNone = false ∧ layClean.free mask owner F ((i * 5 + 1 + p / 32) % (mask + 1)) (p / 32) = none := by
  rw [layClean.free] at h
  split at h
  · cases h
  · rename_i hf
    refine ⟨?_, h⟩
    have := List.find?_eq_none.mp hf 0 (List.mem_range.mpr (by unfold runEnd; split <;> omega))
    rw [Nat.add_zero] at this
    exact Bool.eq_false_iff.mpr this
theorem free_none_run {mask : Nat} {owner : Array (Option Nat)} : ∀ {k F i p : Nat}, i < mask + 1 → layClean.free mask owner (k + F) i p = none → ∃ i', i' < mask + 1 ∧ layClean.free mask owner F i' (p / 32 ^ k) = none
  | 0, F, i, p, hi, h => ⟨i, hi, by simpa using h⟩
  | k + 1, F, i, p, hi, h => by
    rw [Nat.add_right_comm] at h
    obtain ⟨_, h⟩ := free_none_step h
    obtain ⟨i', hi', h⟩ := free_none_run (Nat.mod_lt _ (Nat.succ_pos _)) h
    refine ⟨i', hi', ?_⟩
    rw [Nat.div_div_eq_div_mul] at h
    rw [Nat.pow_succ, Nat.mul_comm]; exact h
theorem free_none_zero {mask : Nat} {owner : Array (Option Nat)} : ∀ {F i : Nat}, layClean.free mask owner F i 0 = none → ∀ t, t < F → (owner.getD (iterL (mask + 1) t i) (some 0)).isNone = false
  | 0, _, _, t, ht => by omega
  | F + 1, i, h, t, ht => by
    obtain ⟨h1, h2⟩ := free_none_step h
    cases t with
    | zero => exact h1
    | succ t => exact free_none_zero (by simpa using h2) t (by omega)
theorem bits_lt (h : Int) : bits h < 2 ^ 64 := by
  unfold bits
  have h1 := Int.emod_lt_of_pos h (b := 2 ^ 64) (by decide)
  have h2 := Int.emod_nonneg h (b := 2 ^ 64) (by decide)
  omega
theorem free_some {mask : Nat} (hc : Cov (mask + 1)) {owner : Array (Option Nat)} {j : Nat} (hj : j < mask + 1) (hn : (owner.getD j (some 0)).isNone = true) (h : Int) :
    ∃ j', layClean.free mask owner (turns mask) (bits h % (mask + 1)) (bits h) = some j' := by
  cases hf : layClean.free mask owner (turns mask) (bits h % (mask + 1)) (bits h) with
  | some j' => exact ⟨j', rfl⟩
  | none =>
    exfalso
    rw [show turns mask = 13 + (mask + 2) by unfold turns; omega] at hf
    obtain ⟨i', hi', hf⟩ := free_none_run (Nat.mod_lt _ (Nat.succ_pos _)) hf
    have hz : bits h / 32 ^ 13 = 0 := Nat.div_eq_of_lt (Nat.lt_trans (bits_lt h) (by decide))
    rw [hz] at hf
    obtain ⟨t, ht, e⟩ := hc i' hi' j hj
    have := free_none_zero hf t (by omega)
    rw [e, hn] at this
    cases this
theorem free_is {mask : Nat} {owner : Array (Option Nat)} : ∀ {F i p j : Nat}, layClean.free mask owner F i p = some j → (owner.getD j (some 0)).isNone = true
  | 0, _, _, _, h => by cases h
  | F + 1, i, p, j, h => by
    rw [layClean.free] at h
    split at h
    · rename_i k hk
      cases h
      exact List.find?_some (p := fun k => (owner.getD (i + k) (some 0)).isNone) hk
    · exact free_is h

noncomputable def stepL (mask : Nat) (acc : Option (Array (Option Nat) × Nat)) (h : Int) : Option (Array (Option Nat) × Nat) := do
  let (owner, k) ← acc
  let j ← layClean.free mask owner (turns mask) (bits h % (mask + 1)) (bits h)
  pure (owner.setIfInBounds j (some k), k + 1)
theorem layClean_eq (mask : Nat) (hs : Array Int) : layClean mask hs = (hs.toList.foldl (stepL mask) (some (Array.replicate (mask + 1) none, 0))).map (·.1) := by
  unfold layClean
  rw [← Array.foldl_toList]
  rfl
noncomputable def InvL (mask : Nat) (owner : Array (Option Nat)) (k : Nat) : Prop := owner.size = mask + 1 ∧ (owner.toList.filterMap id).Perm (List.range k)
theorem filterMap_set {l : List (Option Nat)} {k : Nat} : ∀ {j : Nat}, l[j]? = some none → ((l.set j (some k)).filterMap id).Perm (l.filterMap id ++ [k]) := by
  induction l with
  | nil => intro j h; simp at h
  | cons a l ih =>
    intro j h
    cases j with
    | zero =>
      simp at h; subst h
      simp only [List.set_cons_zero, List.filterMap_cons, id]
      exact (List.perm_append_singleton k _).symm
    | succ j =>
      have := ih (j := j) (by simpa using h)
      cases a with
      | none => simpa [List.filterMap_cons] using this
      | some b => simpa [List.filterMap_cons] using this.cons b
theorem all_some_len {l : List (Option Nat)} (h : ∀ x ∈ l, x.isNone = false) : (l.filterMap id).length = l.length := by
  induction l with
  | nil => rfl
  | cons a l ih =>
    have h1 := h a (.head _)
    cases a with
    | none => cases h1
    | some b => simp [List.filterMap_cons, ih fun x hx => h x (.tail _ hx)]
theorem stepL_ok {mask : Nat} (hc : Cov (mask + 1)) {owner : Array (Option Nat)} {k : Nat} (I : InvL mask owner k) (hk : k < mask + 1) (h : Int) : ∃ owner', stepL mask (some (owner, k)) h = some (owner', k + 1) ∧ InvL mask owner' (k + 1) := by
  obtain ⟨hz, hp⟩ := I
  have : ∃ j, j < mask + 1 ∧ (owner.getD j (some 0)).isNone = true := by
    apply Classical.byContradiction
    intro hn
    have hall : ∀ x ∈ owner.toList, x.isNone = false := by
      intro x hx
      obtain ⟨j, hj, e⟩ := List.getElem_of_mem hx
      cases hx' : x.isNone with
      | false => rfl
      | true =>
        refine absurd ⟨j, by simpa [hz] using hj, ?_⟩ hn
        rw [Array.getD_eq_getD_getElem?, Array.getElem?_eq_getElem (by simpa using hj)]
        simpa [← e] using hx'
    have l1 := all_some_len hall
    have l2 := hp.length_eq
    rw [l1, List.length_range, Array.length_toList] at l2
    omega
  obtain ⟨j, hj, hn⟩ := this
  obtain ⟨j', hf⟩ := free_some hc hj hn h
  have hi := free_is hf
  refine ⟨owner.setIfInBounds j' (some k), ?_, by rw [Array.size_setIfInBounds]; exact hz, ?_⟩
  · show (layClean.free mask owner (turns mask) (bits h % (mask + 1)) (bits h)).bind _ = _
    rw [hf]; rfl
  · rw [Array.toList_setIfInBounds]
    have hj' : owner.toList[j']? = some none := by
      rw [Array.getD_eq_getD_getElem?] at hi
      rw [Array.getElem?_toList]
      cases q : owner[j']? with
      | none => rw [q] at hi; cases hi
      | some x => rw [q] at hi; cases x with | none => rfl | some y => cases hi
    refine (filterMap_set hj').trans ?_
    rw [List.range_succ]
    exact hp.append_right _
theorem foldL_ok {mask : Nat} (hc : Cov (mask + 1)) : ∀ (hs : List Int) {owner : Array (Option Nat)} {k : Nat}, InvL mask owner k → k + hs.length ≤ mask + 1 → ∃ owner', hs.foldl (stepL mask) (some (owner, k)) = some (owner', k + hs.length) ∧ InvL mask owner' (k + hs.length)
  | [], owner, k, I, _ => ⟨owner, rfl, I⟩
  | h :: hs, owner, k, I, hk => by
    simp only [List.length_cons] at hk
    obtain ⟨o₁, e₁, I₁⟩ := stepL_ok hc I (by omega) h
    obtain ⟨o₂, e₂, I₂⟩ := foldL_ok hc hs I₁ (by omega)
    have ea : k + 1 + hs.length = k + (h :: hs).length := by simp only [List.length_cons]; omega
    rw [ea] at e₂ I₂
    refine ⟨o₂, ?_, I₂⟩
    rw [List.foldl_cons, e₁, e₂]

theorem laid_ok {mask : Nat} (hc : Cov (mask + 1)) (finger moves : Nat) (led plain : Bool) (hs : Array Int) (hz : hs.size ≤ mask + 1) :
    ∃ t order, laid mask finger moves led plain hs = some (t, order) ∧ t.mask = mask ∧ t.place.size = hs.size ∧ t.dummies = #[] ∧ order.toList.Perm (List.range hs.size) := by
  obtain ⟨owner, e, hsz, hp⟩ := foldL_ok hc hs.toList (owner := Array.replicate (mask + 1) none) (k := 0) ⟨by simp, by simp⟩ (by simpa using hz)
  rw [Nat.zero_add, Array.length_toList] at e hp
  have el : layClean mask hs = some owner := by rw [layClean_eq, e]; rfl
  have elive : ((List.range (mask + 1)).filterMap fun j => (owner.getD j none).map (j, ·)).map (·.2) = owner.toList.filterMap id := by
    rw [List.map_filterMap]
    have : ∀ j, ((owner.getD j none).map (j, ·)).map (fun x : Nat × Nat => x.2) = (owner[j]?).bind id := fun j => by
      rw [Array.getD_eq_getD_getElem?, Option.map_map]
      cases q : owner[j]? with
      | none => rfl
      | some x => cases x <;> rfl
    simp only [this]
    rw [← filterMap_getElem?_range owner, List.filterMap_filterMap, hsz]
  refine ⟨_, _, by unfold laid; rw [el]; rfl, rfl, ?_, rfl, ?_⟩
  · dsimp only
    have := congrArg List.length elive
    rw [List.length_map] at this
    rw [List.size_toArray, List.length_map, this, hp.length_eq, List.length_range]
  · dsimp only
    rw [elive]; exact hp
end Mine
end

section
open PySem PySem.W PyProof.Rows PySem.Calls
set_option maxRecDepth 100000
set_option maxHeartbeats 4000000
namespace Mine

section
variable {h : Heap} {a : Addr} {o : Obj} {f : Obj → Obj}
theorem get_objs (e : h.get? a = some o) : h.objs[a]? = some o := by
  unfold Heap.get? at e
  split at e
  · cases e
  · exact e
theorem heap_ext {h h' : Heap} (h1 : ∀ b : Nat, h.objs[b]? = h'.objs[b]?) (h2 : h.life = h'.life) : h = h' := by
  obtain ⟨o, l⟩ := h; obtain ⟨o', l'⟩ := h'
  have e : o = o' := Array.ext_getElem? h1
  have e2 : l = l' := h2
  rw [e, e2]
theorem upd_objs (b : Nat) : (h.update a f).objs[b]? = if a = b then (h.objs[b]?).map f else h.objs[b]? := by
  obtain ⟨os, l⟩ := h
  exact Array.getElem?_modify
theorem upd_at (e : h.get? a = some o) : h.update a f = h.update a (fun _ => f o) := by
  refine heap_ext (fun b => ?_) rfl
  rw [upd_objs, upd_objs]
  split
  · rename_i q; subst q; rw [get_objs e]; rfl
  · rfl
theorem upd_same (e : h.get? a = some o) : h.update a (fun _ => o) = h := by
  refine heap_ext (fun b => ?_) rfl
  rw [upd_objs]
  split
  · rename_i q; subst q; rw [get_objs e]; rfl
  · rfl
theorem upd_upd : (h.update a f).update a (fun _ => o) = h.update a (fun _ => o) := by
  refine heap_ext (fun b => ?_) rfl
  rw [upd_objs, upd_objs, upd_objs]
  split
  · rename_i q; subst q; cases h.objs[a]? <;> rfl
  · rfl
theorem push_upd {o' : Obj} : (h.push o').update h.objs.size (fun _ => o) = h.push o := by
  obtain ⟨os, l⟩ := h
  refine heap_ext (fun b => ?_) rfl
  rw [upd_objs]
  show (if os.size = b then ((os.push o')[b]?).map _ else (os.push o')[b]?) = (os.push o)[b]?
  rw [Array.getElem?_push, Array.getElem?_push]
  by_cases q : b = os.size
  · rw [if_pos q.symm, if_pos q, if_pos q]; rfl
  · rw [if_neg (Ne.symm q), if_neg q, if_neg q]
end

theorem inText_one {l : List Nat} {c : Nat} : inText l ⟨#[c]⟩ = has l c := by
  unfold inText has
  congr 1
  funext d
  rw [Bool.eq_iff_iff]
  simp only [beq_iff_eq, beq_iff]
  constructor
  · intro h; have := congrArg (fun s : Str => s.cps.toList) h; simpa using this.symm
  · rintro rfl; rfl
theorem inText_append {l : List Nat} {c : Nat} {k : Str} : inText (l ++ [c]) k = (inText l k || decide (k = ⟨#[c]⟩)) := by
  unfold inText
  rw [List.any_append, List.any_cons, List.any_nil, Bool.or_false]
  congr 1
theorem inText_addTo {l : List Nat} {c : Nat} {k : Str} : inText (addTo l c) k = (inText l k || decide (k = ⟨#[c]⟩)) := by
  unfold addTo
  cases h : has l c with
  | false => exact inText_append
  | true =>
    dsimp only
    by_cases hk : k = ⟨#[c]⟩
    · subst hk; rw [inText_one, h]; rfl
    · simp [hk]
theorem Apart.symm {w : World} {e e' : Int × Value} (h : Apart w e e') : Apart w e' e := fun k ⟨h1, h2⟩ => h k ⟨h2, h1⟩
theorem apart_perm {w : World} {l l' : List (Int × Value)} (p : l'.Perm l) (h : l.Pairwise (Apart w)) : l'.Pairwise (Apart w) := (p.pairwise_iff Apart.symm).mpr h

section
variable {w : World} {A : Around} {E : Value → Shared → Prop} {s : Shared} {a : Addr} {l : List Nat} {c : Nat}

/-- the facts of a set's entries -/
structure Ent (w : World) (es : List (Int × Value)) (l : List Nat) : Prop where
  el : ElemsOf (strKind pw w) es
  mem : ∀ k, inText l k = true ↔ ∃ e ∈ es, (strKind pw w).is k e.2 = true
  ln : es.length = l.length
  ap : es.Pairwise (Apart w)
theorem Ent.perm {es es' : List (Int × Value)} (x : Ent w es l) (p : es'.Perm es) : Ent w es' l :=
  ⟨x.el.perm p, fun k => (x.mem k).trans ⟨fun ⟨e, he, q⟩ => ⟨e, p.mem_iff.mpr he, q⟩, fun ⟨e, he, q⟩ => ⟨e, p.mem_iff.mp he, q⟩⟩, p.length_eq.trans x.ln, apart_perm p x.ap⟩
theorem Ent.push {es : List (Int × Value)} {x : Value} (X : Ent w es l) (hkey : (strKind pw w).is ⟨#[c]⟩ x = true) (hsc : x.scannable = true) (hn : has l c = false) : Ent w (es ++ [((strKind pw w).hash ⟨#[c]⟩, x)]) (l ++ [c]) := by
  refine ⟨X.el.push hkey hsc, fun k => ?_, by simp [X.ln], ?_⟩
  · rw [inText_append]
    exact mem_push_iff hkey X.mem .rfl k
  · rw [List.pairwise_append]
    refine ⟨X.ap, List.pairwise_singleton _ _, fun e he e' he' k ⟨h1, h2⟩ => ?_⟩
    rw [List.mem_singleton] at he'; subst he'
    have := (strKind pw w).inj x k ⟨#[c]⟩ h2 hkey
    subst this
    have : inText l ⟨#[c]⟩ = true := (X.mem _).mpr ⟨e, he, h1⟩
    rw [inText_one, hn] at this; cases this
theorem GS.of {h : Heap} {d : Od} (e : h.get? a = some (fsObj d)) (X : Ent w d.es.toList l) (hf : d.t.fits d.es.size = true) : GS w h a l :=
  ⟨d, e, X.el, X.mem, hf, by rw [← X.ln, Array.length_toList], X.ap⟩
theorem GS.ent {h : Heap} (g : GS w h a l) : ∃ d : Od, h.get? a = some (fsObj d) ∧ Ent w d.es.toList l ∧ d.t.fits d.es.size = true ∧ d.es.size = l.length :=
  let ⟨d, e, h1, h2, h3, h4, h5⟩ := g; ⟨d, e, ⟨h1, h2, by rw [Array.length_toList]; exact h4, h5⟩, h3, h4⟩

theorem put_fs {d : Od} (es : Array (Int × Value)) (t : SetTable) : Obj.putSet es t (fsObj d) = fsObj ⟨es, d.ep + 1, t, d.pos⟩ := putSet_of (o := fsObj d) es t rfl
theorem get_upd {h : Heap} {d d' : Od} (e : h.get? a = some (fsObj d)) : (h.update a (fun _ => fsObj d')).get? a = some (fsObj d') := Heap.get?_update_self _ e rfl

/-- a set is stored -/
theorem store_fs {d : Od} {es : Array (Int × Value)} {t : SetTable} {Q : Unit → Shared → Prop} (e : s.heap.get? a = some (fsObj d)) (hz : es.size ≤ 100000)
    (h : Q () { s with heap := s.heap.update a (fun _ => fsObj ⟨es, d.ep + 1, t, d.pos⟩) }) : wpAny (model pw w) A (storeSet a es t) Q E s := by
  refine wpAny_storeSet_of e rfl ?_ (by rw [sizeLine_eq]; omega)
  rw [upd_at e, put_fs]; exact h
theorem state_fs {d : Od} {Q : (Array (Int × Value) × Nat × SetTable) → Shared → Prop} (e : s.heap.get? a = some (fsObj d)) (hf : d.t.fits d.es.size = true) (h : Q (d.es, d.ep, d.t) s) : wpAny (model pw w) A (setState a) Q E s :=
  wpAny_setState_of e rfl hf h

theorem addHashed_gs {x : Value} {Q : Bool → Shared → Prop} (hkey : (strKind pw w).is ⟨#[c]⟩ x = true) (hsc : x.scannable = true) {d : Od} (e : s.heap.get? a = some (fsObj d)) (X : Ent w d.es.toList l) (hf : d.t.fits d.es.size = true) (hz : l.length < 1000)
    (hQ : ∀ b d', Ent w d'.es.toList (addTo l c) → d'.t.fits d'.es.size = true → Q b { s with heap := s.heap.update a (fun _ => fsObj d') }) : wpAny (model pw w) A (setAddHashed a x ((strKind pw w).hash ⟨#[c]⟩)) Q E s := by
  have hsz : d.es.size = l.length := by rw [← X.ln, Array.length_toList]
  have hb : d.es.size < scanBound := by have : scanBound = 4096 := rfl; omega
  unfold setAddHashed setAddHashedIn
  refine wpAny_holding (wpAny_bind (state_fs e hf ?_))
  dsimp only
  rw [byScan_of hsc hb X.el]
  simp only [↓reduceIte]
  unfold setAddByScan
  refine wpAny_bind ?_
  refine wpAny_bind (wpAny_rule ?_)
  refine wpAny_bind (wpAny_setScan_of hkey e rfl hf X.el ?_)
  cases hr : List.findIdx? (fun e => (strKind pw w).is ⟨#[c]⟩ e.2) d.es.toList with
  | some j =>
    dsimp only
    obtain ⟨hj, hpj, _⟩ := List.findIdx?_eq_some_iff_getElem.mp hr
    have hSk : has l c = true := by rw [← inText_one]; exact (X.mem _).mpr ⟨d.es.toList[j], List.getElem_mem hj, hpj⟩
    refine wpAny_pure (wpAny_pure ?_)
    have := hQ false d (by rw [show addTo l c = l by unfold addTo; rw [hSk]]; exact X) hf
    rw [upd_same e] at this; exact this
  | none =>
    dsimp only
    have hSk : has l c = false := by
      rw [← inText_one, ← Bool.not_eq_true, X.mem]
      rintro ⟨e', he, hp⟩
      have := List.findIdx?_eq_none_iff.mp hr e' he
      rw [hp] at this; cases this
    have eadd : addTo l c = l ++ [c] := by unfold addTo; rw [hSk]
    have hperm := layNew_perm d.t d.es ((strKind pw w).hash ⟨#[c]⟩) x
    have hfits := layNew_fits d.t d.es ((strKind pw w).hash ⟨#[c]⟩) x
    generalize hL : layNew d.t d.es ((strKind pw w).hash ⟨#[c]⟩) x = L at hperm hfits ⊢
    obtain ⟨es1, t1, wasDummy, gave⟩ := L
    dsimp only at hperm hfits ⊢
    rw [Array.toList_push] at hperm
    have X1 : Ent w es1.toList (addTo l c) := by rw [eadd]; exact (X.push hkey hsc hSk).perm hperm
    have hsz1 : es1.size ≤ 100000 := by rw [← Array.length_toList, X1.ln, eadd, List.length_append, List.length_singleton]; omega
    have gw : ∀ (b : Bool) {s₁ : Shared} {Q' : Unit → Shared → Prop}, Q' () s₁ → wpAny (model pw w) A (match b with | true => rule "set.scan.the-table-gave-way" | false => pure ()) Q' E s₁ :=
      fun b s₁ Q' hq => by cases b <;> first | exact wpAny_pure hq | exact wpAny_rule hq
    refine wpAny_bind (gw _ ?_)
    have tail : ∀ (t2 : SetTable), t2.fits es1.size = true → wpAny (model pw w) A (do
        storeSet a es1 t2
        if (!wasDummy && t2.tooFull) = true then do
            (match (relayAll t2 es1 (SetTable.grown es1.size)).2.2 with | true => rule "set.scan.the-table-gave-way" | false => pure ())
            storeSet a (relayAll t2 es1 (SetTable.grown es1.size)).1 (relayAll t2 es1 (SetTable.grown es1.size)).2.1
            pure (some true)
          else pure (some true)) (fun r s' => r = some true ∧ Q true s') E s := by
      intro t2 hf2
      refine wpAny_bind (store_fs e hsz1 ?_)
      split
      · have hp := relayAll_perm t2 es1 (SetTable.grown es1.size)
        have hfr := relayAll_fits t2 es1 (SetTable.grown es1.size)
        generalize relayAll t2 es1 (SetTable.grown es1.size) = Rl at hp hfr ⊢
        obtain ⟨es2, t3, gave2⟩ := Rl
        dsimp only at hp hfr ⊢
        have X2 := X1.perm hp
        refine wpAny_bind (gw _ ?_)
        refine wpAny_bind (store_fs (get_upd e) (by rw [← Array.length_toList, hp.length_eq, Array.length_toList]; exact hsz1) ?_)
        dsimp only
        rw [upd_upd]
        exact wpAny_pure ⟨rfl, hQ true _ X2 hfr⟩
      · exact wpAny_pure ⟨rfl, hQ true _ X1 hf2⟩
    split
    · refine wpAny_bind ?_
      rw [hashByValue_scannable 8 hsc]
      refine wpAny_pure ?_
      refine wpAny_mono (tail _ ?_) ?_ (fun _ _ x => x)
      · split
        · exact hfits
        · exact SetTable.fits_plain_off hfits
      · rintro r s' ⟨rfl, hq⟩; exact wpAny_pure hq
    · refine wpAny_bind (wpAny_pure ?_)
      simp only [↓reduceIte]
      refine wpAny_mono (tail _ hfits) ?_ (fun _ _ x => x)
      rintro r s' ⟨rfl, hq⟩; exact wpAny_pure hq

theorem add_gs {tk : Tok} (g : GS w s.heap a l) (hz : l.length < 1000) :
    wpAny (model pw w) A (holding [.str ⟨#[c]⟩ tk] (setAdd a (.str ⟨#[c]⟩ tk))) (fun _ s' => ∃ d, s' = { s with heap := s.heap.update a (fun _ => fsObj d), toks := s.toks + 1 } ∧ GS w s'.heap a (addTo l c)) E s := by
  obtain ⟨d, e, X, hf, _⟩ := g.ent
  refine wpAny_holding ?_
  unfold setAdd
  refine wpAny_holding (wpAny_bind ((strKind pw w).pyHash (strKind_is pw w ⟨#[c]⟩ tk) ?_))
  refine addHashed_gs (s := { s with toks := s.toks + 1 }) (strKind_is pw w ⟨#[c]⟩ tk) rfl e X hf hz fun b d' X' hf' => ?_
  exact ⟨d', rfl, GS.of (get_upd e) X' hf'⟩
end
end Mine
end

section
open PySem PySem.W PyProof.Rows PySem.Calls
open PySem.Builtin PySem.Builtin.Frozenset
set_option maxRecDepth 100000
set_option maxHeartbeats 4000000
namespace Mine

section
variable {w : World} {A : Around} {E : Value → Shared → Prop} {s : Shared} {a : Addr} {l : List Nat} {c : Nat} {d : Od}
theorem isInst_set {Q : Bool → Shared → Prop} (e : s.heap.get? a = some (fsObj d)) (h : Q false s) : wpAny (model pw w) A (isInstance (.ref a) (.type "set")) Q E s :=
  wpAny_isInstance (T := "frozenset") (b := false) ⟨_, e, rfl⟩ (by rw [isSubtype_type]; kernel_rfl) h
theorem isInst_fs {Q : Bool → Shared → Prop} (e : s.heap.get? a = some (fsObj d)) (h : Q true s) : wpAny (model pw w) A (isInstance (.ref a) (.type "frozenset")) Q E s :=
  wpAny_isInstance (T := "frozenset") (b := true) ⟨_, e, rfl⟩ (by rw [isSubtype_type]; kernel_rfl) h
theorem isAnySet_fs {Q : Bool → Shared → Prop} (e : s.heap.get? a = some (fsObj d)) (h : Q true s) : wpAny (model pw w) A (isAnySet (.ref a)) Q E s := by
  unfold isAnySet orM
  refine wpAny_bind (isInst_set e ?_)
  exact isInst_fs e h

theorem pick_one {α : Type} (next : Nat → Nat) (x : α) : pickOrder next #[x] = #[x] := by
  unfold pickOrder
  show pickOrder.go next 1 0 [x] #[] = _
  rw [pickOrder.go]
  have : next 0 % [x].length = 0 := Nat.mod_one _
  rw [this]
  rfl
theorem walk_one {x : Int × Value} {Q : Array (Int × Value) → Shared → Prop} (e : s.heap.get? a = some (fsObj d)) (hf : d.t.fits d.es.size = true) (hx : d.es = #[x]) (h : Q #[x] s) : wpAny (model pw w) A (setWalk a) Q E s := by
  unfold setWalk
  refine wpAny_bind (state_fs e hf ?_)
  dsimp only
  unfold setsByText
  refine wpAny_bind (wpAny_bind (wpAny_askSetting (wpAny_pure ?_)))
  split
  · refine wpAny_bind (wpAny_askSetting (wpAny_pure ?_))
    rw [hx, pick_one]; exact h
  · rw [hx]
    show wpAny _ _ (if (!d.t.plain && decide ((#[x] : Array (Int × Value)).size > 1)) = true then _ else _) _ _ _
    rw [if_neg (by simp)]
    refine wpAny_bind ?_
    show wpAny _ _ (if (!d.t.led && decide ((#[x] : Array (Int × Value)).size > 1)) = true then _ else _) _ _ _
    rw [if_neg (by simp)]
    exact wpAny_pure (wpAny_pure h)
theorem walkUnseen_one {x : Int × Value} {os : List Addr} {fl : Option Addr} {Q : Array (Int × Value) → Shared → Prop} (e : s.heap.get? a = some (fsObj d)) (hf : d.t.fits d.es.size = true) (hx : d.es = #[x]) (h : Q #[x] s) : wpAny (model pw w) A (setWalkUnseen a os fl) Q E s := by
  unfold setWalkUnseen
  refine wpAny_bind (state_fs e hf ?_)
  dsimp only
  refine wpAny_bind ?_
  unfold setsByText
  refine wpAny_bind (wpAny_askSetting (wpAny_pure ?_))
  rw [if_pos (by rw [hx]; simp)]
  exact walk_one e hf hx h

theorem newSet_fs {Q : Value → Shared → Prop} (h : ∀ led, Q (.ref s.heap.objs.size) { s with heap := s.heap.push (fsObj ⟨#[], 0, .fresh 0 0 led, default⟩) }) : wpAny (model pw w) A (newSet (.type "frozenset")) Q E s := by
  unfold newSet setsByText
  refine wpAny_bind (wpAny_bind (wpAny_askSetting (wpAny_pure ?_)))
  dsimp only
  simp only [newObj]
  exact wpAny_bind (wpAny_alloc (wpAny_pure (h _)))

/-- the new table, when the elements are laid anew -/
theorem relay_empty {t : SetTable} {ep wanted : Nat} {pos : Pos} {Q : Unit → Shared → Prop} (e : s.heap.get? a = some (fsObj ⟨#[], ep, t, pos⟩)) (hf : t.fits 0 = true) {m : Nat} (hm : SetTable.sizeAbove wanted = m + 1) (hc : Cov (m + 1)) (hz : m ≤ 10000)
    (hQ : ∀ t' : SetTable, t'.mask = m → t'.place = #[] → t'.dummies = #[] → Q () { s with heap := s.heap.update a (fun _ => fsObj ⟨#[], ep + 1, t', pos⟩) }) : wpAny (model pw w) A (setRelay a wanted) Q E s := by
  unfold setRelay
  refine wpAny_bind (state_fs e hf ?_)
  dsimp only
  rw [hm, if_neg (by rw [sizeLine_eq]; omega)]
  obtain ⟨t', order, hl, h1, h2, h3, h4⟩ := laid_ok (mask := m) hc t.finger (t.movedTo m) t.led t.plain (#[] : Array Int) (by simp)
  have hr : t.relaid ((#[] : Array (Int × Value)).map (·.1)) wanted = some (t', order) := by
    unfold SetTable.relaid
    rw [hm, Nat.add_sub_cancel, Array.map_empty]
    exact hl
  rw [hr]
  have ho : order = #[] := by
    have := h4.length_eq
    simp at this
    exact Array.eq_empty_of_size_eq_zero (by simpa using this)
  subst ho
  refine wpAny_bind ?_
  show wpAny _ _ (do
    let es' := (#[] : Array Nat).filterMap ((#[] : Array (Int × Value))[·]?)
    if (es'.size != (#[] : Array (Int × Value)).size) = true then unsupported "internal:set-table-lost-an-element"
    pure (es', t')) _ _ _
  dsimp only
  rw [if_neg (by simp)]
  refine wpAny_pure ?_
  dsimp only
  refine store_fs e (by simp) ?_
  have e0 : ((#[] : Array Nat).filterMap ((#[] : Array (Int × Value))[·]?)) = #[] := by simp
  rw [e0]
  exact hQ t' h1 (Array.eq_empty_of_size_eq_zero (by rw [h2]; rfl)) h3

/-- a set is laid anew in full -/
theorem copy_clean {t : SetTable} {src : Array (Int × Value)} {m f mv : Nat} {led pl : Bool} (hc : Cov (m + 1)) (hz : src.size ≤ m) (X : Ent w src.toList l) :
    ∃ (t' : SetTable) (order : Array Nat), SetTable.laid m f mv led pl (src.map (·.1)) = some (t', order) ∧ t'.mask = m ∧ t'.dummies = #[] ∧ t'.place.size = src.size ∧ Ent w (order.filterMap (src[·]?)).toList l ∧ (order.filterMap (src[·]?)).size = src.size := by
  obtain ⟨t', order, hl, h1, h2, h3, h4⟩ := laid_ok (mask := m) hc f mv led pl (src.map (·.1)) (by simp; omega)
  rw [Array.size_map] at h2 h4
  have hp : ((order.filterMap (src[·]?)).toList).Perm src.toList := by
    rw [Array.toList_filterMap]
    exact (h4.filterMap _).trans (by rw [filterMap_getElem?_range])
  exact ⟨t', order, hl, h1, h3, h2, X.perm hp, by rw [← Array.length_toList, hp.length_eq, Array.length_toList]⟩

/-- the new set takes all of another -/
theorem merge_copy {r : Addr} {led : Bool} {m : Nat} {Q : Unit → Shared → Prop} (er : s.heap.get? r = some (fsObj ⟨#[], 0, .fresh 0 0 led, default⟩)) (e : s.heap.get? a = some (fsObj d)) (X : Ent w d.es.toList l) (hf : d.t.fits d.es.size = true) (hne : r ≠ a)
    (hl : (l.length = 2 ∧ m = 7) ∨ (l.length = 32 ∧ m = 127) ∨ (l.length = 33 ∧ m = 127))
    (hQ : ∀ d', Ent w d'.es.toList l → d'.t.fits d'.es.size = true → d'.t.dummies = #[] → d'.t.mask = m → Q () { s with heap := s.heap.update r (fun _ => fsObj d') }) :
    wpAny (model pw w) A (setMerge r a) Q E s := by
  have hsz : d.es.size = l.length := by rw [← X.ln, Array.length_toList]
  have hcm : Cov (m + 1) := by rcases hl with h | h | h <;> (rw [h.2]; first | exact cov8 | exact cov128)
  unfold setMerge
  rw [if_neg (by simpa using hne)]
  refine wpAny_bind (state_fs e hf ?_)
  dsimp only
  rw [if_neg (by rw [Array.isEmpty_iff_size_eq_zero, hsz]; omega)]
  refine wpAny_bind ?_
  refine wpAny_mono (Q := fun _ s' => ∃ ep' t', s' = { s with heap := s.heap.update r (fun _ => fsObj ⟨#[], ep', t', default⟩) } ∧ t'.mask = m ∧ t'.place = #[] ∧ t'.dummies = #[]) ?_ ?_ (fun _ _ x => x)
  · unfold setRoomFor
    refine wpAny_bind (state_fs er (by rfl) ?_)
    dsimp only
    rw [hsz]
    rcases hl with h | h | h
    · rw [h.1]
      show wpAny _ _ (pure ()) _ _ _
      exact wpAny_pure ⟨0, _, by rw [upd_same er], h.2.symm, rfl, rfl⟩
    · rw [h.1]
      show wpAny _ _ (setRelay r 64) _ _ _
      exact relay_empty er (by rfl) (m := m) (by rw [h.2]; decide) hcm (by omega) fun t' h1 h2 h3 => ⟨1, t', rfl, h1, h2, h3⟩
    · rw [h.1]
      show wpAny _ _ (setRelay r 66) _ _ _
      exact relay_empty er (by rfl) (m := m) (by rw [h.2]; decide) hcm (by omega) fun t' h1 h2 h3 => ⟨1, t', rfl, h1, h2, h3⟩
  · rintro _ _ ⟨ep', t', rfl, h1, h2, h3⟩
    have er' := get_upd (d' := ⟨#[], ep', t', default⟩) er
    have ea' : (s.heap.update r (fun _ => fsObj ⟨#[], ep', t', default⟩)).get? a = some (fsObj d) := (Heap.get?_update_other _ _ hne).trans e
    refine wpAny_bind (state_fs (s := { s with heap := _ }) er' (by unfold SetTable.fits SetTable.fill; rw [h2, h3]; simp) ?_)
    dsimp only
    have hroad : t'.road d.t = if t'.mask == d.t.mask && d.t.dummies.isEmpty then .slotForSlot else .clean := by
      unfold SetTable.road SetTable.fill
      rw [h2, h3]; rfl
    rw [hroad]
    have hpl : d.t.place.size = l.length := by
      unfold SetTable.fits at hf
      simp only [Bool.and_eq_true, beq_iff_eq] at hf
      rw [hf.1, hsz]
    by_cases hq : (t'.mask == d.t.mask && d.t.dummies.isEmpty) = true
    · rw [if_pos hq]
      dsimp only
      rw [Bool.and_eq_true, beq_iff_eq, Array.isEmpty_iff] at hq
      refine store_fs (s := { s with heap := _ }) er' (by omega) ?_
      dsimp only
      rw [upd_upd]
      exact hQ _ X hf hq.2 (by show d.t.mask = m; rw [← hq.1, h1])
    · rw [if_neg hq]
      dsimp only
      obtain ⟨t₂, order, hla, g1, g2, g3, X₂, g4⟩ := copy_clean (t := d.t) (f := t'.finger) (mv := t'.moves) (led := t'.led && d.t.led) (pl := t'.plain && d.t.plain) hcm (by omega) X
      rw [← h1] at hla
      rw [hla]
      refine wpAny_bind ?_
      show wpAny _ _ (do
        let es' := order.filterMap (d.es[·]?)
        if (es'.size != d.es.size) = true then unsupported "internal:set-table-lost-an-element"
        pure (es', t₂)) _ _ _
      dsimp only
      rw [if_neg (by rw [g4]; simp)]
      refine wpAny_pure ?_
      dsimp only
      refine store_fs (s := { s with heap := _ }) er' (by omega) ?_
      dsimp only
      rw [upd_upd]
      refine hQ _ X₂ ?_ g2 g1
      show t₂.fits (order.filterMap (d.es[·]?)).size = true
      unfold SetTable.fits SetTable.fill
      rw [g3, g4, g2, g1]
      simp
      omega

theorem baseOf_fs {Q : Value → Shared → Prop} (e : s.heap.get? a = some (fsObj d)) (h : Q (.type "frozenset") s) : wpAny (model pw w) A (baseOf a) Q E s := by
  unfold baseOf
  exact wpAny_bind (isInst_set e (wpAny_pure h))
theorem copyOf_fs {m : Nat} {Q : Value → Shared → Prop} (e : s.heap.get? a = some (fsObj d)) (X : Ent w d.es.toList l) (hf : d.t.fits d.es.size = true)
    (hl : (l.length = 2 ∧ m = 7) ∨ (l.length = 32 ∧ m = 127) ∨ (l.length = 33 ∧ m = 127))
    (hQ : ∀ d', Ent w d'.es.toList l → d'.t.fits d'.es.size = true → d'.t.dummies = #[] → d'.t.mask = m → Q (.ref s.heap.objs.size) { s with heap := s.heap.push (fsObj d') }) :
    wpAny (model pw w) A (copyOf a) Q E s := by
  unfold copyOf
  refine wpAny_bind (baseOf_fs e ?_)
  refine wpAny_bind (newSet_fs fun led => ?_)
  refine wpAny_bind (wpAny_pure ?_)
  refine wpAny_bind (merge_copy (s := { s with heap := _ }) (Heap.get?_push_size _ rfl) (Heap.get?_push_of_some _ e) X hf (fun q => absurd (Heap.lt_size e) (by rw [← q]; exact Nat.lt_irrefl _)) hl fun d' h1 h2 h3 h4 => ?_)
  dsimp only
  rw [push_upd]
  exact wpAny_pure (hQ d' h1 h2 h3 h4)

/-- the one element of a set of one -/
theorem one_of (X : Ent w d.es.toList [c]) : ∃ x : Value, d.es = #[((strKind pw w).hash ⟨#[c]⟩, x)] ∧ (strKind pw w).is ⟨#[c]⟩ x = true ∧ x.scannable = true := by
  obtain ⟨y, hy⟩ := List.length_eq_one_iff.mp (show d.es.toList.length = 1 from X.ln)
  obtain ⟨e, he, hk⟩ := (X.mem ⟨#[c]⟩).mp (by rw [inText_one]; simp [has])
  rw [hy, List.mem_singleton] at he
  subst he
  obtain ⟨⟨k, h1, h2⟩, h3⟩ := X.el e (by rw [hy]; exact .head _)
  have := (strKind pw w).inj e.2 k ⟨#[c]⟩ h1 hk
  subst this
  refine ⟨e.2, ?_, hk, h3⟩
  rw [← h2, ← Array.toArray_toList (xs := d.es), hy]

theorem setEpoch_fs {Q : Nat → Shared → Prop} (e : s.heap.get? a = some (fsObj d)) (hf : d.t.fits d.es.size = true) (h : Q d.ep s) : wpAny (model pw w) A (setEpoch a) Q E s := wpAny_setEpoch_of e rfl hf h
theorem unchanged_fs {id : String} {Q : Unit → Shared → Prop} (e : s.heap.get? a = some (fsObj d)) (hf : d.t.fits d.es.size = true) (h : Q () s) : wpAny (model pw w) A (unchanged id a d.ep) Q E s := by
  unfold unchanged
  refine wpAny_bind (setEpoch_fs e hf ?_)
  rw [if_neg (by simp)]
  exact wpAny_pure h

theorem merge_one {r b : Addr} {dr db : Od} {m : Nat} {id : String} {Q : Unit → Shared → Prop} (er : s.heap.get? r = some (fsObj dr)) (eb : s.heap.get? b = some (fsObj db)) (hne : r ≠ b) (Xr : Ent w dr.es.toList l) (hfr : dr.t.fits dr.es.size = true) (hd : dr.t.dummies = #[]) (hm : dr.t.mask = m)
    (Xb : Ent w db.es.toList [c]) (hfb : db.t.fits db.es.size = true) (hl : (l.length = 2 ∧ m = 7) ∨ (l.length = 32 ∧ m = 127)) (hc : has l c = false)
    (hQ : ∀ d', Ent w d'.es.toList (l ++ [c]) → d'.t.fits d'.es.size = true → Q () { s with heap := s.heap.update r (fun _ => fsObj d') }) :
    wpAny (model pw w) A (merge id r b) Q E s := by
  obtain ⟨x, hx, hk, hsc⟩ := one_of Xb
  have hpl : dr.t.place.size = l.length := by
    unfold SetTable.fits at hfr
    simp only [Bool.and_eq_true, beq_iff_eq] at hfr
    rw [hfr.1, ← Xr.ln, Array.length_toList]
  unfold merge
  refine wpAny_bind (setEpoch_fs eb hfb ?_)
  unfold setMerge
  rw [if_neg (by simpa using hne)]
  refine wpAny_bind (state_fs eb hfb ?_)
  dsimp only
  rw [if_neg (by rw [hx]; simp)]
  refine wpAny_bind ?_
  unfold setRoomFor
  refine wpAny_bind (state_fs er hfr ?_)
  dsimp only
  have hroom : dr.t.roomFor db.es.size = none := by
    unfold SetTable.roomFor SetTable.fill
    rw [hx, hpl, hd, hm, if_neg]
    simp
    omega
  rw [hroom]
  refine wpAny_pure ?_
  refine wpAny_bind (state_fs er hfr ?_)
  dsimp only
  have hroad : dr.t.road db.t = .oneByOne := by
    unfold SetTable.road SetTable.fill
    have hlp : 0 < l.length := by omega
    rw [if_pos]
    rw [hpl, hd]
    simp
    intro q; subst q; simp at hlp
  rw [hroad]
  dsimp only
  refine wpAny_bind (walkUnseen_one eb hfb hx ?_)
  have ef : ∀ {β : Type} {f : Int × Value → β → Sem (ForInStep β)} {b0 : β}, forIn (#[((strKind pw w).hash ⟨#[c]⟩, x)] : Array (Int × Value)) b0 f = (f ((strKind pw w).hash ⟨#[c]⟩, x) b0 >>= fun r => match r with | .done b => pure b | .yield b => pure b) := by
    intro β f b0
    rw [← Array.forIn_toList]
    simp only [List.forIn_cons, List.forIn_nil]
    rfl
  rw [ef]
  refine wpAny_bind (wpAny_bind (wpAny_bind (wpAny_holding (addHashed_gs hk hsc er Xr hfr (by omega) fun b' d' X' hf' => ?_))))
  have eb' : (s.heap.update r (fun _ => fsObj d')).get? b = some (fsObj db) := (Heap.get?_update_other _ _ hne).trans eb
  refine wpAny_bind (unchanged_fs (s := { s with heap := _ }) eb' hfb ?_)
  refine wpAny_bind (state_fs (s := { s with heap := _ }) eb' hfb ?_)
  dsimp only
  rw [if_neg (by simp)]
  refine wpAny_pure ?_
  refine wpAny_pure ?_
  have eadd : addTo l c = l ++ [c] := by unfold addTo; rw [hc]
  rw [eadd] at X'
  exact wpAny_pure (hQ d' X' hf')

theorem entry_fs_or : entryFor table "frozenset.__or__" = some Builtin.«frozenset.__or__» := entryFor_of_tree (by kernel_rfl)
theorem entry_fs_sub : entryFor table "frozenset.__sub__" = some Builtin.«frozenset.__sub__» := entryFor_of_tree (by kernel_rfl)

theorem or_gs {b : Addr} (ga : GS w s.heap a l) (gb : GS w s.heap b [c]) (hl : l.length = 2 ∨ l.length = 32) (hc : has l c = false) (hne : a ≠ b) :
    codeAny (model pw w) A (.builtin "frozenset.__or__" ⟨[.ref a, .ref b], []⟩) (fun r s' => r = .ok (.ret (.ref s.heap.objs.size)) ∧ ∃ d, s' = { s with heap := s.heap.push (fsObj d) } ∧ GS w s'.heap s.heap.objs.size (l ++ [c])) s := by
  obtain ⟨da, ea, Xa, hfa, _⟩ := ga.ent
  obtain ⟨db, eb, Xb, hfb, _⟩ := gb.ent
  refine codeAny_builtin entry_fs_or ?_
  show wpAny _ _ ((isAnySet (.ref a) <&&> isAnySet (.ref b)) >>= fun ok => if (!ok) = true then (do rule s!"frozenset.{"__or__"}.declined"; ret .notImplemented) else (do
    let result ← copyOf a
    if (Value.ref b != Value.ref a) = true then (do holding [result] (updateFrom s!"frozenset.{"__or__"}" (← addrOf result) (.ref b)); pure result)
    else pure result) >>= ret) _ _ _
  refine wpAny_bind ?_
  unfold andM
  refine wpAny_bind (isAnySet_fs ea ?_)
  refine isAnySet_fs eb ?_
  rw [if_neg (by simp)]
  refine wpAny_bind ?_
  refine wpAny_bind (copyOf_fs (m := if l.length = 2 then 7 else 127) ea Xa hfa (by rcases hl with h | h <;> simp [h]) fun d' h1 h2 h3 h4 => ?_)
  rw [if_pos (by simpa using fun q => hne q.symm)]
  refine wpAny_bind (wpAny_pure ?_)
  refine wpAny_bind (wpAny_holding ?_)
  unfold updateFrom
  have eb' : (s.heap.push (fsObj d')).get? b = some (fsObj db) := Heap.get?_push_of_some _ eb
  have er' : (s.heap.push (fsObj d')).get? s.heap.objs.size = some (fsObj d') := Heap.get?_push_size _ rfl
  refine wpAny_bind (isAnySet_fs (s := { s with heap := _ }) eb' ?_)
  rw [if_pos rfl]
  refine wpAny_bind (wpAny_pure ?_)
  refine merge_one (s := { s with heap := _ }) er' eb' (fun q => absurd (Heap.lt_size eb) (by rw [← q]; exact Nat.lt_irrefl _)) h1 h2 h3 h4 Xb hfb (by rcases hl with h | h <;> simp [h]) hc fun d₂ X₂ hf₂ => ?_
  dsimp only
  rw [push_upd]
  refine wpAny_pure ?_
  refine wpAny_pure ?_
  exact ⟨rfl, d₂, rfl, GS.of (Heap.get?_push_size _ rfl) X₂ hf₂⟩
end
end Mine
end

section
open PySem PySem.W PyProof.Rows PySem.Calls
open PySem.Builtin PySem.Builtin.Frozenset
set_option maxRecDepth 100000
set_option maxHeartbeats 4000000
namespace Mine

section
variable {w : World} {A : Around} {E : Value → Shared → Prop} {s : Shared} {a : Addr} {l : List Nat} {c : Nat} {d : Od}

theorem sizeOf_fs {Q : Nat → Shared → Prop} (e : s.heap.get? a = some (fsObj d)) (hf : d.t.fits d.es.size = true) (h : Q d.es.size s) : wpAny (model pw w) A (Frozenset.sizeOf a) Q E s := by
  unfold Frozenset.sizeOf setEntries
  exact wpAny_bind (wpAny_bind (state_fs e hf (wpAny_pure (wpAny_pure h))))

theorem eraseAt_list {α : Type} (xs : Array α) (i : Nat) : (SetTable.eraseAt xs i).toList = xs.toList.take i ++ xs.toList.drop (i + 1) := by
  unfold SetTable.eraseAt
  simp [Array.toList_extract, List.extract_eq_take_drop]
  exact List.take_of_length_le (by simp)

/-- an entry is taken out -/
theorem Ent.erase {es : List (Int × Value)} {i : Nat} {e₀ : Int × Value} (X : Ent w es l) (hi : es[i]? = some e₀) (hk : (strKind pw w).is ⟨#[c]⟩ e₀.2 = true) (hz : (l.filter fun d => !Nat.beq d c).length + 1 = l.length) : Ent w (es.take i ++ es.drop (i + 1)) (l.filter fun d => !Nat.beq d c) := by
  obtain ⟨hlt, rfl⟩ := List.getElem?_eq_some_iff.mp hi
  have sp : es = es.take i ++ es[i] :: es.drop (i + 1) := by rw [List.getElem_cons_drop, List.take_append_drop]
  have ap := X.ap
  rw [sp, List.pairwise_append, List.pairwise_cons] at ap
  obtain ⟨ap1, ⟨ap2, ap3⟩, ap4⟩ := ap
  have sub : ∀ e, e ∈ es.take i ++ es.drop (i + 1) → e ∈ es := fun e he => by
    rcases List.mem_append.mp he with h | h
    · exact List.mem_of_mem_take h
    · exact List.mem_of_mem_drop h
  refine ⟨fun e he => X.el e (sub e he), fun k => ?_, ?_, ?_⟩
  · have hfil : inText (l.filter fun d => !Nat.beq d c) k = (inText l k && !decide (k = ⟨#[c]⟩)) := by
      unfold inText
      rw [List.any_filter, Bool.eq_iff_iff]
      simp only [List.any_eq_true, Bool.and_eq_true, beq_iff_eq, Bool.not_eq_true', decide_eq_false_iff_not]
      constructor
      · rintro ⟨d, hd, h1, rfl⟩
        refine ⟨⟨d, hd, rfl⟩, fun q => ?_⟩
        have : d = c := by have := congrArg (fun s : Str => s.cps.toList) q; simpa using this
        subst this; simp at h1
      · rintro ⟨⟨d, hd, rfl⟩, h⟩
        refine ⟨d, hd, ?_, rfl⟩
        cases q : Nat.beq d c with
        | false => rfl
        | true => exact absurd (by rw [Nat.eq_of_beq_eq_true q]) h
    rw [hfil, Bool.and_eq_true, X.mem, Bool.not_eq_true', decide_eq_false_iff_not]
    constructor
    · rintro ⟨⟨e, he, h1⟩, h2⟩
      refine ⟨e, ?_, h1⟩
      rw [sp] at he
      rcases List.mem_append.mp he with h | h
      · exact List.mem_append_left _ h
      · rcases List.mem_cons.mp h with rfl | h
        · exact absurd ((strKind pw w).inj _ k ⟨#[c]⟩ h1 hk) h2
        · exact List.mem_append_right _ h
    · rintro ⟨e, he, h1⟩
      refine ⟨⟨e, sub e he, h1⟩, fun q => ?_⟩
      subst q
      rcases List.mem_append.mp he with h | h
      · exact ap4 e h _ (.head _) _ ⟨h1, hk⟩
      · exact ap2 e h _ ⟨hk, h1⟩
  · have := X.ln
    rw [List.length_append, List.length_take, List.length_drop]
    omega
  · rw [List.pairwise_append]
    exact ⟨ap1, ap3, fun e he e' he' => ap4 e he e' (.tail _ he')⟩

theorem discard_fs {x : Value} {Q : Bool → Shared → Prop} (hk : (strKind pw w).is ⟨#[c]⟩ x = true) (hsc : x.scannable = true) (e : s.heap.get? a = some (fsObj d)) (X : Ent w d.es.toList l) (hf : d.t.fits d.es.size = true) (hl : l.length = 33) (hd : d.t.dummies = #[]) (hm : d.t.mask = 127) (hc : has l c = true)
    (hz : (l.filter fun d => !Nat.beq d c).length = 32)
    (hQ : ∀ d' : Od, Ent w d'.es.toList (l.filter fun d => !Nat.beq d c) → d'.t.fits d'.es.size = true → d'.t.dummies.size ≤ 1 → d'.t.mask = 127 → Q true { s with heap := s.heap.update a (fun _ => fsObj d') }) :
    wpAny (model pw w) A (setDiscardHashed a x ((strKind pw w).hash ⟨#[c]⟩)) Q E s := by
  have hsz : d.es.size = l.length := by rw [← X.ln, Array.length_toList]
  have hb : d.es.size < scanBound := by have : scanBound = 4096 := rfl; omega
  unfold setDiscardHashed setFind setFindIn
  refine wpAny_bind (wpAny_bind (state_fs e hf ?_))
  dsimp only
  rw [byScan_of hsc hb X.el]
  simp only [↓reduceIte]
  refine wpAny_bind (wpAny_rule ?_)
  refine wpAny_bind (wpAny_setScan_of hk e rfl hf X.el ?_)
  cases hr : List.findIdx? (fun e => (strKind pw w).is ⟨#[c]⟩ e.2) d.es.toList with
  | none =>
    exfalso
    obtain ⟨e', he, hp⟩ := (X.mem ⟨#[c]⟩).mp (by rw [inText_one]; exact hc)
    have := List.findIdx?_eq_none_iff.mp hr e' he
    rw [hp] at this; cases this
  | some j =>
    obtain ⟨hj, hpj, _⟩ := List.findIdx?_eq_some_iff_getElem.mp hr
    dsimp only
    refine wpAny_pure ?_
    dsimp only
    refine wpAny_bind (state_fs e hf ?_)
    dsimp only
    rw [Nat.zero_add]
    have hjl : j < d.es.size := by simpa using hj
    have hesz : (SetTable.eraseAt d.es j).size = 32 := by
      rw [← Array.length_toList, eraseAt_list, List.length_append, List.length_take, List.length_drop, Array.length_toList]; omega
    refine wpAny_bind (store_fs e (by omega) ?_)
    refine wpAny_bind (wpAny_point (wpAny_pure ?_))
    have hpl : d.t.place.size = 33 := by
      unfold SetTable.fits at hf
      simp only [Bool.and_eq_true, beq_iff_eq] at hf
      rw [hf.1, hsz, hl]
    have hgp : d.t.place[j]? = some d.t.place[j] := Array.getElem?_eq_getElem (by omega)
    have hdrop : d.t.drop j = { d.t with place := SetTable.eraseAt d.t.place j, dummies := SetTable.insertAt d.t.dummies (SetTable.below d.t.dummies d.t.place[j]) d.t.place[j] } := by
      unfold SetTable.drop; rw [hgp]
    have hdsz : (SetTable.insertAt d.t.dummies (SetTable.below d.t.dummies d.t.place[j]) d.t.place[j]).size = 1 := by
      rw [← Array.length_toList, (SetTable.insertAt_perm _ _ _).length_eq, hd]; rfl
    have hpsz : (SetTable.eraseAt d.t.place j).size = 32 := by
      rw [← Array.length_toList, eraseAt_list, List.length_append, List.length_take, List.length_drop, Array.length_toList]; omega
    refine hQ ⟨_, _, _, _⟩ ?_ ?_ ?_ ?_
    · dsimp only
      rw [eraseAt_list]
      exact X.erase (List.getElem?_eq_getElem hj) hpj (by omega)
    · dsimp only
      unfold SetTable.fits SetTable.fill
      rw [hdrop]
      dsimp only
      rw [hpsz, hesz, hdsz, hm]; rfl
    · dsimp only
      rw [hdrop]
      dsimp only
      omega
    · dsimp only
      rw [hdrop]
      exact hm

theorem sub_gs {b : Addr} (ga : GS w s.heap a l) (gb : GS w s.heap b [c]) (hl : l.length = 33) (hz : (l.filter fun d => !Nat.beq d c).length = 32) (hc : has l c = true) (hne : a ≠ b) :
    codeAny (model pw w) A (.builtin "frozenset.__sub__" ⟨[.ref a, .ref b], []⟩) (fun r s' => r = .ok (.ret (.ref s.heap.objs.size)) ∧ ∃ d, s' = { s with heap := s.heap.push (fsObj d) } ∧ GS w s'.heap s.heap.objs.size (l.filter fun d => !Nat.beq d c)) s := by
  obtain ⟨da, ea, Xa, hfa, sza⟩ := ga.ent
  obtain ⟨db, eb, Xb, hfb, szb⟩ := gb.ent
  obtain ⟨x, hx, hk, hsc⟩ := one_of Xb
  refine codeAny_builtin entry_fs_sub ?_
  show wpAny _ _ ((isAnySet (.ref a) <&&> isAnySet (.ref b)) >>= fun ok => if (!ok) = true then (do rule s!"frozenset.{"__sub__"}.declined"; ret .notImplemented) else difference s!"frozenset.{"__sub__"}" a (.ref b) >>= ret) _ _ _
  refine wpAny_bind ?_
  unfold andM
  refine wpAny_bind (isAnySet_fs ea ?_)
  refine isAnySet_fs eb ?_
  rw [if_neg (by simp)]
  refine wpAny_bind ?_
  unfold difference
  dsimp only
  refine wpAny_bind (isAnySet_fs eb ?_)
  simp only [Bool.not_true, Bool.false_eq_true, if_false, Bool.false_and, if_true]
  refine wpAny_bind (wpAny_pure ?_)
  refine wpAny_bind (sizeOf_fs eb hfb ?_)
  refine wpAny_bind (sizeOf_fs ea hfa ?_)
  rw [if_pos (by rw [sza, szb, hl]; show 33 / 4 > 1; decide)]
  refine wpAny_bind (wpAny_rule ?_)
  refine wpAny_bind (copyOf_fs (m := 127) ea Xa hfa (.inr (.inr ⟨hl, rfl⟩)) fun d' h1 h2 h3 h4 => ?_)
  have eb' : (s.heap.push (fsObj d')).get? b = some (fsObj db) := Heap.get?_push_of_some _ eb
  have er' : (s.heap.push (fsObj d')).get? s.heap.objs.size = some (fsObj d') := Heap.get?_push_size _ rfl
  have hnr : s.heap.objs.size ≠ b := fun q => absurd (Heap.lt_size eb) (by rw [← q]; exact Nat.lt_irrefl _)
  refine wpAny_bind (wpAny_pure ?_)
  refine wpAny_bind (wpAny_holding ?_)
  unfold differenceUpdate
  rw [if_neg (by simpa using Ne.symm hnr)]
  refine wpAny_bind (isAnySet_fs (s := { s with heap := _ }) eb' ?_)
  rw [if_pos rfl]
  refine wpAny_bind (wpAny_pure ?_)
  refine wpAny_bind (sizeOf_fs (s := { s with heap := _ }) eb' hfb ?_)
  refine wpAny_bind (sizeOf_fs (s := { s with heap := _ }) er' h2 ?_)
  rw [if_neg (by rw [szb]; simp)]
  refine wpAny_bind (setEpoch_fs (s := { s with heap := _ }) eb' hfb ?_)
  refine wpAny_bind (wpAny_holding ?_)
  refine wpAny_bind (walkUnseen_one (s := { s with heap := _ }) eb' hfb hx ?_)
  have ef : ∀ {β : Type} {f : Int × Value → β → Sem (ForInStep β)} {b0 : β}, forIn (#[((strKind pw w).hash ⟨#[c]⟩, x)] : Array (Int × Value)) b0 f = (f ((strKind pw w).hash ⟨#[c]⟩, x) b0 >>= fun r => match r with | .done b => pure b | .yield b => pure b) := by
    intro β f b0
    rw [← Array.forIn_toList]
    simp only [List.forIn_cons, List.forIn_nil]
    rfl
  rw [ef]
  refine wpAny_bind (wpAny_bind (wpAny_bind (wpAny_holding (discard_fs (s := { s with heap := _ }) hk hsc er' h1 h2 hl h3 h4 hc hz fun d₂ X₂ hf₂ hd₂ hm₂ => ?_))))
  dsimp only
  rw [push_upd]
  have eb₂ : (s.heap.push (fsObj d₂)).get? b = some (fsObj db) := Heap.get?_push_of_some _ eb
  have er₂ : (s.heap.push (fsObj d₂)).get? s.heap.objs.size = some (fsObj d₂) := Heap.get?_push_size _ rfl
  refine wpAny_bind (unchanged_fs (s := { s with heap := _ }) eb₂ hfb ?_)
  refine wpAny_pure ?_
  refine wpAny_pure ?_
  refine wpAny_pure ?_
  unfold setTidy
  refine wpAny_bind (state_fs (s := { s with heap := _ }) er₂ hf₂ ?_)
  dsimp only
  rw [if_neg (by unfold SetTable.tooManyDummies; rw [hm₂]; simp; omega)]
  refine wpAny_pure ?_
  refine wpAny_pure ?_
  refine wpAny_pure ?_
  exact ⟨rfl, d₂, rfl, GS.of er₂ X₂ hf₂⟩

theorem hooks (w : World) : Hooks w := ⟨add_gs, or_gs, sub_gs⟩
end
end Mine
end

section
open PySem PySem.W PyProof.Rows PySem.Calls
set_option maxRecDepth 100000
set_option maxHeartbeats 4000000
namespace Mine

section
variable {den : Code → Sem Fin} {p : Program} {w : World}
theorem last_I : ∀ {k : Nat} {s : Shared} {t : Thread} {s₁ s₂ : Shared} {t₁ t₂ : Thread}, runNI den p w k s t = .running s₁ t₁ → runNI den p w (k + 1) s t = .running s₂ t₂ → stepI den p w s₁ t₁ = .go s₂ t₂
  | 0, s, t, s₁, s₂, t₁, t₂, h1, h2 => by
    have e : Run.running s t = .running s₁ t₁ := h1
    injection e with e1 e2; subst e1 e2
    simp only [runNI] at h2
    cases hs : stepI den p w s t with
    | go a b => rw [hs] at h2; injection h2 with e1 e2; subst e1 e2; rfl
    | halt => rw [hs] at h2; cases h2
  | k + 1, s, t, s₁, s₂, t₁, t₂, h1, h2 => by
    rw [runNI] at h1 h2
    cases hs : stepI den p w s t with
    | go a b => rw [hs] at h1 h2; exact last_I h1 h2
    | halt => rw [hs] at h1; cases h1
theorem last_N : ∀ {k : Nat} {s : Shared} {t : Thread} {s₁ s₂ : Shared} {t₁ t₂ : Thread}, runN den p w k s t = .running s₁ t₁ → runN den p w (k + 1) s t = .running s₂ t₂ → step den p w s₁ t₁ = .go s₂ t₂
  | 0, s, t, s₁, s₂, t₁, t₂, h1, h2 => by
    have e : Run.running s t = .running s₁ t₁ := h1
    injection e with e1 e2; subst e1 e2
    simp only [runN] at h2
    cases hs : step den p w s t with
    | go a b => rw [hs] at h2; injection h2 with e1 e2; subst e1 e2; rfl
    | halt => rw [hs] at h2; cases h2
  | k + 1, s, t, s₁, s₂, t₁, t₂, h1, h2 => by
    rw [runN] at h1 h2
    cases hs : step den p w s t with
    | go a b => rw [hs] at h1 h2; exact last_N h1 h2
    | halt => rw [hs] at h1; cases h1

theorem sched_of_I {n : Nat} {s s' : Shared} {t t' : Thread} (hz : s.asleep) (h : runNI den p w n s t = .running s' t') :
    ∃ σ tau, schedN den p w n (.single s t) = .running (.single σ tau) ∧ σ.forget = s'.forget ∧ tau.forget = t'.forget := by
  obtain ⟨σ, tau, hr, h1, h2⟩ := runNI_running_real h
  refine ⟨σ, tau, ?_, h1, h2⟩
  rw [schedN_prefix den p w n s t hz fun k σ₁ τ₁ hk hk₁ => ?_, hr]
  · rfl
  · obtain ⟨s₂, t₂, e₂⟩ := runNI_prefix (Nat.le_of_lt hk) h
    obtain ⟨s₃, t₃, e₃⟩ := runNI_prefix (k := k + 1) hk h
    obtain ⟨σ₂, τ₂, r₂, _, f₂⟩ := runNI_running_real e₂
    obtain ⟨σ₃, τ₃, r₃, _, f₃⟩ := runNI_running_real e₃
    rw [r₂] at hk₁
    injection hk₁ with q1 q2
    subst q1 q2
    have st := last_I e₂ e₃
    refine ⟨?_, by rw [last_N r₂ r₃]; exact fun q => by cases q⟩
    rw [← Thread.calm_forget, f₂, Thread.calm_forget, Thread.calm_eq]
    cases hl : t₂.loud with
    | true => rw [stepI_loud den p w hl] at st; cases st
    | false =>
      rw [stepI_quiet den p w hl] at st
      cases hr : t₂.refused with
      | true => obtain ⟨_, q⟩ := stepK_refused den p w hr (s := s₂); rw [q] at st; cases st
      | false => rfl
end

theorem sched_of_runs {M : Model} {c : Code} {pos : Pos} {t : Sem Fin} {s s' : Shared} {f : Flow} (hz : s.asleep) (h : Runs M (Ctx.of c []) pos t [] s (.ret (.ok f)) s') :
    ∃ n σ tau, schedN M.den M.prog M.w n (.single s ⟨t, c, pos, []⟩) = .running (.single σ tau) ∧ through tau = true ∧ σ.forget = s'.forget := by
  obtain ⟨t', c', p', pre', ⟨n, hn⟩, hx⟩ := (runs_reach h [] (Ctx.fits_of c [])).comes
  obtain ⟨rfl, rfl⟩ := hx
  obtain ⟨σ, tau, h1, h2, h3⟩ := sched_of_I hz hn
  refine ⟨n, σ, tau, h1, ?_, h2⟩
  obtain ⟨cur, code, ps, stack⟩ := tau
  simp only [Thread.forget, Thread.mk.injEq] at h3
  obtain ⟨e2, e3, e4, e5⟩ := h3
  have hst : stack = [] := by cases stack with | nil => rfl | cons x xs => exact absurd (show x.forget :: forgetAll xs = [] from e5) (by simp)
  subst hst e2
  rfl
end Mine
end

section
open PySem PySem.W PyProof.Rows PySem.Calls
set_option maxRecDepth 100000
set_option maxHeartbeats 4000000
namespace Mine

noncomputable def tree0 (P : Params) : BT := ((((((((((BT.nil.ins 0 (boot_o_0 P)).ins 1 (boot_o_1 P)).ins 2 (boot_o_2 P)).ins 3 (boot_o_3 P)).ins 4 (boot_o_4 P)).ins 5 (boot_o_5 P)).ins 6 (boot_o_6 P)).ins 7 (boot_o_7 P)).ins 8 (boot_o_8 P)).ins 9 (boot_o_9 P)).ins 10 (boot_o_10 P)
noncomputable def x0 (w : World) (os : OsState) : SharedT := ⟨tree0 w.params, 11, (boot_heap w.params).life, #[], boot_drawn, boot_toks, os⟩
theorem x0_abs (w : World) (os : OsState) : (x0 w os).abs = ⟨boot_heap w.params, #[], boot_drawn, boot_toks, os⟩ := by kernel_rfl
noncomputable def qV : Program := { pw with main := { pw.main with body := [stAt 0, stAt 1, stAt 2, stAt 9, stAt 10, stAt 11, stAt 12, stAt 13, stAt 14, stAt 15, stAt 16, stAt 17, stAt 18, stAt 19, stAt 20, stAt 21, stAt 22] } }
noncomputable def looseV : List Str := ["ASCII_CTRL", "ILLEGAL_BASIC_STR_CHARS", "ILLEGAL_LITERAL_STR_CHARS", "ILLEGAL_COMMENT_CHARS", "TOML_WS", "TOML_WS_AND_NEWLINE"]
noncomputable def ctrlL : List Nat := ((List.range 32).filter (· != 9)) ++ [127]
noncomputable def tyName : Value → String
  | .type n => n
  | _ => ""
noncomputable def isVE (l : List Value) : Bool := l.map tyName == ["", "ValueError", "Exception", "BaseException", "object"]
noncomputable def clsLook (h : Heap) : Bool := match h.nsMap mainGlobals "TOMLDecodeError" with
  | some (.ref C) => match h.get? C with
    | some o => match o.data with
      | .cls cd => h.isNs cd.ns && (h.nsMap cd.ns "__str__").isNone && isVE cd.mro
      | _ => false
    | none => false
  | _ => false
noncomputable def endLook (w : World) (x : SharedT) (gh : Gh) :=
  (openSeen qV looseV [] (fun _ => true) false x.abs, staticsOk [] (boot_heap w.params) x.abs.heap && namesBound pw x.abs.heap && laidKept (boot_heap w.params) x.abs.heap, x.gens,
    [x.tree.get 0, x.tree.get 1, x.tree.get 4, x.tree.get 5, x.tree.get 6, x.tree.get 7, x.tree.get 8, x.tree.get 9, x.tree.get 10], x.n,
    [x.abs.heap.nsMap mainGlobals "TOML_WS_AND_NEWLINE", x.abs.heap.nsMap mainGlobals "ILLEGAL_COMMENT_CHARS", x.abs.heap.nsMap mainGlobals "ILLEGAL_LITERAL_STR_CHARS"], ghOf gh 52, ghOf gh 43, clsLook x.abs.heap)
noncomputable def endGood (w : World) :=
  (openGood qV looseV, true, (#[.finished] : Array GenState),
    [some (boot_o_0 w.params), some (boot_o_1 w.params), some (boot_o_4 w.params), some (boot_o_5 w.params), some (boot_o_6 w.params), some (boot_o_7 w.params), some (boot_o_8 w.params), some (boot_o_9 w.params), some (boot_o_10 w.params)], 146,
    [some (Value.ref 52), some (Value.ref 43), some (Value.ref 43)], some [32, 9, 10], some ctrlL, true)
noncomputable def kfin (w : World) (e : End) (x : SharedT) (gh : Gh) (_ : Orc) := match e with
  | .ret (.ok (.ret .none)) => some (endLook w x gh)
  | _ => none
noncomputable abbrev ww (w : World) (a b : Bool) : World := ((w.withFollow "comprehension-iter-twice" a).withFollow "special-get-raises" b)
theorem ev_tt (w : World) (os : OsState) (O : Orc) : ev (ww w true true) 1000 Γ0 default topTree [] (x0 (ww w true true) os) [] O (kfin (ww w true true)) = some (endGood (ww w true true)) := by kernel_rfl
theorem ev_tf (w : World) (os : OsState) (O : Orc) : ev (ww w true false) 1000 Γ0 default topTree [] (x0 (ww w true false) os) [] O (kfin (ww w true false)) = some (endGood (ww w true false)) := by kernel_rfl
theorem ev_ft (w : World) (os : OsState) (O : Orc) : ev (ww w false true) 1000 Γ0 default topTree [] (x0 (ww w false true) os) [] O (kfin (ww w false true)) = some (endGood (ww w false true)) := by kernel_rfl
theorem ev_ff (w : World) (os : OsState) (O : Orc) : ev (ww w false false) 1000 Γ0 default topTree [] (x0 (ww w false false) os) [] O (kfin (ww w false false)) = some (endGood (ww w false false)) := by kernel_rfl
theorem ev_all (w : World) (os : OsState) (O : Orc) : ev w 1000 Γ0 default topTree [] (x0 w os) [] O (kfin w) = some (endGood w) := by
  have e : ∀ (v : World) (a b : Bool), ev (ww v a b) 1000 Γ0 default topTree [] (x0 (ww v a b) os) [] O (kfin (ww v a b)) = some (endGood (ww v a b)) := fun v a b => match a, b with
    | true, true => ev_tt v os O
    | true, false => ev_tf v os O
    | false, true => ev_ft v os O
    | false, false => ev_ff v os O
  have h1 := World.withFollow_self w "comprehension-iter-twice"
  have h2 := World.withFollow_self w "special-get-raises"
  have h3 := e w (w.params.followText "comprehension-iter-twice") (w.params.followText "special-get-raises")
  unfold ww at h3
  rw [h1, h2] at h3
  exact h3
end Mine
end

section
open PySem PySem.W PyProof.Rows PySem.Calls
set_option maxRecDepth 100000
set_option maxHeartbeats 200000
namespace Mine

theorem top_end (w : World) (os : OsState) : ∃ x gh, Runs (Mt w) Γ0 default topTree [] (x0 w os).abs (.ret (.ok (.ret .none))) x.abs ∧ Good w x gh ∧ x.os = os ∧ x.life = (boot_heap w.params).life ∧ endLook w x gh = endGood w := by
  have e := ev_all w os
  have snd := ev_sound (R := _) (hooks w) 1000 Γ0 default topTree [] (x0 w os) [] (kfin w) (fun a l h => by cases h) (fun O => by rw [e]; rfl)
  obtain ⟨en, x', gh', r, g, h1, h2, h3, f, hf⟩ := snd
  have q := (hf O₀).symm.trans (e (f O₀))
  have key : en = .ret (.ok (.ret .none)) ∧ endLook w x' gh' = endGood w := by
    unfold kfin at q
    split at q
    · exact ⟨rfl, Option.some.inj q⟩
    · cases q
  obtain ⟨rfl, q2⟩ := key
  exact ⟨x', gh', r, g, h1, h2, q2⟩

theorem gens_fin {g : Array GenState} (h : g.map GenState.forget = (#[.finished] : Array GenState).map GenState.forget) : g = #[.finished] := by
  have hz : g.size = 1 := by have := congrArg Array.size h; simpa using this
  have hl : g.toList.length = 1 := by simpa using hz
  obtain ⟨x, hx⟩ := List.length_eq_one_iff.mp hl
  have eg : g = #[x] := by rw [← Array.toArray_toList (xs := g), hx]
  rw [eg] at h
  have h1 : x.forget = .finished := by
    have := congrArg (fun a : Array GenState => a[0]?) h
    simpa [GenState.forget] using this
  rw [eg]
  cases x with
  | suspended => cases h1
  | fresh => cases h1
  | running => cases h1
  | finished => rfl

theorem imp_nil : importedModules pw.main.body = [] := by kernel_rfl
theorem chains_ok : chainsOk qV = true := by kernel_rfl
theorem caller_of : Γ0 = Ctx.of (.builtin "claim.caller" {}) [] := rfl

noncomputable def SetsOk (w : World) (h : Heap) : Prop :=
  (h.nsMap mainGlobals "TOML_WS_AND_NEWLINE" = some (.ref 52) ∧ GS w h 52 [32, 9, 10]) ∧ (h.nsMap mainGlobals "ILLEGAL_COMMENT_CHARS" = some (.ref 43) ∧ GS w h 43 ctrlL) ∧ (h.nsMap mainGlobals "ILLEGAL_LITERAL_STR_CHARS" = some (.ref 43) ∧ GS w h 43 ctrlL) ∧ clsLook h = true

theorem old_kept {w : World} {os : OsState} {x : SharedT} (hn : x.n = 146)
    (ho : [x.tree.get 0, x.tree.get 1, x.tree.get 4, x.tree.get 5, x.tree.get 6, x.tree.get 7, x.tree.get 8, x.tree.get 9, x.tree.get 10] =
      [some (boot_o_0 w.params), some (boot_o_1 w.params), some (boot_o_4 w.params), some (boot_o_5 w.params), some (boot_o_6 w.params), some (boot_o_7 w.params), some (boot_o_8 w.params), some (boot_o_9 w.params), some (boot_o_10 w.params)])
    (b : Addr) (o : Obj) (e : (x0 w os).abs.heap.get? b = some o) (h2 : b ≠ 2) (h3 : b ≠ 3) : x.abs.heap.get? b = some o := by
  have hb : b < 11 := by have := Heap.lt_size e; rw [size_abs] at this; exact this
  have key : ∀ o', x.tree.get b = some o' → (x0 w os).tree.get b = some o' → x.abs.heap.get? b = some o := fun o' q1 q2 => by
    have a1 := abs_get (life := x.life) (show b < x.n by rw [hn]; exact Nat.lt_trans hb (by decide)) q1
    have a2 := abs_get (life := (x0 w os).life) (show b < (x0 w os).n from hb) q2
    exact a1.trans (a2.symm.trans e)
  simp only [List.cons.injEq, and_true] at ho
  obtain ⟨o0, o1, o4, o5, o6, o7, o8, o9, o10⟩ := ho
  match b, hb, key with
  | 0, _, key => exact key _ o0 rfl
  | 1, _, key => exact key _ o1 rfl
  | 2, _, _ => exact absurd rfl h2
  | 3, _, _ => exact absurd rfl h3
  | 4, _, key => exact key _ o4 rfl
  | 5, _, key => exact key _ o5 rfl
  | 6, _, key => exact key _ o6 rfl
  | 7, _, key => exact key _ o7 rfl
  | 8, _, key => exact key _ o8 rfl
  | 9, _, key => exact key _ o9 rfl
  | 10, _, key => exact key _ o10 rfl

theorem top_ran (w : World) (os : OsState) (hz : (x0 w os).abs.asleep) : ∃ s₁, TopRan pw w (x0 w os).abs s₁ ∧ s₁.asleep ∧ leftWithCleanup s₁.gens = false ∧ s₁.heap.isNs mainGlobals = true ∧
    Ground qV looseV [] (fun _ _ => True) w s₁ (s₁.heap.nsMap mainGlobals) (s₁.heap.nsMap builtinsNs) s₁.heap ∧ SetsOk w s₁.heap := by
  obtain ⟨x, gh, r, g, hos, hlf, look⟩ := top_end w os
  unfold endLook endGood at look
  simp only [Prod.mk.injEq] at look
  obtain ⟨l1, l2, l3, l4, l5, l6, l7, l8, l9⟩ := look
  simp only [Bool.and_eq_true] at l2
  obtain ⟨⟨l2a, l2b⟩, l2c⟩ := l2
  simp only [List.cons.injEq, and_true] at l6
  rw [← model_tree, caller_of] at r
  obtain ⟨n, σ, tau, hs, ht, hf⟩ := sched_of_runs hz r
  obtain ⟨f1, f2, f3, f4, f5⟩ := Shared.forget_eq hf
  have hg : σ.gens = x.abs.gens := (gens_fin (f5.trans (by show x.gens.map _ = _; rw [l3]))).trans l3.symm
  obtain rfl : σ = x.abs := by
    obtain ⟨a, b, c, d, e⟩ := σ
    cases hx : x.abs with
    | mk a' b' c' d' e' => rw [hx] at f1 f2 f3 f4 hg; cases f1; cases f2; cases f3; cases f4; cases hg; rfl
  obtain ⟨G, g0, g1, g2, g3, g4, g5⟩ := ground_of_open (w := w) (XP := fun _ _ => True) (fun _ _ => trivial) chains_ok l1
  have life : x.abs.heap.life = (x0 w os).abs.heap.life := hlf
  refine ⟨x.abs, ⟨⟨n, tau, hs, ht⟩, life, Shared.rest_eq hos, fun b o e hn => old_kept l5 l4 b o e (fun q => hn (.inr (.inl q))) (fun q => hn (.inl q)), ?_, ?_, g3, g4, g5, ?_, names_of_bound l2b, ?_⟩, Shared.asleep_of_life life hz, by simpa using g0, g1, G, ⟨l6.1, g 52 _ l7⟩, ⟨l6.2.1, g 43 _ l8⟩, ⟨l6.2.2, g 43 _ l8⟩, l9⟩
  · rw [imp_nil]; exact g2
  · rw [imp_nil, x0_abs]; exact statics_of_ok l2a
  · intro q hq
    have : q ∈ x.gens := hq
    rw [l3] at this
    simp at this; subst this; trivial
  · rw [x0_abs]; exact laid_of_kept l2c

theorem opening_eq : opening pw = plainProg pw.main.scope.names := by kernel_rfl
theorem head (w : World) : (∃ s, AfterRun (opening pw) w s) ∧ ∀ s, AfterRun (opening pw) w s → ∃ s₀, fenceModules? pw s = some s₀ ∧ s₀.gens = #[] ∧ ∃ s₁, TopRan pw w s₀ s₁ ∧ s₁.asleep ∧ leftWithCleanup s₁.gens = false ∧ s₁.heap.isNs mainGlobals = true ∧
    Ground qV looseV [] (fun _ _ => True) w s₁ (s₁.heap.nsMap mainGlobals) (s₁.heap.nsMap builtinsNs) s₁.heap ∧ SetsOk w s₁.heap := by
  have h := boot_open (p := pw) (N := 600) opening_eq rfl (fun s => rfl) w
  rw [← table_eq_tree] at h
  obtain ⟨s₀, h2, e⟩ := Option.map_eq_some_iff.mp h
  obtain ⟨s, h4, h5⟩ := Option.bind_eq_some_iff.mp h2
  have A := AfterImport.of_importEnds h4
  refine ⟨⟨s, A⟩, fun s' hs' => ?_⟩
  obtain rfl : s' = s := AfterImport.unique hs' A
  have z : s₀.asleep := Shared.asleep_of_life (fence_lifeW h5) A.life
  obtain ⟨a, b, c, d, os⟩ := s₀
  simp only [Prod.mk.injEq] at e
  obtain ⟨rfl, rfl, rfl, rfl⟩ := e
  have ex := x0_abs w os
  rw [← ex] at z
  have := top_ran w os z
  rw [ex] at this
  exact ⟨_, h5, rfl, this⟩
end Mine
end

section
open PySem PySem.W PyProof.Rows PySem.Calls
set_option maxRecDepth 100000
set_option maxHeartbeats 4000000
namespace Mine

noncomputable abbrev recAt (i : Nat) (name : Str) : DefRec := ⟨name, fnParams (stAt i), fnBody (stAt i), fnScope (stAt i), fnPos (stAt i)⟩
noncomputable def recsL : List DefRec := [recAt 1 "_dedent", recAt 10 "skip_chars", recAt 11 "skip_until", recAt 12 "skip_comment", recAt 13 "skip_comments_and_array_ws", recAt 14 "parse_literal_str", recAt 15 "suffixed_err", recAt 17 "_law_word", recAt 18 "_law_body", recAt 19 "_law_rows", recAt 20 "_law_due", recAt 21 "_law_read", recAt 22 "law"]
theorem recs_eq : recsOf qV = recsL := by kernel_rfl
noncomputable def ownR := (ownsOf qV).map fun o => (o.name, o.newId)
theorem own_eq : ∃ o ∈ ownsOf qV, o.name = "TOMLDecodeError" ∧ o.newId = "ValueError.__new__" := by
  have h1 : ownR = [(Str.ofString "TOMLDecodeError", "ValueError.__new__")] := by kernel_rfl
  have h2 : (("TOMLDecodeError", "ValueError.__new__") : Str × String) ∈ ownR := by rw [h1]; exact .head _
  obtain ⟨o, ho, e⟩ := List.mem_map.mp h2
  exact ⟨o, ho, (Prod.mk.inj e).1, (Prod.mk.inj e).2⟩

noncomputable def notFree (x : Str) : Bool := startupNames.contains x || (looseW qV looseV).contains x || ((recsOf qV).map (·.name)).contains x || ((litsOf qV).map (·.1)).contains x || ((clssOf qV (looseW qV looseV)).map (·.name)).contains x
theorem free_all : (["len", "IndexError", "ValueError", "enumerate", "str", "type", "max", "sum", "any"] : List Str).all (fun x => !notFree x) = true := by kernel_rfl
theorem boot_all : (["len", "IndexError", "ValueError", "enumerate", "str", "type", "max", "sum", "any"] : List Str).map bootBuiltins =
    [some (.builtin "len"), some (.type "IndexError"), some (.type "ValueError"), some (.type "enumerate"), some (.type "str"), some (.type "type"), some (.builtin "max"), some (.builtin "sum"), some (.builtin "any")] := by kernel_rfl
theorem names_ne : ∀ x ∈ (["len", "IndexError", "ValueError", "enumerate", "str", "type", "max", "sum", "any"] : List Str), x ≠ "__name__" := by decide +kernel

theorem nsMap_eq {h : Heap} {a : Addr} {m : Str → Option Value} (hn : h.Ns a m) (x : Str) : m x = h.nsMap a x := by
  obtain ⟨o, es, ep, e, d, _, hm⟩ := hn
  unfold Heap.nsMap
  rw [e]; dsimp only; rw [d]; exact (hm x).symm

section
variable {h : Heap} {c P : Addr}
theorem base_get (hT : TabsAt [(c, P)] h) {b : Addr} {o : Obj} (e : h.get? b = some o) (hn : o ≠ tabObj #[]) : (ghostOf h [(c, P)]).get? b = some o := ghost_get hT e hn
theorem base_ns (hT : TabsAt [(c, P)] h) {a : Addr} {m : Str → Option Value} (hn : h.Ns a m) : (ghostOf h [(c, P)]).Ns a m := by
  obtain ⟨o, es, ep, e, d, r⟩ := hn
  exact ⟨o, es, ep, base_get hT e (fun q => by rw [q] at d; cases d), d, r⟩
theorem base_code (hT : TabsAt [(c, P)] h) {cd : Value} {q : Str} (x : h.CodeRec cd q) : (ghostOf h [(c, P)]).CodeRec cd q := by
  obtain ⟨c', o, vs, t, e, ho, hd, h1⟩ := x
  exact ⟨c', o, vs, t, e, base_get hT ho (fun z => by rw [z] at hd; cases hd; simp at h1), hd, h1⟩
end
theorem fset_of {w : World} {h : Heap} {a c P : Addr} {l : List Nat} (hT : TabsAt [(c, P)] h) (x : GS w h a l) (hl : l.length < scanBound) : FSet w (ghostOf h [(c, P)]) a (inText l) := by
  obtain ⟨d, e, h1, h2, h3, h4, _⟩ := x
  exact ⟨fsObj d, d.es, d.ep, d.t, base_get hT e (fun q => by cases q), rfl, rfl, rfl, h1, h2, by rw [h4]; exact hl, h3⟩

theorem tyName_eq {v : Value} {n : String} (h : tyName v = n) (hn : n ≠ "") : v = .type n := by
  cases v with
  | type m => exact congrArg Value.type h
  | _ => exact absurd (show "" = n from h).symm hn
theorem isVE_eq {c : Addr} {l : List Value} (h : isVE (.ref c :: l) = true) : l = bmVE := by
  have h : (Value.ref c :: l).map tyName = ["", "ValueError", "Exception", "BaseException", "object"] := beq_iff_eq.mp h
  have h : l.map tyName = ["ValueError", "Exception", "BaseException", "object"] := (List.cons.inj h).2
  obtain ⟨v1, l1, rfl, h1, h⟩ := List.map_eq_cons_iff.mp h
  obtain ⟨v2, l2, rfl, h2, h⟩ := List.map_eq_cons_iff.mp h
  obtain ⟨v3, l3, rfl, h3, h⟩ := List.map_eq_cons_iff.mp h
  obtain ⟨v4, l4, rfl, h4, h⟩ := List.map_eq_cons_iff.mp h
  obtain rfl := List.map_eq_nil_iff.mp h
  rw [tyName_eq h1 (by decide), tyName_eq h2 (by decide), tyName_eq h3 (by decide), tyName_eq h4 (by decide)]

/-- what the walk leans on, out of what the top left -/
theorem glb_of {w : World} {s₀ : Shared} {h : Heap} (Gd : Ground qV looseV [] (fun _ _ => True) w s₀ (h.nsMap mainGlobals) (h.nsMap builtinsNs) h) (hS : SetsOk w h) :
    ∃ G : Glb, G.Ok ∧ Fns w G ∧ (G.base.StaysIn h ∧ h.get? G.P = some (tabObj #[]) ∧ CodeHd h G.c G.P) ∧ G.mg = h.nsMap mainGlobals ∧ ∃ f o pm cd doc, G.mg "law" = some (.ref f) ∧ G.base.get? f = some o ∧ o.data = .func (docDef "law" (fnParams (stAt 22)) (fnBody (stAt 22)) (fnScope (stAt 22)) pm cd doc) ∧ G.base.CodeRec cd "law" := by
  have T := Gd.T
  obtain ⟨⟨s1, g1⟩, ⟨s2, g2⟩, ⟨s3, g3⟩, hcl⟩ := hS
  have hmem : ∀ d ∈ recsL, d ∈ recsOf qV := fun d hd => recs_eq ▸ hd
  have hfn : ∀ d ∈ recsL, ∃ a o pm code doc, h.nsMap mainGlobals d.name = some (.ref a) ∧ h.get? a = some o ∧ o.data = .func (docDef d.name d.params d.body d.scope pm code doc) ∧ h.CodeRec code d.name := fun d hd => T.fn d (hmem d hd)
  obtain ⟨fa, fo, ffd, c, P, t1, t2, t3, t4, t5, t6⟩ := T.tab (recAt 15 "suffixed_err") (hmem _ (List.mem_of_getElem? (i := 6) rfl))
  have hT : TabsAt [(c, P)] h := fun q hq => by
    rw [List.mem_singleton.mp hq]
    exact ⟨CodeHd.of t5 t6, t6.2⟩
  have hmg : ∀ x ∈ (["len", "IndexError", "ValueError", "enumerate", "str", "type", "max", "sum", "any"] : List Str), h.nsMap mainGlobals x = none := fun x hx => by
    have h1 := List.all_eq_true.mp free_all x hx
    simp only [notFree, Bool.not_eq_true', Bool.or_eq_false_iff] at h1
    obtain ⟨⟨⟨⟨a1, a2⟩, a3⟩, a4⟩, a5⟩ := h1
    have nn : ∀ {l : List Str}, l.contains x = false → x ∉ l := fun q hm => by rw [List.contains_iff_mem.mpr hm] at q; cases q
    exact T.free x (nn a1) (nn a2) (nn a3) (nn a4) (nn a5)
  have hmb : ∀ x ∈ (["len", "IndexError", "ValueError", "enumerate", "str", "type", "max", "sum", "any"] : List Str), h.nsMap builtinsNs x = bootBuiltins x := fun x hx => T.builtins x (names_ne x hx)
  have hbt := boot_all
  simp only [List.map_cons, List.map_nil, List.cons.injEq, and_true] at hbt
  obtain ⟨b1, b2, b3, b4, b5, b6, b7, b8, b9⟩ := hbt
  obtain ⟨o, ho, on, oi⟩ := own_eq
  obtain ⟨C, OC, _⟩ := T.own o ho
  rw [on, oi] at OC
  obtain ⟨cb, bm, N, nm, q, bs, hdct, sn, sub, ab, col, dd, k0, k1, k2, k3, k5, mN, e1, e2, e3, _⟩ := OC
  have hcl' := hcl
  unfold clsLook at hcl'
  rw [cb] at hcl'
  dsimp only at hcl'
  rw [e1] at hcl'
  dsimp only at hcl'
  simp only [Bool.and_eq_true, Option.isNone_iff_eq_none] at hcl'
  obtain ⟨⟨c1, c2⟩, c3⟩ := hcl'
  have hbm : bm = bmVE := isVE_eq c3
  subst hbm
  have inn : ∀ n ∈ quietNames, mN n = none := e3
  let G : Glb := ⟨ghostOf h [(c, P)], h.nsMap mainGlobals, h.nsMap builtinsNs, P, c, C⟩
  have fn : ∀ (i : Nat) (name : Str), recAt i name ∈ recsL → G.Fn name i := fun i name hd => by
    obtain ⟨a, o, pm, code, doc, f1, f2, f3, f4⟩ := hfn _ hd
    exact ⟨a, o, pm, code, doc, f1, base_get hT f2 (fun q => by rw [q] at f3; cases f3), f3, base_code hT f4⟩
  have bi : ∀ x v, x ∈ (["len", "IndexError", "ValueError", "enumerate", "str", "type", "max", "sum", "any"] : List Str) → bootBuiltins x = some v → G.Bi x v := fun x v hx hv => ⟨hmg x hx, (hmb x hx).trans hv⟩
  have nP : (ghostOf h [(c, P)]).get? P = none := hideAll_none _ (.head _)
  refine ⟨G, ?_, ?_, ⟨fun b o e => of_hideAll _ e, t6.2, CodeHd.of t5 t6⟩, rfl, ?_⟩
  · refine ⟨base_ns hT T.g, base_ns hT T.b, ?_, nP, (ghost_code hT).1, ?_, ?_, cb, bi _ _ (by decide +kernel) b1, bi _ _ (by decide +kernel) b2, bi _ _ (by decide +kernel) b3⟩
    · obtain ⟨mc, m1, m2⟩ := T.nolimit
      exact ⟨mc, base_ns hT m1, m2⟩
    · obtain ⟨bmo, ob, m1, m2, m3, m4, m5, m6⟩ := T.bmain
      refine ⟨bmo, ob, m1, m2, ?_, ?_, base_get hT m3 (fun q => by rw [q] at m4; cases m4), m4, m5, m6⟩
      · rintro rfl
        obtain ⟨og, es, ep, g1, g2, _⟩ := T.g
        rw [m3] at g1; cases g1; rw [m6] at g2; cases g2
      · rintro rfl
        have hq := t6.2
        rw [m3] at hq; cases hq; cases m4
    · refine ⟨nm, q, N, bs, hdct, sn, sub, ab, col, dd, k0, k1, k2, k3, k5, mN, base_get hT e1 (fun q => by cases q), base_ns hT e2, inn "__init__" (by decide +kernel), ?_⟩
      rw [nsMap_eq e2]; exact c2
  · refine ⟨fn 1 _ (List.mem_of_getElem? (i := 0) rfl), fn 10 _ (List.mem_of_getElem? (i := 1) rfl), fn 11 _ (List.mem_of_getElem? (i := 2) rfl), fn 12 _ (List.mem_of_getElem? (i := 3) rfl), fn 13 _ (List.mem_of_getElem? (i := 4) rfl), fn 14 _ (List.mem_of_getElem? (i := 5) rfl), ?_, fn 17 _ (List.mem_of_getElem? (i := 7) rfl), fn 18 _ (List.mem_of_getElem? (i := 8) rfl), fn 19 _ (List.mem_of_getElem? (i := 9) rfl), fn 20 _ (List.mem_of_getElem? (i := 10) rfl), fn 21 _ (List.mem_of_getElem? (i := 11) rfl),
      ⟨52, s1, fset_of hT g1 (by decide +kernel)⟩, ⟨43, s2, fset_of hT g2 (by decide +kernel)⟩, ⟨43, s3, fset_of hT g3 (by decide +kernel)⟩, bi _ _ (by decide +kernel) b4, bi _ _ (by decide +kernel) b5, bi _ _ (by decide +kernel) b6, bi _ _ (by decide +kernel) b7, bi _ _ (by decide +kernel) b8, bi _ _ (by decide +kernel) b9⟩
    obtain ⟨a, o, pm, code, doc, f1, f2, f3, f4⟩ := hfn (recAt 15 "suffixed_err") (List.mem_of_getElem? (i := 6) rfl)
    rw [f1] at t1; cases t1
    rw [f2] at t2; cases t2
    rw [f3] at t3; cases t3
    cases t4
    exact ⟨_, _, pm, doc, f1, base_get hT f2 (fun q => by rw [q] at f3; cases f3), f3, base_code hT f4⟩
  · exact (fn 22 "law" (List.mem_of_getElem? (i := 12) rfl)).at_
end Mine
end

section
open PySem PySem.W PyProof.Rows PySem.Calls
set_option maxRecDepth 100000
set_option maxHeartbeats 4000000
namespace Mine

noncomputable abbrev lw := PySem.Challenge.rw_nb0102_01
noncomputable abbrev rw0 : RowW := lw.row.toRowW

theorem ints_of_has : ∀ {xs : List WData}, WShape.hasItems [] xs .int = true → ∃ ns : List Int, xs = ns.map .int
  | [], _ => ⟨[], rfl⟩
  | x :: xs, h => by
    have h : (WShape.has [] x .int && WShape.hasItems [] xs .int) = true := h
    obtain ⟨h1, h2⟩ := Bool.and_eq_true_iff.mp h
    obtain ⟨ns, rfl⟩ := ints_of_has h2
    cases x with
    | int i => exact ⟨i :: ns, rfl⟩
    | _ => exact Bool.noConfusion (show false = true from h1)
theorem args_of_pre {args : List WData} (h : rw0.claim.pre args = true) : ∃ ns : List Int, args = [.list (ns.map .int)] ∧ ns.length ≤ 63 := by
  obtain ⟨h1, h2⟩ := pre_splitW h
  have h1 : WShape.hasAll [] args [.list .int] = true := h1
  cases args with
  | nil => exact Bool.noConfusion (show false = true from h1)
  | cons x r =>
    cases r with
    | cons y r =>
      have h1 : (WShape.has [] x (.list .int) && false) = true := h1
      rw [Bool.and_false] at h1; cases h1
    | nil =>
      have h1 : (WShape.has [] x (.list .int) && true) = true := h1
      rw [Bool.and_true] at h1
      cases x with
      | list xs =>
        have h1 : (WShape.hasItems [] xs .int || false) = true := h1
        rw [Bool.or_false] at h1
        obtain ⟨ns, rfl⟩ := ints_of_has h1
        refine ⟨ns, rfl, ?_⟩
        have h2 : WTm.holds [] (.and (.not (.lt (.lit (.int 63)) (.len (.arg 0)))) (.lit (.bool true))) { args := [.list (ns.map .int)] } = true := h2
        by_cases hn : ns.length ≤ 63
        · exact hn
        · exfalso
          simp [WTm.holds, WTm.value, less?, Num.less?] at h2
          have hlt : (63 : Int) < ((ns.length : Nat) : Int) := by omega
          simp [hlt] at h2
      | _ => exact Bool.noConfusion (show false = true from h1)

theorem rd_ints {h h' : Heap} : ∀ {vs : List Value} {ns : List Int}, RdAll h vs (ns.map .int) → RdAll h' vs (ns.map .int)
  | _, [], r => by rw [r.nil_inv]; exact .nil
  | _, n :: ns, r => by
    obtain ⟨v, us, rfl, h1, h2⟩ := r.cons_inv
    obtain ⟨t, rfl⟩ := h1.int_inv
    exact .cons .int (rd_ints h2)
theorem rdW_ints {cl : Str → Option Addr} {h : Heap} : ∀ {vs : List Value} {ns : List Int} {as : List Addr}, ReadsAllW [] cl h vs (ns.map .int) as → RdAll h vs (ns.map .int)
  | _, [], _, r => by cases r; exact .nil
  | _, n :: ns, _, r => by
    cases r with
    | cons a b =>
      cases a
      exact .cons .int (rdW_ints b)

theorem law_runs {w : World} {s s₁ : Shared} (hg : s.heap.isNs mainGlobals = true) (G0 : Ground qV looseV [] (fun _ _ => True) w s (s.heap.nsMap mainGlobals) (s.heap.nsMap builtinsNs) s.heap) (hS : SetsOk w s.heap)
    (keeps : ∀ b o, s.heap.get? b = some o → s₁.heap.get? b = some o) {ns : List Int} (hlen : ns.length ≤ 63) {cl : Str → Option Addr} {vs : List Value} {as : List Addr} (hrd : ReadsAllW [] cl s₁.heap vs [.list (ns.map .int)] as)
    {Q : Fin → Shared → Prop} {E : Value → Shared → Prop}
    (hQ : ∀ h' tk, (∀ b o, s₁.heap.get? b = some o → asItWas s₁.heap h' b o) → (∀ b o, s₁.heap.get? b = some o → o.cls ≠ .none → h'.get? b = some o) → Q (.done (.ret (.bool true))) { s₁ with gens := #[], heap := h', toks := tk }) :
    wpAny (model pw w) callerA (do match ← nsGet mainNs rw0.name with
      | some f => do ret (← PySem.call f vs)
      | none => unsupported "claim.caller:no-such-global") Q E { s₁ with gens := #[] } := by
  obtain ⟨G, K, F, ⟨hbs, hP, hcode⟩, hmg, f, o, pm, cd, doc, hf, ho, hd, hc⟩ := glb_of G0 hS
  cases hrd with
  | cons ra rb =>
  cases rb
  cases ra with
  | list e1 e2 e3 e4 =>
  rename_i a oa va na as'
  have hgm : s₁.heap.Ns mainGlobals (s.heap.nsMap mainGlobals) := (Heap.Ns.of_isNs hg).keeps keeps
  have hP₁ : s₁.heap.get? G.P = some (tabObj #[]) := keeps _ _ hP
  have haP : a ≠ G.P := by
    rintro rfl
    rw [hP₁] at e1; cases e1; cases e2
  refine wpAny_bind (wpAny_nsGet (s := { s₁ with gens := #[] }) hgm ?_)
  rw [← hmg]
  have hf' : G.mg rw0.name = some (.ref f) := hf
  rw [hf']
  refine wpAny_bind ?_
  refine law_spec (outer := []) (script := ns) (G := G) K F ⟨fun b o e => keeps _ _ (hbs b o e), trivial, #[], hP₁, .inl rfl⟩ rfl (by decide) (by decide) rfl (by omega) ?_ ho hd hc fun h' tk X T' => wpAny_pure ?_
  · obtain ⟨_, r⟩ := rd_ints (h' := grd G [] s₁.heap) (rdW_ints e4)
    refine ⟨_, .list (hideAll_get _ e1 fun q => ?_) e2 e3 r⟩
    exact haP (List.mem_singleton.mp q)
  · obtain ⟨ps, hP', hps⟩ := T'
    have hold' : ∀ b o, s₁.heap.get? b = some o → b ≠ G.P → h'.get? b = some o := fun b o e hb => X.same b o e (fun q => nomatch q) hb
    refine hQ h' tk (fun b o e => ?_) fun b o e hc => hold' b o e fun q => ?_
    · by_cases hb : b = G.P
      · subst hb
        rw [hP₁] at e; cases e
        obtain ⟨oc, vc, _, _, _, _, _, _, _, q1, q2, q3, q4, _⟩ := hcode
        exact .inr (.inl ⟨⟨G.c, oc, vc, keeps _ _ q1, q2, q3, q4⟩, rfl, #[], ps, rfl, by rw [hP']; simp⟩)
      · exact .inl (hold' b o e hb)
    · subst q
      rw [hP₁] at e; cases e; exact hc rfl

theorem row_holds (said : lw.row.wellSaid = true) : lw.row.Holds := by
  have hw : rw0.promised := ⟨[.list [.int 3, .int 1]], by decide +kernel, by decide +kernel⟩
  refine ⟨said, hw, ⟨⟨rfl, rfl, rfl, rfl, rfl, by kernel_rfl⟩, by kernel_rfl, by rfl⟩, hw.witness, fun w => ⟨(head w).1, fun s' hs' => ?_⟩⟩
  obtain ⟨s₀, hf, hg0, s, hT, hz, hgens, hg, G0, hS⟩ := (head w).2 s' hs'
  refine ⟨s₀, hf, hg0, s, hT, fun n hn => ?_, (fun x hx => nomatch hx), (fun x hx => nomatch hx), ?_⟩
  · have hn : n = "law" := List.mem_singleton.mp hn
    subst hn
    exact pinned_of_view (q := qV) (d := recAt 22 "law") (kwd := []) hg G0 (by kernel_rfl) (by kernel_rfl) (by kernel_rfl)
  refine ClaimW.callFrom_of_specN (c := rw0.claim) (tree := fun vs => do match ← nsGet mainNs rw0.name with
      | some f => do ret (← PySem.call f vs)
      | none => unsupported "claim.caller:no-such-global") hz hgens fun args hpre hlay ord hord => ?_
  obtain ⟨⟨vs, s₁⟩, hlaid⟩ := Option.isSome_iff_exists.mp (layAllW_isSome (P := w.params) (ord := ord) G0.has args rw0.args s (pre_splitW hpre).1)
  have keeps := layAllW_keeps _ _ _ hlaid
  have hal := layAllW_rest _ _ _ hlaid
  obtain ⟨as, hrd, hin, hold⟩ := reads_layAllW hord _ _ _ hlaid hlay s₁.heap (fun _ _ e => e)
  refine ⟨vs, s₁, hlaid, ?_⟩
  obtain ⟨ns, rfl, hlen⟩ := args_of_pre hpre
  refine law_runs hg G0 hS keeps hlen hrd fun h' tk was hcls => ?_
  refine ⟨_, rfl, .inl ⟨.bool true, rfl, fun _ => rfl, ⟨.bool true, _, [], _, .bool _, hrd.keepsK hcls, ?_, fun _ => ⟨.nil, (fun _ q => nomatch q), fun _ q => nomatch q⟩, fun _ _ => ?_⟩, (fun i q => nomatch q), (fun b o e _ _ => was b o e), fun i q => nomatch q⟩, hal.2.2.1, rfl, fun q => nomatch q⟩
  · show (WShape.has [] (.bool true) .bool && WTm.holds [] (.eq .res (.lit (.bool true))) { args := [.list (ns.map .int)], res := some (.bool true), after := [.list (ns.map .int)] }) = true
    have hs : same (.bool true) (.bool true) = true := by decide +kernel
    refine Bool.and_eq_true_iff.mpr ⟨rfl, ?_⟩
    show (match some (WData.bool (same (.bool true) (.bool true))) with | some (.bool true) => true | _ => false) = true
    rw [hs]
  · exact ident_freeW (r := rw0) rfl rfl rfl _ _
end Mine
end

open PySem PySem.W PyProof.Rows
set_option maxRecDepth 100000 in
set_option maxHeartbeats 8000000 in
theorem PySem.Challenge.cw_nb0102_01_holds : PySem.Challenge.rw_nb0102_01.Holds :=
  holds_law (by kernel_rfl) fun said => Mine.row_holds said
