import PyProof.Rows.All
import Wide.All
import OpenK.AllK
import Wide.FinOn
import PySem.Challenge.RW_bn5022_01
open PySem PySem.W PyProof.Rows
set_option Elab.async false
set_option linter.unusedVariables false
namespace Mine
set_option maxRecDepth 100000 in
set_option maxHeartbeats 8000000 in
open_top hd for PySem.Challenge.rw_bn5022_01
end Mine
set_option maxRecDepth 100000
set_option maxHeartbeats 4000000
namespace Mine
-- PART B0 --
section
open PySem
theorem upd_size (h : Heap) (a : Addr) (f : Obj → Obj) : (h.update a f).objs.size = h.objs.size := (Heap.SameBut.update (h := h) (a := a) (f := f)).1
theorem runs_size {M : Model} {Γ : Ctx} {p : Pos} {t : Sem Fin} {fs : List Frame} {s s' : Shared} {e : End} (h : Runs M Γ p t fs s e s') : s.heap.objs.size ≤ s'.heap.objs.size := by
  induction h <;> (try simp only [Shared.setGen, Heap.size_push, upd_size] at *) <;> omega
theorem wakes_size {M : Model} {Γ : Ctx} {p : Pos} {g : Nat} {r : Resume} {s s' : Shared} {res : GenResult} (h : Wakes M Γ p g r s res s') : s.heap.objs.size ≤ s'.heap.objs.size := by
  unfold Wakes at h
  split at h
  · exact h.elim
  · split at h
    · obtain ⟨e₁, s₁, hr, _, _, rfl⟩ := h; exact (runs_size hr : (s.setGen g .running).heap.objs.size ≤ s₁.heap.objs.size)
    · rw [h.2]; exact Nat.le_refl _
    · rw [h.2]; exact Nat.le_refl _
  · obtain ⟨e₁, s₁, hr, _, _, rfl⟩ := h; exact (runs_size hr : (s.setGen g .running).heap.objs.size ≤ s₁.heap.objs.size)
  · rw [h.2]; exact Nat.le_refl _
  · rw [h.2]; exact Nat.le_refl _
theorem wp_size {α : Type} (M : Model) (Γ : Ctx) (n : Nat) (t : Sem α) : ∀ (Q : α → Pos → Shared → Prop) (E : Value → Pos → Shared → Prop) (p : Pos) (s : Shared), n ≤ s.heap.objs.size → Sem.wp M Γ t Q E p s →
    Sem.wp M Γ t (fun a p' s' => n ≤ s'.heap.objs.size ∧ Q a p' s') (fun e p' s' => n ≤ s'.heap.objs.size ∧ E e p' s') p s := by
  induction t with
  | pure a => intro Q E p s hn h; exact ⟨hn, h⟩
  | raise e => intro Q E p s hn h; exact ⟨hn, h⟩
  | unsupported _ => intro Q E p s _ h; exact h
  | finish _ => intro Q E p s _ h; exact h
  | rule _ k ih => intro Q E p s hn h; exact ih () Q E p s hn h
  | «at» p' k ih => intro Q E p s hn h; exact ih () Q E p' s hn h
  | load a _ k ih => intro Q E p s hn h; obtain ⟨o, ho, h⟩ := h; exact ⟨o, ho, ih o Q E p s hn h⟩
  | update a _ f k ih => intro Q E p s hn h; exact ⟨h.1, ih () Q E p _ (by first | exact hn | (show n ≤ (Heap.update _ _ _).objs.size; rw [upd_size]; exact hn)) h.2⟩
  | loadIfAlive a k ih => intro Q E p s hn h; exact ih _ Q E p s hn h
  | point _ k ih => intro Q E p s hn h; exact ih () Q E p s hn h
  | register _ _ => intro Q E p s _ h; exact h
  | alloc o k ih => intro Q E p s hn h; exact ih _ Q E p _ (by show n ≤ (Heap.push _ _).objs.size; rw [Heap.size_push]; exact Nat.le_succ_of_le hn) h
  | fresh k ih => intro Q E p s hn h; exact ih _ Q E p _ hn h
  | ask k ih => intro Q E p s hn h; exact ih _ Q E p s hn h
  | choose src m k ih => intro Q E p s hn h; exact ⟨h.1, ih _ Q E p _ hn h.2⟩
  | os q _ k ih => intro Q E p s hn h; exact ih _ Q E p _ hn h
  | call c hd _ _ k ih => intro Q E p s hn h; obtain ⟨r, s', hr, h⟩ := h; exact ⟨r, s', hr, ih r Q E p s' (Nat.le_trans hn (runs_size hr)) h⟩
  | handled own k ih => intro Q E p s hn h; exact ih _ Q E p s hn h
  | genState g k ih => intro Q E p s hn h; obtain ⟨st, hs, h⟩ := h; exact ⟨st, hs, ih _ Q E p s hn h⟩
  | newGen c k ih => intro Q E p s hn h; exact ih _ Q E p _ hn h
  | resume g r _ k ih => intro Q E p s hn h; obtain ⟨res, s', hw, h⟩ := h; exact ⟨res, s', hw, ih res Q E p s' (Nat.le_trans hn (wakes_size hw)) h⟩
  | yield _ _ _ _ => intro Q E p s _ h; exact h
  | stack k ih => intro Q E p s hn h; exact ih _ Q E p s hn h
  | fork _ _ => intro Q E p s _ h; exact h
  | thread k ih => intro Q E p s hn h; exact ih _ Q E p s hn h
  | await _ _ _ _ _ => intro Q E p s _ h; exact h
theorem withSize {α : Type} {M : Model} {A : Around} {s : Shared} {t : Sem α} {Q : α → Shared → Prop} {E : Value → Shared → Prop}
    (h : wpAny M A t (fun a s' => s.heap.objs.size ≤ s'.heap.objs.size → Q a s') (fun e s' => s.heap.objs.size ≤ s'.heap.objs.size → E e s') s) : wpAny M A t Q E s :=
  fun Γ p hΓ => Sem.wp_mono M Γ _ (fun _ _ _ x => x.2 x.1) (fun _ _ _ x => x.2 x.1) _ _ (wp_size M Γ _ t _ _ p s (Nat.le_refl _) (h Γ p hΓ))
end

-- PART B1 --
section
open PySem PySem.W PySem.Calls PyProof.Rows
abbrev Mem := Addr → Option Obj
noncomputable abbrev KK (w : World) : Frag := Mine.hd.heap_39 w.params
structure Base (w : World) (g : Mem) : Prop where
  K : ∀ a o, (KK w).lookup a = some o → g a = some o
  b : ∃ o es ep, g builtinsNs = some o ∧ o.data = .dict es ep ∧ StrKeys es ∧ ∀ x : Str, x ≠ "__name__" → nsFind es x = bootBuiltins x
abbrev Le (g g' : Mem) : Prop := ∀ b o, g b = some o → g' b = some o
theorem Le.refl (g : Mem) : Le g g := fun _ _ e => e
theorem Le.trans {a b c : Mem} (x : Le a b) (y : Le b c) : Le a c := fun _ _ e => y _ _ (x _ _ e)
theorem Base.mono {w : World} {g g' : Mem} (B : Base w g) (k : Le g g') : Base w g' :=
  ⟨fun a o e => k _ _ (B.K a o e), let ⟨o, es, ep, h1, h2⟩ := B.b; ⟨o, es, ep, k _ _ h1, h2⟩⟩
def strKeysB (es : Array DictEntry) : Bool := es.toList.all fun e => match e.key with | .str _ _ => true | _ => false
theorem strKeys_of {es : Array DictEntry} (h : strKeysB es = true) : StrKeys es := by
  intro e he
  have := List.all_eq_true.mp h e (Array.mem_toList_iff.mpr he)
  revert this
  cases e.key with
  | str n t => intro _; exact ⟨n, t, rfl⟩
  | _ => intro q; cases q
def nsOf (K : Frag) (a : Addr) : Str → Option Value := fun x => match K.lookup a with
  | some ⟨_, _, .dict es _, _⟩ => nsFind es x
  | _ => none
def nsOkB (K : Frag) (a : Addr) : Bool := match K.lookup a with
  | some ⟨_, _, .dict es _, _⟩ => strKeysB es
  | _ => false
theorem ns_of_K {K : Frag} {h : Heap} {a : Addr} (X : K.In h) (e : nsOkB K a = true) : h.Ns a (nsOf K a) := by
  unfold nsOkB at e
  split at e
  · rename_i c d es n sl q
    refine ⟨_, es, n, X _ _ q, rfl, strKeys_of e, fun x => ?_⟩
    unfold nsOf; rw [q]
  · cases e
theorem okG (P : Params) : nsOkB (Mine.hd.heap_39 P) mainGlobals = true := by kernel_rfl
theorem okS (P : Params) : nsOkB (Mine.hd.heap_39 P) cStatics = true := by kernel_rfl
theorem noLim (P : Params) : nsOf (Mine.hd.heap_39 P) cStatics "sys.recursionlimit" = none := by kernel_rfl
theorem Base.glob {w : World} {h : Heap} (B : Base w h.get?) : h.Ns mainGlobals (nsOf (KK w) mainGlobals) := ns_of_K B.K (okG _)
theorem Base.nolimit {w : World} {h : Heap} (B : Base w h.get?) : h.NoLimit := ⟨_, ns_of_K B.K (okS _), noLim _⟩
theorem Base.bns {w : World} {h : Heap} (B : Base w h.get?) : ∃ mb, h.Ns builtinsNs mb ∧ ∀ x : Str, x ≠ "__name__" → mb x = bootBuiltins x :=
  let ⟨o, es, ep, h1, h2, h3, h4⟩ := B.b; ⟨nsFind es, ⟨o, es, ep, h1, h2, h3, fun _ => rfl⟩, h4⟩
structure St (w : World) (s₀ : Shared) (g₀ : Mem) (X : List Addr) (L : Addr) (m : Str → Option Value) (c : List (Addr × Obj)) (g : Mem) (s : Shared) : Prop where
  base : Base w g₀
  ns : s.heap.Ns L m
  keep : ∀ b o, b ∉ X → s₀.heap.get? b = some o → s.heap.get? b = some o
  above : s₀.heap.objs.size ≤ L ∨ L ∈ X
  gg : ∀ b o, g b = some o → s.heap.get? b = some o
  grow : ∀ b o, g₀ b = some o → g b = some o
  low : ∀ b, b < s₀.heap.objs.size → g b = g₀ b
  gL : g L = none
  cc : ∀ p ∈ c, s.heap.get? p.1 = some p.2 ∧ p.1 ≠ L ∧ g p.1 = none ∧ (s₀.heap.objs.size ≤ p.1 ∨ p.1 ∈ X)
  nd : (c.map (·.1)).Nodup
  gens : s.gens = s₀.gens
  os : s.os = s₀.os
  size : s₀.heap.objs.size ≤ s.heap.objs.size
structure Post (X : List Addr) (s : Shared) (g : Mem) (s' : Shared) (g' : Mem) : Prop where
  keep : ∀ b o, b ∉ X → s.heap.get? b = some o → s'.heap.get? b = some o
  size : s.heap.objs.size ≤ s'.heap.objs.size
  gg : ∀ b o, g' b = some o → s'.heap.get? b = some o
  grow : ∀ b o, g b = some o → g' b = some o
  low : ∀ b, b < s.heap.objs.size → g' b = g b
  gens : s'.gens = s.gens
  os : s'.os = s.os
section
variable {w : World} {s₀ s s' : Shared} {g₀ g g' : Mem} {X : List Addr} {L : Addr} {m : Str → Option Value} {c : List (Addr × Obj)}
theorem St.post (S : St w s₀ g₀ X L m c g s) : Post X s₀ g₀ s g := ⟨S.keep, S.size, S.gg, S.grow, S.low, S.gens, S.os⟩
theorem St.baseG (S : St w s₀ g₀ X L m c g s) : Base w g := S.base.mono S.grow
theorem St.baseH (S : St w s₀ g₀ X L m c g s) : Base w s.heap.get? := S.baseG.mono S.gg
theorem St.lt (S : St w s₀ g₀ X L m c g s) : L < s.heap.objs.size := S.ns.lt
theorem St.after (S : St w s₀ g₀ X L m c g s) (P : Post [] s g s' g') : St w s₀ g₀ X L m c g' s' := by
  have k : ∀ b o, s.heap.get? b = some o → s'.heap.get? b = some o := fun b o e => P.keep b o (by simp) e
  refine ⟨S.base, S.ns.keeps k, fun b o hb e => k _ _ (S.keep b o hb e), S.above, P.gg, fun b o e => P.grow _ _ (S.grow _ _ e), fun b hb => ?_, ?_, fun p hp => ?_, S.nd, P.gens.trans S.gens, P.os.trans S.os, Nat.le_trans S.size P.size⟩
  · rw [P.low b (Nat.lt_of_lt_of_le hb S.size)]; exact S.low b hb
  · rw [P.low L S.lt]; exact S.gL
  · obtain ⟨h1, h2, h3, h4⟩ := S.cc p hp
    exact ⟨k _ _ h1, h2, by rw [P.low _ (Heap.lt_size h1)]; exact h3, h4⟩
theorem St.toks (S : St w s₀ g₀ X L m c g s) (t : Nat) : St w s₀ g₀ X L m c g { s with toks := t } := ⟨S.base, S.ns, S.keep, S.above, S.gg, S.grow, S.low, S.gL, S.cc, S.nd, S.gens, S.os, S.size⟩
theorem St.ext (S : St w s₀ g₀ X L m c g s) {h' : Heap} {t : Nat} (k : ∀ b o, s.heap.get? b = some o → h'.get? b = some o) (hz : s.heap.objs.size ≤ h'.objs.size) : St w s₀ g₀ X L m c g { s with heap := h', toks := t } :=
  S.after (s' := { s with heap := h', toks := t }) ⟨fun b o _ e => k b o e, hz, fun b o e => k _ _ (S.gg b o e), fun _ _ e => e, fun _ _ => rfl, rfl, rfl⟩
theorem St.push (S : St w s₀ g₀ X L m c g s) (o : Obj) (t : Nat) : St w s₀ g₀ X L m c g { s with heap := s.heap.push o, toks := t } :=
  S.ext (fun _ _ e => Heap.get?_push_of_some _ e) (by rw [Heap.size_push]; exact Nat.le_succ _)
def Mem.put (g : Mem) (a : Addr) (o : Obj) : Mem := fun b => if b = a then some o else g b
theorem Mem.put_self (g : Mem) (a : Addr) (o : Obj) : g.put a o a = some o := if_pos rfl
theorem Mem.put_ne (g : Mem) {a b : Addr} (o : Obj) (h : b ≠ a) : g.put a o b = g b := if_neg h
theorem Mem.le_put {g : Mem} {a : Addr} {o : Obj} (h : g a = none) : Le g (g.put a o) := fun b o' e => by
  by_cases q : b = a
  · subst q; rw [h] at e; cases e
  · rw [Mem.put_ne _ _ q]; exact e
theorem St.none_at (S : St w s₀ g₀ X L m c g s) {a : Addr} (h : s.heap.get? a = none) : g a = none := by
  cases q : g a with
  | none => rfl
  | some o => rw [S.gg _ _ q] at h; cases h
theorem get_size (h : Heap) : h.get? h.objs.size = none := by
  cases q : h.get? h.objs.size with
  | none => rfl
  | some o => exact absurd (Heap.lt_size q) (Nat.lt_irrefl _)
theorem St.pushF (S : St w s₀ g₀ X L m c g s) (o : Obj) (t : Nat) (hf : o.isFreed = false := by rfl) : St w s₀ g₀ X L m c (g.put s.heap.objs.size o) { s with heap := s.heap.push o, toks := t } := by
  have hn := S.none_at (get_size s.heap)
  refine S.after (s' := { s with heap := s.heap.push o, toks := t }) ⟨fun b o' _ e => Heap.get?_push_of_some _ e, by show _ ≤ (s.heap.push o).objs.size; rw [Heap.size_push]; exact Nat.le_succ _, fun b o' e => ?_, Mem.le_put hn, fun b hb => Mem.put_ne _ _ (Nat.ne_of_lt hb), rfl, rfl⟩
  by_cases q : b = s.heap.objs.size
  · subst q; rw [Mem.put_self] at e; cases e; exact Heap.get?_push_size _ hf
  · rw [Mem.put_ne _ _ q] at e; exact Heap.get?_push_of_some _ (S.gg _ _ e)
theorem St.pushC (S : St w s₀ g₀ X L m c g s) (o : Obj) (t : Nat) (hf : o.isFreed = false := by rfl) : St w s₀ g₀ X L m ((s.heap.objs.size, o) :: c) g { s with heap := s.heap.push o, toks := t } := by
  have S' := S.push o t
  refine { S' with cc := fun p hp => ?_, nd := ?_ }
  · rcases List.mem_cons.mp hp with rfl | hp
    · exact ⟨Heap.get?_push_size _ hf, Nat.ne_of_gt S.lt, S.none_at (get_size _), .inl S.size⟩
    · exact S'.cc p hp
  · rw [List.map_cons, List.nodup_cons]
    refine ⟨fun hm => ?_, S.nd⟩
    obtain ⟨p, hp, e⟩ := List.mem_map.mp hm
    have := Heap.lt_size (S.cc p hp).1
    rw [e] at this
    exact Nat.lt_irrefl _ this
theorem St.frame (S : St w s₀ g₀ X L m c g s) {h' : Heap} {m' : Str → Option Value} {t : Nat} (hn : h'.Ns L m') (hs : Heap.SameBut L s.heap h') : St w s₀ g₀ X L m' c g { s with heap := h', toks := t } := by
  have k : ∀ b o, b ≠ L → s.heap.get? b = some o → h'.get? b = some o := fun b o hb e => (hs.2 b hb).trans e
  refine ⟨S.base, hn, fun b o hb e => ?_, S.above, fun b o e => ?_, S.grow, S.low, S.gL, fun p hp => ?_, S.nd, S.gens, S.os, Nat.le_trans S.size (Nat.le_of_eq hs.1.symm)⟩
  · refine k _ _ (fun q => ?_) (S.keep b o hb e)
    subst q
    rcases S.above with z | z
    · exact absurd (Heap.lt_size e) (Nat.not_lt.mpr z)
    · exact hb z
  · refine k _ _ (fun q => ?_) (S.gg _ _ e)
    rw [q, S.gL] at e; cases e
  · obtain ⟨h1, h2, h3⟩ := S.cc p hp
    exact ⟨k _ _ h2 h1, h2, h3⟩
end
end

-- PART B2 --
section
open PySem PySem.W PySem.Calls PyProof.Rows
structure Room (A : Around) (k : Nat) : Prop where
  hd : A.handled = none
  dp : A.depth + k < recursionLimit
  un : A.units + 4 * k + 4 < cLine
theorem Room.deeper {A : Around} {k : Nat} (r : Room A (k + 1)) (env : Env) : Room (A.deeper env) k :=
  ⟨r.hd, by have := r.dp; show A.depth + 1 + k < _; omega, by have := r.un; show A.units + 3 + 4 * k + 4 < _; omega⟩
theorem Room.lt {A : Around} {k : Nat} (r : Room A k) : A.depth < recursionLimit := Nat.lt_of_le_of_lt (Nat.le_add_right _ _) r.dp
theorem Room.mono {A : Around} {k j : Nat} (r : Room A k) (h : j ≤ k) : Room A j := ⟨r.hd, by have := r.dp; omega, by have := r.un; omega⟩
section
variable {w : World} {s₀ s s' : Shared} {g₀ g g' : Mem} {X : List Addr} {L : Addr} {m : Str → Option Value} {c : List (Addr × Obj)}
theorem St.upd {pre post : List (Addr × Obj)} {a : Addr} {o o' : Obj} (S : St w s₀ g₀ X L m (pre ++ (a, o) :: post) g s) {h' : Heap} {t : Nat} (hs : ∀ b o, b ≠ a → s.heap.get? b = some o → h'.get? b = some o)
    (ho : h'.get? a = some o') (hz : s.heap.objs.size ≤ h'.objs.size) : St w s₀ g₀ X L m (pre ++ (a, o') :: post) g { s with heap := h', toks := t } := by
  have ha := S.cc (a, o) (by simp)
  have hnd := S.nd
  rw [List.map_append, List.map_cons] at hnd
  have hnd' := (List.nodup_append.mp hnd)
  refine ⟨S.base, ?_, fun b o hb e => ?_, S.above, fun b o e => hs _ _ (fun q => ?_) (S.gg _ _ e), S.grow, S.low, S.gL, fun p hp => ?_, ?_, S.gens, S.os, Nat.le_trans S.size hz⟩
  · obtain ⟨oL, es, ep, h1, r⟩ := S.ns
    exact ⟨oL, es, ep, hs _ _ (Ne.symm ha.2.1) h1, r⟩
  · rcases ha.2.2.2 with h | h
    · exact hs _ _ (Nat.ne_of_lt (Nat.lt_of_lt_of_le (Heap.lt_size e) h)) (S.keep b o hb e)
    · exact hs _ _ (fun q => hb (q ▸ h)) (S.keep b o hb e)
  · rw [q, ha.2.2.1] at e; cases e
  · rcases List.mem_append.mp hp with hp | hp
    · have z := S.cc p (List.mem_append_left _ hp)
      exact ⟨hs _ _ (fun q => hnd'.2.2 _ (List.mem_map_of_mem hp) _ (List.mem_cons_self ..) q) z.1, z.2⟩
    · rcases List.mem_cons.mp hp with rfl | hp
      · exact ⟨ho, ha.2⟩
      · have z := S.cc p (List.mem_append_right _ (List.mem_cons_of_mem _ hp))
        refine ⟨hs _ _ (fun q => ?_) z.1, z.2⟩
        have := (List.nodup_cons.mp hnd'.2.1).1
        exact this (List.mem_map.mpr ⟨p, hp, q⟩)
  · rw [List.map_append, List.map_cons]; exact hnd
theorem St.upd0 {a : Addr} {o o' : Obj} (S : St w s₀ g₀ X L m ((a, o) :: c) g s) {h' : Heap} {t : Nat} (hs : ∀ b o, b ≠ a → s.heap.get? b = some o → h'.get? b = some o)
    (ho : h'.get? a = some o') (hz : s.heap.objs.size ≤ h'.objs.size) : St w s₀ g₀ X L m ((a, o') :: c) g { s with heap := h', toks := t } := St.upd (pre := []) S hs ho hz
theorem St.cell0 {a : Addr} {o : Obj} (S : St w s₀ g₀ X L m ((a, o) :: c) g s) : s.heap.get? a = some o := (S.cc _ (List.mem_cons_self ..)).1
theorem St.cell {a : Addr} {o : Obj} (S : St w s₀ g₀ X L m c g s) (h : (a, o) ∈ c) : s.heap.get? a = some o := (S.cc _ h).1
theorem St.cells {c' : List (Addr × Obj)} (S : St w s₀ g₀ X L m c g s) (h : ∀ p ∈ c', p ∈ c) (hn : (c'.map (·.1)).Nodup) : St w s₀ g₀ X L m c' g s := { S with cc := fun p hp => S.cc p (h p hp), nd := hn }
theorem St.drop {p : Addr × Obj} (S : St w s₀ g₀ X L m (p :: c) g s) : St w s₀ g₀ X L m c g s :=
  S.cells (fun _ h => List.mem_cons_of_mem _ h) (by have := S.nd; rw [List.map_cons] at this; exact (List.nodup_cons.mp this).2)
theorem St.swap {p q : Addr × Obj} (S : St w s₀ g₀ X L m (p :: q :: c) g s) : St w s₀ g₀ X L m (q :: p :: c) g s :=
  S.cells (fun x h => by simp only [List.mem_cons] at h ⊢; rcases h with h | h | h <;> simp [h]) (by
    have := S.nd
    simp only [List.map_cons, List.nodup_cons, List.mem_cons, not_or] at this ⊢
    exact ⟨⟨Ne.symm this.1.1, this.2.1⟩, this.1.2, this.2.2⟩)
theorem St.freezeN {a : Addr} {o : Obj} (S : St w s₀ g₀ X L m ((a, o) :: c) g s) (n0 : s₀.heap.objs.size ≤ a) : St w s₀ g₀ X L m c (g.put a o) s := by
  have z := S.cc (a, o) (List.mem_cons_self ..)
  have nd := S.nd
  rw [List.map_cons, List.nodup_cons] at nd
  refine ⟨S.base, S.ns, S.keep, S.above, fun b o' e => ?_, fun b o' e => Mem.le_put z.2.2.1 _ _ (S.grow _ _ e), fun b hb => ?_, ?_, fun p hp => ?_, nd.2, S.gens, S.os, S.size⟩
  · by_cases q : b = a
    · subst q; rw [Mem.put_self] at e; cases e; exact z.1
    · rw [Mem.put_ne _ _ q] at e; exact S.gg _ _ e
  · rw [Mem.put_ne _ _ (Nat.ne_of_lt (Nat.lt_of_lt_of_le hb n0))]; exact S.low b hb
  · rw [Mem.put_ne _ _ (Ne.symm z.2.1)]; exact S.gL
  · have y := S.cc p (List.mem_cons_of_mem _ hp)
    refine ⟨y.1, y.2.1, ?_, y.2.2.2⟩
    have hne : p.1 ≠ a := fun q => nd.1 (List.mem_map.mpr ⟨p, hp, q⟩)
    rw [Mem.put_ne _ _ hne]
    exact y.2.2.1
theorem St.freeze {a : Addr} {o : Obj} (S : St w s₀ g₀ X L m ((a, o) :: c) g s) (ha : a ∉ X) : St w s₀ g₀ X L m c (g.put a o) s :=
  S.freezeN ((S.cc (a, o) (List.mem_cons_self ..)).2.2.2.resolve_right ha)
end
def up (m : Str → Option Value) (x : Str) (v : Value) : Str → Option Value := fun y => if y = x then some v else m y
theorem up_self (m : Str → Option Value) (x : Str) (v : Value) : up m x v x = some v := if_pos rfl
theorem up_ne {m : Str → Option Value} {x y : Str} (v : Value) (h : y ≠ x) : up m x v y = m y := if_neg h
section
variable {prog : Program} {w : World} {A : Around} {E : Value → Shared → Prop} {s₀ s s' : Shared} {g₀ g g' : Mem} {X : List Addr} {L : Addr} {m : Str → Option Value} {c : List (Addr × Obj)} {env : Env}
theorem ld {x : Str} {pos : Pos} {v : Value} {Q : Value → Shared → Prop} (S : St w s₀ g₀ X L m c g s) (hv : m x = some v) (h : Q v s) (hL : env.locals = L := by rfl)
    (hk : env.scope.kind = .function := by rfl) (hl : env.kindOf x = some .local := by rfl) (hd : (x == ("__debug__" : Str)) = false := by decide) :
    wpAny (model prog w) A (eval (.Name x pos) env) Q E s := by subst hL; exact wpAny_Name (wpAny_loadName_local hk hl S.ns hv h) hd
theorem ldN {x : Str} {v : Value} {Q : Value → Shared → Prop} (S : St w s₀ g₀ X L m c g s) (hv : m x = some v) (h : Q v s) (hL : env.locals = L := by rfl)
    (hk : env.scope.kind = .function := by rfl) (hl : env.kindOf x = some .local := by rfl) :
    wpAny (model prog w) A (loadName env x) Q E s := by subst hL; exact wpAny_loadName_local hk hl S.ns hv h
theorem ldg {x : Str} {pos : Pos} {v : Value} {Q : Value → Shared → Prop} (S : St w s₀ g₀ X L m c g s) (hv : nsOf (KK w) mainGlobals x = some v) (h : Q v s) (hg : env.globals = mainGlobals := by rfl)
    (hk : env.scope.kind = .function := by rfl) (hx : env.kindOf x = some .globalImplicit := by rfl) (hd : (x == ("__debug__" : Str)) = false := by decide) :
    wpAny (model prog w) A (eval (.Name x pos) env) Q E s := Name_function_global hk hx (loadGlobal_global (hg ▸ S.baseH.glob) hv h) hd
theorem ldb {x : Str} {pos : Pos} {v : Value} {Q : Value → Shared → Prop} (S : St w s₀ g₀ X L m c g s) (hn : nsOf (KK w) mainGlobals x = none) (hv : bootBuiltins x = some v) (h : Q v s) (hm : x ≠ "__name__" := by decide) (hg : env.globals = mainGlobals := by rfl) (hb : env.builtins = builtinsNs := by rfl)
    (hk : env.scope.kind = .function := by rfl) (hx : env.kindOf x = some .globalImplicit := by rfl) (hd : (x == ("__debug__" : Str)) = false := by decide) :
    wpAny (model prog w) A (eval (.Name x pos) env) Q E s := by
  obtain ⟨mb, h1, h2⟩ := S.baseH.bns
  exact Name_function_global hk hx (loadGlobal_builtin (hg ▸ S.baseH.glob) hn (hb ▸ h1) ((h2 x hm).trans hv) h) hd
theorem st {x : Str} {v : Value} {Q : Unit → Shared → Prop} (S : St w s₀ g₀ X L m c g s) (h : ∀ s', St w s₀ g₀ X L (up m x v) c g s' → Q () s') (hL : env.locals = L := by rfl)
    (hk : env.scope.kind = .function := by rfl) (hl : env.kindOf x = some .local := by rfl) :
    wpAny (model prog w) A (storeName env x v) Q E s := by
  subst hL
  refine wpAny_storeName_local hl S.ns (fun h' hn hs => h _ (S.frame hn hs)) ?_
  rw [hk]; rfl
theorem cint {i : Int} {k pos} {Q : Value → Shared → Prop} (S : St w s₀ g₀ X L m c g s) (h : ∀ t s', St w s₀ g₀ X L m c g s' → Q (.int i t) s') : wpAny (model prog w) A (eval (.Constant (.int i) k pos) env) Q E s :=
  wpAny_Constant_int (h _ _ (S.toks _))
theorem cstr {x : Str} {k pos} {Q : Value → Shared → Prop} (S : St w s₀ g₀ X L m c g s) (h : ∀ t s', St w s₀ g₀ X L m c g s' → Q (.str x t) s') : wpAny (model prog w) A (eval (.Constant (.str x) k pos) env) Q E s :=
  wpAny_Constant_str (h _ _ (S.toks _))
theorem enterX {R : Result → Shared → Prop} {c : List (Addr × Obj)} {name qual : Str} {params : Arguments} {body : List Stmt} {scope : Scope} {dV kV doc pm cdv ct oc : Value} {an od : Option Addr} {osl : Array (Option Value)} {f : Addr} {args : Args} {binds : List (Str × Value)}
    (B : Base w g) (hg : Le g s.heap.get?) (hc : ∀ p ∈ c, s.heap.get? p.1 = some p.2 ∧ g p.1 = none) (hnd : (c.map (·.1)).Nodup)
    (ho : (KK w).lookup f = some ⟨oc, od, .func (fnOf name qual params body scope dV kV doc pm an cdv ct), osl⟩) (hcd : codeIn (KK w) cdv qual = true) (hroom : A.depth < recursionLimit)
    (hbind : BindsTo s (fnOf name qual params body scope dV kV doc pm an cdv ct) args binds) (hloc : ∀ y ∈ binds, scope.names.lookup y.1 = some .local)
    (hcell : ∀ x ∈ scope.names, x.2 ≠ .cell)
    (h : ∀ L s', St w s g (c.map (·.1)) L (fun y => binds.reverse.lookup y) c g s' →
      wpAny (model prog w) (A.deeper (envOf qual scope L f cdv)) (execs body (envOf qual scope L f cdv)) (fun fl s'' => R (.ok (.ret (match fl with | .ret v => v | _ => .none))) s'') (fun _ _ => False) s')
    (hco : scope.isCoroutine = false := by rfl) (hgen : scope.isGenerator = false := by rfl) (hk : scope.kind = .function := by rfl) :
    codeAny (model prog w) A (.call (.ref f) args) R s := by
  have BH : Base w s.heap.get? := B.mono hg
  refine codeAny_call_def (fd := fnOf name qual params body scope dV kV doc pm an cdv ct) (body := body) (binds := binds) hroom (BH.K _ _ ho) rfl BH.nolimit (codeRec_of BH.K hcd) rfl hbind hcell hloc (fun h₁ hns hk₁ => ?_) hco hgen hk
  refine wpAny_mono (h s.heap.objs.size { s with heap := h₁, toks := s.toks + binds.length } ⟨B, hns, fun b o _ e => hk₁ b o e, .inl (Nat.le_refl _), fun b o e => hk₁ _ _ (hg _ _ e), fun _ _ e => e, fun _ _ => rfl, ?_, fun p hp => ?_, hnd, rfl, rfl, Nat.le_of_lt hns.lt⟩) (fun _ _ x => x) fun _ _ x => x.elim
  · cases q : g s.heap.objs.size with
    | none => rfl
    | some o => have := hg _ _ q; rw [get_size] at this; cases this
  · obtain ⟨h1, h2⟩ := hc p hp
    exact ⟨hk₁ _ _ h1, Nat.ne_of_lt (Heap.lt_size h1), h2, .inr (List.mem_map_of_mem hp)⟩
theorem enter {R : Result → Shared → Prop} {name qual : Str} {params : Arguments} {body : List Stmt} {scope : Scope} {dV kV doc pm cdv ct oc : Value} {an od : Option Addr} {osl : Array (Option Value)} {f : Addr} {args : Args} {binds : List (Str × Value)}
    (B : Base w g) (hg : Le g s.heap.get?)
    (ho : (KK w).lookup f = some ⟨oc, od, .func (fnOf name qual params body scope dV kV doc pm an cdv ct), osl⟩) (hcd : codeIn (KK w) cdv qual = true) (hroom : A.depth < recursionLimit)
    (hbind : BindsTo s (fnOf name qual params body scope dV kV doc pm an cdv ct) args binds) (hloc : ∀ y ∈ binds, scope.names.lookup y.1 = some .local)
    (hcell : ∀ x ∈ scope.names, x.2 ≠ .cell)
    (h : ∀ L s', St w s g [] L (fun y => binds.reverse.lookup y) [] g s' →
      wpAny (model prog w) (A.deeper (envOf qual scope L f cdv)) (execs body (envOf qual scope L f cdv)) (fun fl s'' => R (.ok (.ret (match fl with | .ret v => v | _ => .none))) s'') (fun _ _ => False) s')
    (hco : scope.isCoroutine = false := by rfl) (hgen : scope.isGenerator = false := by rfl) (hk : scope.kind = .function := by rfl) :
    codeAny (model prog w) A (.call (.ref f) args) R s := enterX (c := []) B hg (fun _ h => nomatch h) .nil ho hcd hroom hbind hloc hcell h hco hgen hk
end
end

-- PART B3 --
section
open PySem PySem.W PySem.Calls PyProof.Rows
structure Iter (prog : Program) (w : World) (A : Around) (it : Addr) (n : Nat) (Fz : Mem) (O : Nat → Obj → Prop) (V : Nat → Value → Prop) : Prop where
  item : ∀ {E : Value → Shared → Prop} {Q : Option Value → Shared → Prop} {s : Shared} {i : Nat} {o : Obj}, i < n → Le Fz s.heap.get? → s.heap.get? it = some o → O i o →
    (∀ v h' tk o', V i v → h'.get? it = some o' → O (i + 1) o' → (∀ b x, b ≠ it → s.heap.get? b = some x → h'.get? b = some x) → Q (some v) { s with heap := h', toks := tk }) → wpAny (model prog w) A (pyNext (.ref it)) Q E s
  done : ∀ {E : Value → Shared → Prop} {Q : Option Value → Shared → Prop} {s : Shared} {o : Obj}, Le Fz s.heap.get? → s.heap.get? it = some o → O n o →
    (∀ h', (∀ b x, b ≠ it → s.heap.get? b = some x → h'.get? b = some x) → Q none { s with heap := h' }) → wpAny (model prog w) A (pyNext (.ref it)) Q E s
section
variable {prog : Program} {w : World} {A : Around} {E : Value → Shared → Prop} {s₀ s s' : Shared} {g₀ g g' : Mem} {X : List Addr} {L : Addr} {m : Str → Option Value} {c : List (Addr × Obj)} {env : Env}
theorem St.lose {a : Addr} {o : Obj} (S : St w s₀ g₀ X L m ((a, o) :: c) g s) {h' : Heap} {t : Nat} (hs : ∀ b o, b ≠ a → s.heap.get? b = some o → h'.get? b = some o) (hz : s.heap.objs.size ≤ h'.objs.size) : St w s₀ g₀ X L m c g { s with heap := h', toks := t } := by
  have ha := S.cc (a, o) (List.mem_cons_self ..)
  have hnd := S.nd
  rw [List.map_cons, List.nodup_cons] at hnd
  refine ⟨S.base, ?_, fun b o hb e => ?_, S.above, fun b o e => hs _ _ (fun q => ?_) (S.gg _ _ e), S.grow, S.low, S.gL, fun p hp => ?_, hnd.2, S.gens, S.os, Nat.le_trans S.size hz⟩
  · obtain ⟨oL, es, ep, h1, r⟩ := S.ns
    exact ⟨oL, es, ep, hs _ _ (Ne.symm ha.2.1) h1, r⟩
  · rcases ha.2.2.2 with h | h
    · exact hs _ _ (Nat.ne_of_lt (Nat.lt_of_lt_of_le (Heap.lt_size e) h)) (S.keep b o hb e)
    · exact hs _ _ (fun q => hb (q ▸ h)) (S.keep b o hb e)
  · rw [q, ha.2.2.1] at e; cases e
  · have z := S.cc p (List.mem_cons_of_mem _ hp)
    exact ⟨hs _ _ (fun q => hnd.1 (List.mem_map.mpr ⟨p, hp, q⟩)) z.1, z.2⟩
theorem loop {R : Result → Shared → Prop} {target : Expr} {body orelse : List Stmt} {it : Addr} {o : Obj} {n : Nat} {O : Nat → Obj → Prop} {V : Nat → Value → Prop} {Fz : Mem}
    (S : St w s₀ g₀ X L m ((it, o) :: c) g s) (hO : O 0 o) (hFz : Le Fz g) (I : Iter prog w A it n Fz O V)
    (Inv : Nat → Mem → (Str → Option Value) → List (Addr × Obj) → Prop) (h0 : Inv 0 g m c)
    (turn : ∀ i g' m' c' s' o v E', i < n → V i v → Le g g' → Inv i g' m' c' → St w s₀ g₀ X L m' ((it, o) :: c') g' s' → O (i + 1) o →
      wpAny (model prog w) A (letOwnedTupleGo target (.ref it) v) (fun _ s₁ => wpAny (model prog w) A (assign target env v) (fun _ s₂ => wpAny (model prog w) A (execs body env) (fun f s₃ => match f with
        | .next | .cont => ∃ g'' m'' c'' o'', Le g g'' ∧ St w s₀ g₀ X L m'' ((it, o'') :: c'') g'' s₃ ∧ O (i + 1) o'' ∧ Inv (i + 1) g'' m'' c''
        | .brk => R (.ok .next) s₃
        | .ret v => R (.ok (.ret v)) s₃) E' s₂) E' s₁) E' s')
    (done : ∀ g' m' c' s' E', Le g g' → Inv n g' m' c' → St w s₀ g₀ X L m' c' g' s' → wpAny (model prog w) A (execs orelse env) (fun f s₃ => R (.ok f) s₃) E' s') :
    codeAny (model prog w) A (.forLoop target (.ref it) body orelse env) R s := by
  refine codeAny_forLoop_any (fun k s' => ∃ i g' m' c' o', k + i = n ∧ Le g g' ∧ St w s₀ g₀ X L m' ((it, o') :: c') g' s' ∧ O i o' ∧ Inv i g' m' c') ?_ n ⟨0, g, m, c, o, rfl, Le.refl _, S, hO, h0⟩
  rintro k s' ⟨i, g', m', c', o', hk, hle, S', hO', hI⟩
  by_cases hlt : i < n
  · refine withSize (I.item hlt ((hFz.trans hle).trans S'.gg) S'.cell0 hO' fun v h' tk o'' hv ho'' hO'' hs hz => ?_)
    refine wpAny_mono (turn i g' m' c' _ o'' v _ hlt hv hle hI (S'.upd0 hs ho'' hz) hO'') (fun _ s₁ h₁ => wpAny_mono h₁ (fun _ s₂ h₂ => wpAny_mono h₂ (fun f s₃ h₃ => ?_) fun _ _ x => x) fun _ _ x => x) fun _ _ x => x
    cases f with
    | next => obtain ⟨g₃, m₃, c₃, o₃, a, b, d, e⟩ := h₃; exact ⟨k - 1, by omega, i + 1, g₃, m₃, c₃, o₃, by omega, a, b, d, e⟩
    | cont => obtain ⟨g₃, m₃, c₃, o₃, a, b, d, e⟩ := h₃; exact ⟨k - 1, by omega, i + 1, g₃, m₃, c₃, o₃, by omega, a, b, d, e⟩
    | brk => exact h₃
    | ret v => exact h₃
  · have hin : i = n := by omega
    subst hin
    refine withSize (I.done ((hFz.trans hle).trans S'.gg) S'.cell0 hO' fun h' hs hz => ?_)
    exact done g' m' c' _ _ hle hI (S'.lose hs hz)
theorem loopN {R : Result → Shared → Prop} {x : Str} {px : Pos} {body orelse : List Stmt} {it : Addr} {o : Obj} {n : Nat} {O : Nat → Obj → Prop} {V : Nat → Value → Prop} {Fz : Mem}
    (S : St w s₀ g₀ X L m ((it, o) :: c) g s) (hO : O 0 o) (hFz : Le Fz g) (I : Iter prog w A it n Fz O V)
    (Inv : Nat → Mem → (Str → Option Value) → List (Addr × Obj) → Prop) (h0 : Inv 0 g m c)
    (turn : ∀ i g' m' c' s' o v E', i < n → V i v → Le g g' → Inv i g' m' c' → St w s₀ g₀ X L (up m' x v) ((it, o) :: c') g' s' → O (i + 1) o →
      wpAny (model prog w) A (execs body env) (fun f s₃ => match f with
        | .next | .cont => ∃ g'' m'' c'' o'', Le g g'' ∧ St w s₀ g₀ X L m'' ((it, o'') :: c'') g'' s₃ ∧ O (i + 1) o'' ∧ Inv (i + 1) g'' m'' c''
        | .brk => R (.ok .next) s₃
        | .ret v => R (.ok (.ret v)) s₃) E' s')
    (done : ∀ g' m' c' s' E', Le g g' → Inv n g' m' c' → St w s₀ g₀ X L m' c' g' s' → wpAny (model prog w) A (execs orelse env) (fun f s₃ => R (.ok f) s₃) E' s')
    (hL : env.locals = L := by rfl) (hk : env.scope.kind = .function := by rfl) (hl : env.kindOf x = some .local := by rfl) :
    codeAny (model prog w) A (.forLoop (.Name x px) (.ref it) body orelse env) R s :=
  loop S hO hFz I Inv h0 (fun i g' m' c' s' o v E' h1 h2 h3 h4 h5 h6 => by
    show wpAny _ _ (pure () : Sem Unit) _ _ _
    exact wpAny_pure (wpAny_assign_Name (st h5 (fun s'' S'' => turn i g' m' c' s'' o v E' h1 h2 h3 h4 S'' h6) hL hk hl))) done
theorem iter_range (hh : A.handled = none) (it : Addr) (a : Int) (n : Nat) : Iter prog w A it n (fun _ => none) (fun i o => o = { cls := .type "range_iterator", dict := none, data := .fields #[rawInt (a + i), rawInt ((n : Int) - i), rawInt 1], slots := #[] }) (fun i v => ∃ t, v = .int (a + i) t) where
  item := fun {E Q s i o} hi _ ho hO h => by
    subst hO
    refine wpAny_pyNext_range_item ho (by omega) fun h' hit hs => ?_
    refine h _ h' _ _ ⟨_, rfl⟩ hit ?_ (fun b x hb e => (hs.2 b hb).trans e)
    congr 1
    have e1 : a + ((i + 1 : Nat) : Int) = a + (i : Int) + 1 := by omega
    have e2 : (n : Int) - ((i + 1 : Nat) : Int) = (n : Int) - (i : Int) - 1 := by omega
    rw [e1, e2]
  done := fun {E Q s o} _ ho hO h => by
    subst hO
    refine wpAny_pyNext_range_end hh ho (by omega) fun h' he => ?_
    exact h h' (fun b x hb e => he b x hb e)
theorem iter_list (hh : A.handled = none) {it l : Addr} {items : Array Value} {k : Nat} {ol : Obj} {Fz : Mem} (hl : Fz l = some ol) (hc : ol.cls = .type "list") (hd : ol.data = .seq items k) :
    Iter prog w A it items.size Fz (fun i o => o.cls = .type "list_iterator" ∧ o.data = .fields #[.ref l, .int i 0]) (fun i v => items[i]? = some v) where
  item := fun {E Q s i o} hi hF ho hO h => by
    refine wpAny_pyNext_list_item ⟨o, ho, hO⟩ ⟨_, hF _ _ hl, hc, k, hd⟩ (x := items[i]) (by simp [hi]) fun h' hit hs => ?_
    obtain ⟨o', h1, h2⟩ := hit
    exact h _ h' _ o' (by simp [hi]) h1 h2 (fun b x hb e => (hs.2 b hb).trans e)
  done := fun {E Q s o} hF ho hO h => by
    refine wpAny_pyNext_list_end hh ⟨o, ho, hO⟩ ⟨_, hF _ _ hl, hc, k, hd⟩ (by simp) fun h' he => ?_
    exact h h' (fun b x hb e => he b x hb e)
theorem call_range2 {a b : Int} {t u : Tok} {Q : Value → Shared → Prop} (S : St w s₀ g₀ X L m c g s)
    (h : ∀ s' r t u v, St w s₀ g₀ X L m c g s' → IsRange s'.heap r a b 1 t u v → Q (.ref r) s') : wpAny (model prog w) A (call (.type "range") [.int a t, .int b u]) Q E s :=
  call_range_2 (h _ _ _ _ _ (S.push _ _) (IsRange.new ..))
theorem call_range1 {b : Int} {t : Tok} {Q : Value → Shared → Prop} (S : St w s₀ g₀ X L m c g s)
    (h : ∀ s' r t u v, St w s₀ g₀ X L m c g s' → IsRange s'.heap r 0 b 1 t u v → Q (.ref r) s') : wpAny (model prog w) A (call (.type "range") [.int b t]) Q E s :=
  call_range_1 (h _ _ _ _ _ (S.push _ _) (IsRange.new ..))
theorem range_loop {x : Str} {px : Pos} {body orelse : List Stmt} {r : Addr} {a b : Int} {t u v : Tok} {Q : Flow → Shared → Prop} {E0 : Value → Shared → Prop}
    (S : St w s₀ g₀ X L m c g s) (hr : IsRange s.heap r a b 1 t u v) (hh : A.handled = none) (n : Nat) (hn : Builtin.Range.rangeSize a b 1 = n) (hs : Builtin.Range.small a b 1 = true)
    (Inv : Nat → Mem → (Str → Option Value) → List (Addr × Obj) → Prop) (h0 : Inv 0 g m c)
    (turn : ∀ it o i g' m' c' s' t E', i < n → Le g g' → Inv i g' m' c' → St w s₀ g₀ X L (up m' x (.int (a + i) t)) ((it, o) :: c') g' s' →
      wpAny (model prog w) A (execs body env) (fun f s₃ => match f with
        | .next | .cont => ∃ g'' m'' c'', Le g g'' ∧ St w s₀ g₀ X L m'' ((it, o) :: c'') g'' s₃ ∧ Inv (i + 1) g'' m'' c''
        | .brk => Q .next s₃
        | .ret v => Q (.ret v) s₃) E' s')
    (done : ∀ g' m' c' s' E', Le g g' → Inv n g' m' c' → St w s₀ g₀ X L m' c' g' s' → wpAny (model prog w) A (execs orelse env) Q E' s')
    (hL : env.locals = L := by rfl) (hk : env.scope.kind = .function := by rfl) (hl : env.kindOf x = some .local := by rfl) :
    wpAny (model prog w) A (pyIter (.ref r)) (fun it s₂ =>
      codeAny (model prog w) A (.forLoop (.Name x px) it body orelse env) (fun r s' => match r with | .ok f => Q f s' | .error e => E0 e s') s₂) E s := by
  refine wpAny_pyIter_range hr hs ?_
  rw [hn]
  refine loopN (S.pushC _ _) (n := n) ?_ (fun b o e => by simp at e) (iter_range hh _ a n) Inv h0 (fun i g' m' c' s' o v E' h1 h2 h3 h4 h5 h6 => ?_) done hL hk hl
  · simp
  · obtain ⟨t', rfl⟩ := h2
    refine wpAny_mono (turn _ o i g' m' c' s' t' E' h1 h3 h4 h5) (fun f s₃ h₃ => ?_) fun _ _ x => x
    cases f with
    | next => obtain ⟨g₃, m₃, c₃, a₁, b₁, d₁⟩ := h₃; exact ⟨g₃, m₃, c₃, _, a₁, b₁, h6, d₁⟩
    | cont => obtain ⟨g₃, m₃, c₃, a₁, b₁, d₁⟩ := h₃; exact ⟨g₃, m₃, c₃, _, a₁, b₁, h6, d₁⟩
    | brk => exact h₃
    | ret v => exact h₃
theorem list_loop {x : Str} {px : Pos} {body orelse : List Stmt} {l : Addr} {items : Array Value} {k : Nat} {ol : Obj} {Q : Flow → Shared → Prop} {E0 : Value → Shared → Prop}
    (S : St w s₀ g₀ X L m c g s) (hl : g l = some ol) (hc : ol.cls = .type "list") (hd : ol.data = .seq items k) (hh : A.handled = none)
    (Inv : Nat → Mem → (Str → Option Value) → List (Addr × Obj) → Prop) (h0 : Inv 0 g m c)
    (turn : ∀ it o i g' m' c' s' v E', items[i]? = some v → Le g g' → Inv i g' m' c' → St w s₀ g₀ X L (up m' x v) ((it, o) :: c') g' s' →
      wpAny (model prog w) A (execs body env) (fun f s₃ => match f with
        | .next | .cont => ∃ g'' m'' c'', Le g g'' ∧ St w s₀ g₀ X L m'' ((it, o) :: c'') g'' s₃ ∧ Inv (i + 1) g'' m'' c''
        | .brk => Q .next s₃
        | .ret v => Q (.ret v) s₃) E' s')
    (done : ∀ g' m' c' s' E', Le g g' → Inv items.size g' m' c' → St w s₀ g₀ X L m' c' g' s' → wpAny (model prog w) A (execs orelse env) Q E' s')
    (hL : env.locals = L := by rfl) (hk : env.scope.kind = .function := by rfl) (hx : env.kindOf x = some .local := by rfl) :
    wpAny (model prog w) A (pyIter (.ref l)) (fun it s₂ =>
      codeAny (model prog w) A (.forLoop (.Name x px) it body orelse env) (fun r s' => match r with | .ok f => Q f s' | .error e => E0 e s') s₂) E s := by
  refine wpAny_pyIter_list ⟨_, S.gg _ _ hl, hc, k, hd⟩ ?_
  refine loopN (S.pushC _ _) (n := items.size) ⟨rfl, rfl⟩ (Le.refl _) (iter_list hh hl hc hd) Inv h0 (fun i g' m' c' s' o v E' h1 h2 h3 h4 h5 h6 => ?_) done hL hk hx
  refine wpAny_mono (turn _ o i g' m' c' s' v E' h2 h3 h4 h5) (fun f s₃ h₃ => ?_) fun _ _ x => x
  cases f with
  | next => obtain ⟨g₃, m₃, c₃, a₁, b₁, d₁⟩ := h₃; exact ⟨g₃, m₃, c₃, _, a₁, b₁, h6, d₁⟩
  | cont => obtain ⟨g₃, m₃, c₃, a₁, b₁, d₁⟩ := h₃; exact ⟨g₃, m₃, c₃, _, a₁, b₁, h6, d₁⟩
  | brk => exact h₃
  | ret v => exact h₃
end
end

-- PART B4 --
section
open PySem PySem.W PySem.Calls PyProof.Rows
abbrev T := List Nat
def S (l : T) : Str := ⟨l.toArray⟩
@[simp] theorem S_len (l : T) : (S l).length = l.length := by simp [S, PySem.Str.length]
theorem S_inj {a b : T} : S a = S b ↔ a = b := by
  constructor
  · intro h; have := congrArg (fun x => x.cps.toList) h; simpa [S] using this
  · intro h; rw [h]
theorem S_cps (l : T) : (S l).cps = l.toArray := rfl
theorem S_add (a b : T) : S a ++ S b = S (a ++ b) := by
  apply PySem.Str.ext'
  show (a.toArray ++ b.toArray) = (a ++ b).toArray
  simp
theorem strSliceIdx (n : Nat) (a b : Nat) : Builtin.Str.strSliceIndices (some (a : Int)) (some (b : Int)) 1 n = (List.range (min b n - min a n)).map (min a n + ·) := by
  unfold Builtin.Str.strSliceIndices
  simp only [show (1 : Int) > 0 by decide, if_true]
  have e1 : (if (a : Int) < 0 then (a : Int) + n else a) = a := if_neg (by omega)
  have e2 : (if (b : Int) < 0 then (b : Int) + n else b) = b := if_neg (by omega)
  rw [e1, e2]
  have e3 : max (0 : Int) (min a n) = ((min a n : Nat) : Int) := by omega
  have e4 : max (0 : Int) (min b n) = ((min b n : Nat) : Int) := by omega
  rw [e3, e4]
  exact sliceRange_one _ _
theorem strSliceIdx_none (l u : Option Int) (n : Nat) : Builtin.Str.strSliceIndices l none 1 n = Builtin.Str.strSliceIndices l (some (n : Int)) 1 n := by
  unfold Builtin.Str.strSliceIndices
  simp only [show (1 : Int) > 0 by decide, if_true]
  congr 1
  have e2 : (if (n : Int) < 0 then (n : Int) + n else n) = n := if_neg (by omega)
  rw [e2]; first | done | omega
theorem strSliceIdx_none' (u : Option Int) (n : Nat) : Builtin.Str.strSliceIndices none u 1 n = Builtin.Str.strSliceIndices (some ((0 : Nat) : Int)) u 1 n := by
  unfold Builtin.Str.strSliceIndices
  simp only [show (1 : Int) > 0 by decide, if_true]
  congr 1
theorem slice_ss (l : T) (a b : Nat) : Txt.slice (S l) (some (a : Int)) (some (b : Int)) = S ((l.drop a).take (b - a)) := by
  unfold Txt.slice
  rw [S_len, strSliceIdx]
  simp only [List.length_map, List.length_range, S_cps]
  have key : (((List.range (min b l.length - min a l.length)).map (min a l.length + ·)).filterMap (l.toArray[·]?)) = (l.drop a).take (b - a) := by
    rw [pick_run]
    simp only
    apply List.ext_getElem?
    intro i
    rw [List.getElem?_take, List.getElem?_take, List.getElem?_drop, List.getElem?_drop]
    by_cases h1 : a ≤ l.length
    · rw [Nat.min_eq_left h1]
      by_cases h2 : b ≤ l.length
      · rw [Nat.min_eq_left h2]
      · rw [Nat.min_eq_right (by omega)]
        split <;> split <;> first | rfl | omega | (rw [List.getElem?_eq_none (by omega)])
    · rw [List.getElem?_eq_none (l := l) (i := a + i) (by omega), List.getElem?_eq_none (l := l) (i := min a l.length + i) (by omega)]
      simp
  split
  · rename_i h
    simp only [BEq.rfl, Bool.true_and, beq_iff_eq] at h
    rw [← key]
    show _ = S _
    congr 1
    have h0 : min a l.length = 0 ∧ min b l.length = l.length := by omega
    rw [h0.1, h0.2, pick_run]
    simp
  · rw [key]; rfl
theorem slice_sn (l : T) (a : Nat) : Txt.slice (S l) (some (a : Int)) none = S (l.drop a) := by
  have : Txt.slice (S l) (some (a : Int)) none = Txt.slice (S l) (some (a : Int)) (some (l.length : Int)) := by
    unfold Txt.slice; rw [S_len, strSliceIdx_none _ none]
  rw [this, slice_ss, List.take_of_length_le (by simp)]
theorem slice_ns (l : T) (b : Nat) : Txt.slice (S l) none (some (b : Int)) = S (l.take b) := by
  have : Txt.slice (S l) none (some (b : Int)) = Txt.slice (S l) (some ((0 : Nat) : Int)) (some (b : Int)) := by
    unfold Txt.slice; rw [strSliceIdx_none']
  rw [this, slice_ss]; simp
section
variable {prog : Program} {w : World} {A : Around} {E : Value → Shared → Prop} {s₀ s s' : Shared} {g₀ g g' : Mem} {X : List Addr} {L : Addr} {m : Str → Option Value} {c : List (Addr × Obj)} {env : Env}
theorem St.extK (S : St w s₀ g₀ X L m c g s) {h' : Heap} {t : Nat} (k : ∀ b o, s.heap.get? b = some o → h'.get? b = some o) (hz : s.heap.objs.size ≤ h'.objs.size) : St w s₀ g₀ X L m c g { s with heap := h', toks := t } :=
  ⟨S.base, S.ns.keeps k, fun b o hb e => k _ _ (S.keep b o hb e), S.above, fun b o e => k _ _ (S.gg b o e), S.grow, S.low, S.gL, fun p hp => ⟨k _ _ (S.cc p hp).1, (S.cc p hp).2⟩, S.nd, S.gens, S.os, Nat.le_trans S.size hz⟩
theorem sub_int {a b : Int} {t u : Tok} {Q : Value → Shared → Prop} (S : St w s₀ g₀ X L m c g s) (h : ∀ t s', St w s₀ g₀ X L m c g s' → Q (.int (a - b) t) s') : wpAny (model prog w) A (binaryOp .Sub (.int a t) (.int b u)) Q E s :=
  PyProof.Rows.sub_int (h _ _ (S.toks _))
theorem len_str {l : T} {t : Tok} {Q : Value → Shared → Prop} (S : St w s₀ g₀ X L m c g s) (hl : l.length ≤ 2 ^ 24) (h : ∀ t s', St w s₀ g₀ X L m c g s' → Q (.int l.length t) s') : wpAny (model prog w) A (call (.builtin "len") [.str (Mine.S l) t]) Q E s := by
  refine PyProof.Rows.len_str (by rw [S_len]; omega) ?_
  rw [S_len]
  exact h _ _ (S.toks _)
theorem max2 {a b : Int} {t u : Tok} {Q : Value → Shared → Prop} (S : St w s₀ g₀ X L m c g s) (hh : A.handled = none) (h : ∀ t s', St w s₀ g₀ X L m c g s' → Q (.int (max a b) t) s') : wpAny (model prog w) A (call (.builtin "max") [.int a t, .int b u]) Q E s := by
  refine withSize (max_two_ints hh fun h' tk hk hz => ?_)
  by_cases c : b > a
  · rw [if_pos c]; have := h u _ (S.extK (t := tk) hk hz); rwa [show max a b = b by omega] at this
  · rw [if_neg c]; have := h t _ (S.extK (t := tk) hk hz); rwa [show max a b = a by omega] at this
theorem min2 {a b : Int} {t u : Tok} {Q : Value → Shared → Prop} (S : St w s₀ g₀ X L m c g s) (hh : A.handled = none) (h : ∀ t s', St w s₀ g₀ X L m c g s' → Q (.int (min a b) t) s') : wpAny (model prog w) A (call (.builtin "min") [.int a t, .int b u]) Q E s := by
  refine withSize (min_two_ints hh fun h' tk hk hz => ?_)
  by_cases c : b < a
  · rw [if_pos c]; have := h u _ (S.extK (t := tk) hk hz); rwa [show min a b = b by omega] at this
  · rw [if_neg c]; have := h t _ (S.extK (t := tk) hk hz); rwa [show min a b = a by omega] at this
theorem slicePost {x : Str} {t : Tok} {l u : Option (Int × Tok)} {Q : Value → Shared → Prop} {o : Obj} (S : St w s₀ g₀ X L m c g s) (hx : x.length ≤ sizeLine)
    (h : ∀ t' s', St w s₀ g₀ X L m c g s' → Q (.str (Txt.slice x (l.map (·.1)) (u.map (·.1))) t') s') : (sliceMade x t l u none).post Q { s with heap := s.heap.push o } := by
  have hle := Txt.slice_le x (l.map (·.1)) (u.map (·.1))
  unfold sliceMade slicePicked
  unfold Txt.slice at h hle
  show (if ((1 : Int) == 1 && _) = true then _ else _ : Made).post _ _
  simp only [Option.map_none, Option.getD_none] at *
  split
  · rename_i q; rw [if_pos q] at h; exact h _ _ (S.push _ _)
  · rename_i q; rw [if_neg q] at h hle; exact ⟨Nat.le_trans hle hx, h _ _ (S.push _ _)⟩
theorem sub_str_sn {value slice : Expr} {x : Str} {t ui : Tok} {i : Int} {Q : Value → Shared → Prop} (S : St w s₀ g₀ X L m c g s) (hx : x.length ≤ sizeLine)
    (h : ∀ t' s', St w s₀ g₀ X L m c g s' → Q (.str (Txt.slice x (some i) none) t') s')
    (hs : subscripted slice false (.str x t) (.ref s.heap.objs.size) = operate [.ref s.heap.objs.size, .str x t] (getItem (.str x t) (.ref s.heap.objs.size)) := by with_unfolding_all rfl) :
    wpAny (model prog w) A (subscriptTail value slice (.str x t) (.ref s.heap.objs.size)) Q E { s with heap := s.heap.push { cls := .type "slice", data := .fields #[.int i ui, .none, .none] } } :=
  tail_any (T := "str") (typeIs_str _ _ _) F.slot_str_getitem.lookup (wpAny_getItem_str_slice (l := some (i, ui)) (u := none) (st := none) ⟨_, Heap.get?_push_size _ rfl, rfl, rfl⟩ rfl (slicePost S hx h)) hs
theorem sub_str_ns {value slice : Expr} {x : Str} {t ui : Tok} {i : Int} {Q : Value → Shared → Prop} (S : St w s₀ g₀ X L m c g s) (hx : x.length ≤ sizeLine)
    (h : ∀ t' s', St w s₀ g₀ X L m c g s' → Q (.str (Txt.slice x none (some i)) t') s')
    (hs : subscripted slice false (.str x t) (.ref s.heap.objs.size) = operate [.ref s.heap.objs.size, .str x t] (getItem (.str x t) (.ref s.heap.objs.size)) := by with_unfolding_all rfl) :
    wpAny (model prog w) A (subscriptTail value slice (.str x t) (.ref s.heap.objs.size)) Q E { s with heap := s.heap.push { cls := .type "slice", data := .fields #[.none, .int i ui, .none] } } :=
  tail_any (T := "str") (typeIs_str _ _ _) F.slot_str_getitem.lookup (wpAny_getItem_str_slice (l := none) (u := some (i, ui)) (st := none) ⟨_, Heap.get?_push_size _ rfl, rfl, rfl⟩ rfl (slicePost S hx h)) hs
theorem sub_str_ss {value slice : Expr} {x : Str} {t ui uj : Tok} {i j : Int} {Q : Value → Shared → Prop} (S : St w s₀ g₀ X L m c g s) (hx : x.length ≤ sizeLine)
    (h : ∀ t' s', St w s₀ g₀ X L m c g s' → Q (.str (Txt.slice x (some i) (some j)) t') s')
    (hs : subscripted slice false (.str x t) (.ref s.heap.objs.size) = operate [.ref s.heap.objs.size, .str x t] (getItem (.str x t) (.ref s.heap.objs.size)) := by with_unfolding_all rfl) :
    wpAny (model prog w) A (subscriptTail value slice (.str x t) (.ref s.heap.objs.size)) Q E { s with heap := s.heap.push { cls := .type "slice", data := .fields #[.int i ui, .int j uj, .none] } } :=
  tail_any (T := "str") (typeIs_str _ _ _) F.slot_str_getitem.lookup (wpAny_getItem_str_slice (l := some (i, ui)) (u := some (j, uj)) (st := none) ⟨_, Heap.get?_push_size _ rfl, rfl, rfl⟩ rfl (slicePost S hx h)) hs
def DictObj (prog : Program) (w : World) (o : Obj) (kvs : List (Str × Value)) : Prop :=
  o.ExactDict ∧ ∃ es ep, o.data = .dict es ep ∧ KeysOf (strKind prog w) es ∧ Pairs (strKind prog w) es.toList kvs ∧ (kvs.map (·.1)).Nodup
theorem DictObj.dictOf {o : Obj} {kvs : List (Str × Value)} (D : DictObj prog w o kvs) {h : Heap} {a : Addr} (e : h.get? a = some o) : h.DictOf (strKind prog w) a kvs :=
  let ⟨h1, es, ep, h2, h3, h4, h5⟩ := D; ⟨o, es, ep, e, h1, h2, h3, h4, h5⟩
theorem DictObj.of {kvs : List (Str × Value)} {h : Heap} {a : Addr} (D : h.DictOf (strKind prog w) a kvs) : ∃ o, h.get? a = some o ∧ DictObj prog w o kvs :=
  let ⟨o, es, ep, e, h1, h2, h3, h4, h5⟩ := D; ⟨o, e, h1, es, ep, h2, h3, h4, h5⟩
end
end

-- PART B5 --
section
open PySem PySem.W PySem.Calls PyProof.Rows
def lk (binds : List (Str × Value)) : Str → Option Value := fun y => binds.reverse.lookup y
theorem Post.shrink {s s' : Shared} {g g' : Mem} (P : Post [] s s.heap.get? s' g') (hg : Le g s.heap.get?) : Post [] s g s' g :=
  ⟨P.keep, P.size, fun b o e => P.keep b o (by simp) (hg b o e), fun _ _ e => e, fun _ _ => rfl, P.gens, P.os⟩
section
variable {M : Model} {prog : Program} {w : World} {A : Around} {E : Value → Shared → Prop} {s₀ s s' : Shared} {g₀ g g' : Mem} {X : List Addr} {L : Addr} {m : Str → Option Value} {c : List (Addr × Obj)} {env : Env}
theorem callF {R : Result → Shared → Prop} {name qual : Str} {params : Arguments} {body : List Stmt} {scope : Scope} {dV kV doc pm cdv ct oc : Value} {an od : Option Addr} {osl : Array (Option Value)} {f : Addr} {args : Args} (binds : List (Str × Value))
    (B : Base w g) (hg : Le g s.heap.get?)
    (ho : (KK w).lookup f = some ⟨oc, od, .func (fnOf name qual params body scope dV kV doc pm an cdv ct), osl⟩) (hcd : codeIn (KK w) cdv qual = true) (hroom : A.depth < recursionLimit)
    (hbind : BindsTo s (fnOf name qual params body scope dV kV doc pm an cdv ct) args binds) (hloc : (binds.all fun x => decide (scope.names.lookup x.1 = some .local)) = true)
    (hcell : ∀ x ∈ scope.names, x.2 ≠ .cell)
    (h : ∀ L s', St w s g [] L (lk binds) [] g s' →
      wpAny (model prog w) (A.deeper (envOf qual scope L f cdv)) (execs body (envOf qual scope L f cdv)) (fun fl s'' => R (.ok (.ret (match fl with | .ret v => v | _ => .none))) s'') (fun _ _ => False) s')
    (hco : scope.isCoroutine = false := by rfl) (hgen : scope.isGenerator = false := by rfl) (hk : scope.kind = .function := by rfl) :
    codeAny (model prog w) A (.call (.ref f) args) R s := enter B hg ho hcd hroom hbind (locs hloc) hcell h hco hgen hk
theorem s_assign {x : Str} {p pos : Pos} {value : Expr} {rest : List Stmt} {Q : Flow → Shared → Prop}
    (h : wpAny M A (eval value env) (fun v s₁ => wpAny M A (storeName env x v) (fun _ s₂ => wpAny M A (execs rest env) Q E s₂) E s₁) E s)
    (hs : swapsWith value (some (.Name x p)) pos.line env = pure false := by with_unfolding_all rfl) :
    wpAny M A (execs (.Assign [.Name x p] value pos :: rest) env) Q E s := wpAny_execs_cons (wpAny_Assign_Name h hs)
theorem s_aug {x : Str} {p pos : Pos} {op : Operator} {value : Expr} {rest : List Stmt} {Q : Flow → Shared → Prop}
    (h : wpAny M A (loadName env x) (fun old s₁ => wpAny M A (eval value env) (fun v s₂ => wpAny M A (inplaceOp op old v)
      (fun r s₃ => wpAny M A (storeName env x r) (fun _ s₄ => wpAny M A (execs rest env) Q E s₄) E s₃) E s₂) E s₁) E s) :
    wpAny M A (execs (.AugAssign (.Name x p) op value pos :: rest) env) Q E s := wpAny_execs_cons (wpAny_AugAssign_Name h)
theorem s_ret {e : Expr} {pos : Pos} {rest : List Stmt} {Q : Flow → Shared → Prop} (h : wpAny M A (eval e env) (fun v => Q (.ret v)) E s) :
    wpAny M A (execs (.Return (some e) pos :: rest) env) Q E s := wpAny_execs_cons (wpAny_Return_some h)
theorem s_if {test : Expr} {body orelse rest : List Stmt} {pos : Pos} {Q : Flow → Shared → Prop}
    (h : wpAny M A (isTrue test env (eval test env)) (fun b s₂ => if b = true then wpAny M A (execs body env) (fun f s' => match f with | .next => wpAny M A (execs rest env) Q E s' | f => Q f s') E s₂
      else wpAny M A (execs orelse env) (fun f s' => match f with | .next => wpAny M A (execs rest env) Q E s' | f => Q f s') E s₂) E s) :
    wpAny M A (execs (.If test body orelse pos :: rest) env) Q E s := wpAny_execs_cons (wpAny_If h)
theorem s_if1 {test : Expr} {body rest : List Stmt} {pos : Pos} {Q : Flow → Shared → Prop}
    (h : wpAny M A (isTrue test env (eval test env)) (fun b s₂ => if b = true then wpAny M A (execs body env) (fun f s' => match f with | .next => wpAny M A (execs rest env) Q E s' | f => Q f s') E s₂
      else wpAny M A (execs rest env) Q E s₂) E s) :
    wpAny M A (execs (.If test body [] pos :: rest) env) Q E s := s_if (wpAny_mono h (fun b s₂ q => by
      cases b with
      | true => exact q
      | false => exact wpAny_execs_nil q) fun _ _ x => x)
theorem s_for {target iter : Expr} {body orelse rest : List Stmt} {pos : Pos} {Q : Flow → Shared → Prop}
    (h : wpAny M A (eval iter env) (fun x s₁ => wpAny M A (pyIter x) (fun it s₂ =>
      codeAny M A (.forLoop target it body orelse env) (fun r s' => match r with | .ok f => (match f with | .next => wpAny M A (execs rest env) Q E s' | f => Q f s') | .error e => cameBackBy M A env E e s') s₂) E s₁) E s)
    (hs : ∀ x, foldedSetIterable iter env x = pure x := by intro _; with_unfolding_all rfl) :
    wpAny M A (execs (.For target iter body orelse pos :: rest) env) Q E s := wpAny_execs_cons (wpAny_For h hs)
theorem s_nil {Q : Flow → Shared → Prop} (h : Q .next s) : wpAny M A (execs [] env) Q E s := wpAny_execs_nil h
theorem s_break {pos : Pos} {rest : List Stmt} {Q : Flow → Shared → Prop} (h : Q .brk s) : wpAny M A (execs (.Break pos :: rest) env) Q E s := wpAny_execs_cons (wpAny_Break h)
theorem s_continue {pos : Pos} {rest : List Stmt} {Q : Flow → Shared → Prop} (h : Q .cont s) : wpAny M A (execs (.Continue pos :: rest) env) Q E s := wpAny_execs_cons (wpAny_Continue h)
theorem t_cmp {l r : Expr} {op : CmpOp} {pos : Pos} {whole : Sem Value} {Q : Bool → Shared → Prop}
    (h : wpAny M A (eval l env) (fun a s₁ => wpAny M A (eval r env) (fun b s₂ => wpAny M A (compareOp op a b) (fun c s₃ => wpAny M A (truthy c) Q E s₃) E s₂) E s₁) E s)
    (hm : behindInMarks op r = false := by with_unfolding_all rfl) : wpAny M A (isTrue (.Compare l [op] [r] pos) env whole) Q E s := wpAny_isTrue_Compare1 h hm
theorem t_not {x : Expr} {pos : Pos} {whole : Sem Value} {Q : Bool → Shared → Prop} (h : wpAny M A (isTrue x env (eval x env)) (fun b s₁ => Q (!b) s₁) E s) :
    wpAny M A (isTrue (.UnaryOp .Not x pos) env whole) Q E s := wpAny_isTrue_Not h
theorem t_val {e : Expr} {whole : Sem Value} {Q : Bool → Shared → Prop} (h : wpAny M A whole (fun v s₁ => wpAny M A (truthy v) Q E s₁) E s)
    (he : isTrue e env whole = (do let v ← whole; standAt e.pos; holding [v] (truthy v)) := by with_unfolding_all rfl) : wpAny M A (isTrue e env whole) Q E s := wpAny_isTrue_value h he
theorem e_call {func : Expr} {args : List Expr} {pos : Pos} {Q : Value → Shared → Prop}
    (h : wpAny M A (eval func env) (fun f s₁ => wpAny M A (callWith pos f [] (backTo pos (starEach args env)) []) Q E s₁) E s)
    (he : eval (.Call func args [] pos) env = (do callWith pos (← eval func env) [] (backTo pos (starEach args env)) (backToKw pos (keywordEach [] env))) := by with_unfolding_all rfl) :
    wpAny M A (eval (.Call func args [] pos) env) Q E s := Call_ h he
theorem e_sub {value slice : Expr} {pos : Pos} {Q : Value → Shared → Prop}
    (h : wpAny M A (eval value env) (fun o s₁ => wpAny M A (eval slice env) (fun i s₂ => wpAny M A (subscriptTail value slice o i) Q E s₂) E s₁) E s) :
    wpAny M A (eval (.Subscript value slice pos) env) Q E s := Subscript_ h
theorem e_bin {l r : Expr} {op : Operator} {pos : Pos} {Q : Value → Shared → Prop}
    (h : wpAny M A (eval l env) (fun a s₁ => wpAny M A (eval r env) (fun b s₂ => wpAny M A (binaryOp op a b) Q E s₂) E s₁) E s) : wpAny M A (eval (.BinOp l op r pos) env) Q E s := wpAny_BinOp h
theorem e_slice_sn {lower : Expr} {p : Pos} {Q : Value → Shared → Prop}
    (h : wpAny M A (eval lower env) (fun l s₃ => Q (.ref s₃.heap.objs.size) { s₃ with heap := s₃.heap.push { cls := .type "slice", data := .fields #[l, .none, .none] } }) E s) :
    wpAny M A (eval (.Slice (some lower) none none p) env) Q E s := wpAny_Slice (wpAny_mono h (fun _ _ q => wpAny_pure (wpAny_pure q)) fun _ _ x => x)
theorem e_slice_ns {upper : Expr} {p : Pos} {Q : Value → Shared → Prop}
    (h : wpAny M A (eval upper env) (fun u s₃ => Q (.ref s₃.heap.objs.size) { s₃ with heap := s₃.heap.push { cls := .type "slice", data := .fields #[.none, u, .none] } }) E s) :
    wpAny M A (eval (.Slice none (some upper) none p) env) Q E s := wpAny_Slice (wpAny_pure (wpAny_mono h (fun _ _ q => wpAny_pure q) fun _ _ x => x))
theorem e_slice_ss {lower upper : Expr} {p : Pos} {Q : Value → Shared → Prop}
    (h : wpAny M A (eval lower env) (fun l s₂ => wpAny M A (eval upper env) (fun u s₃ => Q (.ref s₃.heap.objs.size) { s₃ with heap := s₃.heap.push { cls := .type "slice", data := .fields #[l, u, .none] } }) E s₂) E s) :
    wpAny M A (eval (.Slice (some lower) (some upper) none p) env) Q E s := wpAny_Slice (wpAny_mono h (fun _ _ q => wpAny_mono q (fun _ _ q => wpAny_pure q) fun _ _ x => x) fun _ _ x => x)
theorem a_nil {pos : Pos} {Q : List Value → Shared → Prop} (h : Q [] s) : wpAny M A (spliced (backTo pos (starEach [] env))) Q E s := spliced_none h
theorem a_cons {e : Expr} {rest : List Expr} {pos : Pos} {Q : List Value → Shared → Prop}
    (h : wpAny M A (eval e env) (fun v s₁ => wpAny M A (spliced (backTo pos (starEach rest env))) (fun vs s₂ => Q (v :: vs) s₂) E s₁) E s)
    (he : starEach (e :: rest) env = (false, eval e env) :: starEach rest env := by with_unfolding_all rfl) : wpAny M A (spliced (backTo pos (starEach (e :: rest) env))) Q E s := spliced_more h he
theorem c_type {pos : Pos} {T : String} {e : Expr} {rest : List Expr} {Q : Value → Shared → Prop}
    (h : wpAny M A (spliced (backTo pos (starEach (e :: rest) env))) (fun vs s₁ => wpAny M A (call (.type T) vs) Q E s₁) E s)
    (he : starEach (e :: rest) env = (false, eval e env) :: starEach rest env := by with_unfolding_all rfl)
    (hplain : (backTo pos (starEach rest env)).any (·.1) = false := by with_unfolding_all rfl) :
    wpAny M A (callWith pos (.type T) [] (backTo pos (starEach (e :: rest) env)) []) Q E s := PyProof.Rows.callWith_type1 h he hplain
theorem c_builtin {pos : Pos} {id : String} {e : Expr} {rest : List Expr} {Q : Value → Shared → Prop}
    (h : wpAny M A (spliced (backTo pos (starEach (e :: rest) env))) (fun vs s₁ => wpAny M A (call (.builtin id) vs) Q E s₁) E s)
    (he : starEach (e :: rest) env = (false, eval e env) :: starEach rest env := by with_unfolding_all rfl)
    (hplain : (backTo pos (starEach rest env)).any (·.1) = false := by with_unfolding_all rfl) :
    wpAny M A (callWith pos (.builtin id) [] (backTo pos (starEach (e :: rest) env)) []) Q E s := callWith_method1 h he hplain
theorem c_meth {pos : Pos} {id : String} {e : Expr} {rest : List Expr} {v : Value} {Q : Value → Shared → Prop}
    (h : wpAny M A (spliced (backTo pos (starEach (e :: rest) env))) (fun vs s₁ => wpAny M A (call (.builtin id) (v :: vs)) Q E s₁) E s)
    (he : starEach (e :: rest) env = (false, eval e env) :: starEach rest env := by with_unfolding_all rfl)
    (hplain : (backTo pos (starEach rest env)).any (·.1) = false := by with_unfolding_all rfl) :
    wpAny M A (callWith pos (.builtin id) [v] (backTo pos (starEach (e :: rest) env)) []) Q E s := callWith_method1 h he hplain
theorem c_builtin0 {pos : Pos} {id : String} {first : List Value} {Q : Value → Shared → Prop} (h : wpAny M A (call (.builtin id) first) Q E s) :
    wpAny M A (callWith pos (.builtin id) first (backTo pos (starEach [] env)) []) Q E s := callWith_method0 h
theorem in_dict {o : Obj} {kvs : List (Str × Value)} {d : Addr} {x : Str} {t : Tok} {Q : Value → Shared → Prop} (S : St w s₀ g₀ X L m c g s) (hd : s.heap.get? d = some o) (D : DictObj prog w o kvs)
    (h : ∀ s', St w s₀ g₀ X L m c g s' → Q (.bool (valueAt kvs x).isSome) s') (hm : (d == sysModules) = false) : wpAny (model prog w) A (compareOp .In (.str x t) (.ref d)) Q E s :=
  wpAny_in_of (strKind_is prog w x t) hm (D.dictOf hd).mapOf (h _ (S.toks _))
end
end

-- PART B6 --
section
open PySem PySem.W PySem.Calls PyProof.Rows
def glob1 : List (Str × Value) := [("_TokenType", .ref 83), ("Token", .ref 89), ("Text", .ref 93), ("Whitespace", .ref 97), ("Escape", .ref 101), ("Error", .ref 105), ("_ALIASES", .ref 116), ("is_token_subtype", .ref 123), ("string_to_tokentype", .ref 130),
  ("include", .ref 339), ("_inherit", .ref 360), ("combined", .ref 381), ("_PseudoMatch", .ref 440), ("default", .ref 461), ("words", .ref 490), ("_nothing", .ref 502), ("inherit_place", .ref 509), ("merged_tokendefs", .ref 516),
  ("Lexer", .ref 325), ("LexerContext", .ref 625), ("PlainMatch", .ref 688), ("Plain", .ref 715), ("PlainLexer", .ref 736), ("PlainExtendedLexer", .ref 755),
  ("_law_found", .ref 764), ("_law_told", .ref 771), ("_law_longest", .ref 778), ("_law_falls", .ref 785), ("_law_table", .ref 792), ("_law_flat", .ref 797)]
def glob2 : List (Str × Value) := [("range", .type "range"), ("len", .builtin "len"), ("max", .builtin "max"), ("min", .builtin "min"), ("list", .type "list"), ("isinstance", .builtin "isinstance"), ("type", .type "type"), ("repr", .builtin "repr"), ("str", .type "str"), ("abs", .builtin "abs"), ("int", .type "int"), ("tuple", .type "tuple"), ("enumerate", .type "enumerate"), ("callable", .builtin "callable")]
def gl (x : Str) : Option Value := (glob2 ++ glob1).lookup x
def valIs (a : Option Value) (b : Value) : Bool := a == some b
theorem glob1_ok (P : Params) : (glob1.all fun p => nsOf (Mine.hd.heap_39 P) mainGlobals p.1 == some p.2) = true := by kernel_rfl
theorem glob2_none (P : Params) : (glob2.all fun p => (nsOf (Mine.hd.heap_39 P) mainGlobals p.1).isNone) = true := by kernel_rfl
theorem glob2_ok : (glob2.all fun p => bootBuiltins p.1 == some p.2 && p.1 != "__name__") = true := by kernel_rfl
theorem lookup_mem {x : Str} {v : Value} : ∀ {l : List (Str × Value)}, l.lookup x = some v → (x, v) ∈ l
  | [], h => by cases h
  | (y, u) :: r, h => by
    rw [List.lookup_cons] at h
    by_cases q : (x == y) = true
    · simp only [q] at h; cases h; rw [eq_of_beq q]; exact List.mem_cons_self ..
    · simp only [q] at h; exact List.mem_cons_of_mem _ (lookup_mem h)
section
variable {prog : Program} {w : World} {A : Around} {E : Value → Shared → Prop} {s₀ s s' : Shared} {g₀ g g' : Mem} {X : List Addr} {L : Addr} {m : Str → Option Value} {c : List (Addr × Obj)} {env : Env}
theorem ldn {x : Str} {pos : Pos} {v : Value} {Q : Value → Shared → Prop} (S : St w s₀ g₀ X L m c g s) (hv : gl x = some v) (h : Q v s) (hg : env.globals = mainGlobals := by with_unfolding_all rfl) (hb : env.builtins = builtinsNs := by with_unfolding_all rfl)
    (hk : env.scope.kind = .function := by with_unfolding_all rfl) (hx : env.kindOf x = some .globalImplicit := by with_unfolding_all rfl) (hd : (x == ("__debug__" : Str)) = false := by with_unfolding_all rfl) :
    wpAny (model prog w) A (eval (.Name x pos) env) Q E s := by
  have hm := lookup_mem hv
  rcases List.mem_append.mp hm with hm | hm
  · have h1 := List.all_eq_true.mp (glob2_none w.params) _ hm
    have h2 := List.all_eq_true.mp glob2_ok _ hm
    simp only [Bool.and_eq_true, beq_iff_eq, bne_iff_ne, Option.isNone_iff_eq_none] at h1 h2
    exact ldb S h1 h2.1 h h2.2 hg hb hk hx hd
  · have h1 := List.all_eq_true.mp (glob1_ok w.params) _ hm
    simp only [beq_iff_eq] at h1
    exact ldg S h1 h hg hk hx hd
theorem ldl {x : Str} {pos : Pos} {v : Value} {Q : Value → Shared → Prop} (S : St w s₀ g₀ X L m c g s) (hv : m x = some v) (h : Q v s) (hL : env.locals = L := by with_unfolding_all rfl)
    (hk : env.scope.kind = .function := by with_unfolding_all rfl) (hl : env.kindOf x = some .local := by with_unfolding_all rfl) (hd : (x == ("__debug__" : Str)) = false := by with_unfolding_all rfl) :
    wpAny (model prog w) A (eval (.Name x pos) env) Q E s := ld S hv h hL hk hl hd
theorem ldlN {x : Str} {v : Value} {Q : Value → Shared → Prop} (S : St w s₀ g₀ X L m c g s) (hv : m x = some v) (h : Q v s) (hL : env.locals = L := by with_unfolding_all rfl)
    (hk : env.scope.kind = .function := by with_unfolding_all rfl) (hl : env.kindOf x = some .local := by with_unfolding_all rfl) :
    wpAny (model prog w) A (loadName env x) Q E s := ldN S hv h hL hk hl
theorem stl {x : Str} {v : Value} {Q : Unit → Shared → Prop} (S : St w s₀ g₀ X L m c g s) (h : ∀ s', St w s₀ g₀ X L (up m x v) c g s' → Q () s') (hL : env.locals = L := by with_unfolding_all rfl)
    (hk : env.scope.kind = .function := by with_unfolding_all rfl) (hl : env.kindOf x = some .local := by with_unfolding_all rfl) :
    wpAny (model prog w) A (storeName env x v) Q E s := st S h hL hk hl
end
theorem up_get {m : Str → Option Value} {x y : Str} {v u : Value} (h : y ≠ x) (e : m y = some u) : up m x v y = some u := by rw [up_ne v h]; exact e
end

-- PART B7 --
section
open PySem PySem.W PySem.Calls PyProof.Rows
def IsT (v : Value) (t : T) : Prop := ∃ tk, v = .str (S t) tk
def All2 {α β : Type} (P : α → β → Prop) : List α → List β → Prop
  | [], [] => True
  | a :: as, b :: bs => P a b ∧ All2 P as bs
  | _, _ => False
theorem All2.length {α β : Type} {P : α → β → Prop} : ∀ {as : List α} {bs : List β}, All2 P as bs → as.length = bs.length
  | [], [], _ => rfl
  | _ :: _, _ :: _, h => by rw [List.length_cons, List.length_cons, All2.length h.2]
theorem All2.snoc {α β : Type} {P : α → β → Prop} {a : α} {b : β} (p : P a b) : ∀ {as : List α} {bs : List β}, All2 P as bs → All2 P (as ++ [a]) (bs ++ [b])
  | [], [], _ => ⟨p, trivial⟩
  | _ :: _, _ :: _, h => ⟨h.1, All2.snoc p h.2⟩
theorem All2.append {α β : Type} {P : α → β → Prop} {as' : List α} {bs' : List β} (p : All2 P as' bs') : ∀ {as : List α} {bs : List β}, All2 P as bs → All2 P (as ++ as') (bs ++ bs')
  | [], [], _ => p
  | _ :: _, _ :: _, h => ⟨h.1, All2.append p h.2⟩
theorem All2.take {α β : Type} {P : α → β → Prop} : ∀ {as : List α} {bs : List β} (n : Nat), All2 P as bs → All2 P (as.take n) (bs.take n)
  | _, _, 0, _ => by rw [List.take_zero, List.take_zero]; exact trivial
  | [], [], n + 1, _ => trivial
  | _ :: _, _ :: _, n + 1, h => ⟨h.1, All2.take n h.2⟩
theorem All2.get {α β : Type} {P : α → β → Prop} : ∀ {as : List α} {bs : List β}, All2 P as bs → ∀ {i : Nat} {a : α}, as[i]? = some a → ∃ b, bs[i]? = some b ∧ P a b
  | [], [], _, i, x, e => by simp at e
  | a :: _, b :: _, h, 0, x, e => by cases e; exact ⟨b, rfl, h.1⟩
  | _ :: _, _ :: _, h, i + 1, x, e => by
    obtain ⟨y, h1, h2⟩ := All2.get h.2 (i := i) (a := x) (by simpa using e)
    exact ⟨y, by simpa using h1, h2⟩
theorem All2.get' {α β : Type} {P : α → β → Prop} : ∀ {as : List α} {bs : List β}, All2 P as bs → ∀ {i : Nat} {b : β}, bs[i]? = some b → ∃ a, as[i]? = some a ∧ P a b
  | [], [], _, i, x, e => by simp at e
  | a :: _, b :: _, h, 0, x, e => by cases e; exact ⟨a, rfl, h.1⟩
  | _ :: _, _ :: _, h, i + 1, x, e => by
    obtain ⟨y, h1, h2⟩ := All2.get' h.2 (i := i) (b := x) (by simpa using e)
    exact ⟨y, by simpa using h1, h2⟩
theorem All2.mono {α β : Type} {P P' : α → β → Prop} (k : ∀ a b, P a b → P' a b) : ∀ {as : List α} {bs : List β}, All2 P as bs → All2 P' as bs
  | [], [], _ => trivial
  | _ :: _, _ :: _, h => ⟨k _ _ h.1, All2.mono k h.2⟩
def LstIs (o : Obj) (vs : List Value) : Prop := o.cls = .type "list" ∧ ∃ k, o.data = .seq vs.toArray k
def TupIs (o : Obj) (vs : List Value) : Prop := o.cls = .type "tuple" ∧ ∃ k, o.data = .seq vs.toArray k
def LstAt (g : Mem) (a : Addr) (vs : List Value) : Prop := ∃ o, g a = some o ∧ LstIs o vs
def TupAt (g : Mem) (a : Addr) (vs : List Value) : Prop := ∃ o, g a = some o ∧ TupIs o vs
theorem LstAt.mono {g g' : Mem} {a : Addr} {vs : List Value} (h : LstAt g a vs) (k : Le g g') : LstAt g' a vs := let ⟨o, h1, h2⟩ := h; ⟨o, k _ _ h1, h2⟩
theorem TupAt.mono {g g' : Mem} {a : Addr} {vs : List Value} (h : TupAt g a vs) (k : Le g g') : TupAt g' a vs := let ⟨o, h1, h2⟩ := h; ⟨o, k _ _ h1, h2⟩
theorem LstAt.isList {h : Heap} {a : Addr} {vs : List Value} (x : LstAt h.get? a vs) : h.IsList a vs.toArray := let ⟨o, h1, h2, h3⟩ := x; ⟨o, h1, h2, h3⟩
theorem TupAt.isTup {h : Heap} {a : Addr} {vs : List Value} (x : TupAt h.get? a vs) : IsTup h a vs.toArray := let ⟨o, h1, h2, h3⟩ := x; ⟨o, h1, h2, h3⟩
abbrev lst (vs : List Value) (n : Nat) : Obj := { cls := .type "list", data := .seq vs.toArray n }
abbrev tup (vs : List Value) : Obj := { cls := .type "tuple", data := .seq vs.toArray }
theorem lst_is (vs : List Value) (n : Nat) : LstIs (lst vs n) vs := ⟨rfl, n, rfl⟩
theorem tup_is (vs : List Value) : TupIs (tup vs) vs := ⟨rfl, 0, rfl⟩
section
variable {M : Model} {prog : Program} {w : World} {A : Around} {E : Value → Shared → Prop} {s₀ s s' : Shared} {g₀ g g' : Mem} {X : List Addr} {L : Addr} {m : Str → Option Value} {c : List (Addr × Obj)} {env : Env}
theorem s_expr {e : Expr} {pos : Pos} {rest : List Stmt} {Q : Flow → Shared → Prop} (h : wpAny M A (eval e env) (fun v s' => v = .none ∧ wpAny M A (execs rest env) Q E s') E s)
    (hi : interactive env = false := by with_unfolding_all rfl) (hs : swapsWith e none pos.line env = pure false := by with_unfolding_all rfl) :
    wpAny M A (execs (.Expr e pos :: rest) env) Q E s := wpAny_execs_cons (wpAny_Expr (wpAny_mono h (fun v s' q => by obtain ⟨rfl, q⟩ := q; exact q) fun _ _ x => x) hi hs)
theorem e_mcall {o : Expr} {name : Str} {apos pos : Pos} {args : List Expr} {pl : Sem Bool} {Q : Value → Shared → Prop}
    (h : wpAny M A (eval o env) (fun ov s₁ => wpAny M A (getMethod ov name pl) (fun fx s₂ => wpAny M A (callWith pos fx.1 fx.2 (backTo pos (starEach args env)) []) Q E s₂) E s₁) E s)
    (he : eval (.Call (.Attribute o name apos) args [] pos) env = (do
      let ov ← eval o env
      standAt apos.atName
      let (f, first) ← holding [ov] (getMethod ov name pl)
      callWith pos f first (backTo pos (starEach args env)) []) := by with_unfolding_all rfl) :
    wpAny M A (eval (.Call (.Attribute o name apos) args [] pos) env) Q E s := MethodCall_ h he
theorem e_ite {test body orelse : Expr} {pos : Pos} {Q : Value → Shared → Prop}
    (h : wpAny M A (isTrue test env (eval test env)) (fun b s₁ => if b = true then wpAny M A (eval body env) Q E s₁ else wpAny M A (eval orelse env) Q E s₁) E s) :
    wpAny M A (eval (.IfExp test body orelse pos) env) Q E s := wpAny_IfExp h
theorem e_cmp {l r : Expr} {op : CmpOp} {pos : Pos} {Q : Value → Shared → Prop}
    (h : wpAny M A (eval l env) (fun a s₁ => wpAny M A (eval r env) (fun b s₂ => wpAny M A (compareOp op a b) Q E s₂) E s₁) E s)
    (hm : behindInMarks op r = false := by with_unfolding_all rfl) : wpAny M A (eval (.Compare l [op] [r] pos) env) Q E s := wpAny_Compare1 h hm
theorem e_list0 {pos : Pos} {Q : Value → Shared → Prop} (S : St w s₀ g₀ X L m c g s) (h : ∀ l s', St w s₀ g₀ X L m ((l, lst [] 0) :: c) g s' → s₀.heap.objs.size ≤ l → Q (.ref l) s') : wpAny (model prog w) A (eval (.List [] pos) env) Q E s := by
  refine List_ (a_nil ?_)
  exact wpAny_newObj_type (h _ _ (S.pushC _ s.toks) S.size) (by size_fits)
theorem append0 {l : Addr} {vs : List Value} {n : Nat} {x : Value} {Q : Value → Shared → Prop} (S : St w s₀ g₀ X L m ((l, lst vs n) :: c) g s) (hsz : vs.length ≤ 2 ^ 20)
    (h : ∀ n s', St w s₀ g₀ X L m ((l, lst (vs ++ [x]) n) :: c) g s' → Q .none s') : wpAny (model prog w) A (call (.builtin "list.append") [.ref l, x]) Q E s := by
  refine wpAny_list_append_plain ⟨n, S.cell0⟩ (fun h' hl hs => ?_) (by rw [List.size_toArray, sizeLine_eq]; omega)
  obtain ⟨k, hk⟩ := hl
  have e : vs.toArray.push x = (vs ++ [x]).toArray := by simp
  rw [e] at hk
  exact h k _ (S.upd0 (t := s.toks) (fun b o hb e => (hs.2 b hb).trans e) hk (Nat.le_of_eq hs.1.symm))
theorem append1 {p : Addr × Obj} {l : Addr} {vs : List Value} {n : Nat} {x : Value} {Q : Value → Shared → Prop} (S : St w s₀ g₀ X L m (p :: (l, lst vs n) :: c) g s) (hsz : vs.length ≤ 2 ^ 20)
    (h : ∀ n s', St w s₀ g₀ X L m (p :: (l, lst (vs ++ [x]) n) :: c) g s' → Q .none s') : wpAny (model prog w) A (call (.builtin "list.append") [.ref l, x]) Q E s :=
  append0 S.swap hsz fun n s' S' => h n s' S'.swap
theorem St.rot {p q r : Addr × Obj} (S : St w s₀ g₀ X L m (p :: q :: r :: c) g s) : St w s₀ g₀ X L m (r :: p :: q :: c) g s :=
  S.cells (fun x h => by simp only [List.mem_cons] at h ⊢; rcases h with h | h | h | h <;> simp [h]) (by
    have := S.nd
    simp only [List.map_cons, List.nodup_cons, List.mem_cons, not_or] at this ⊢
    exact ⟨⟨Ne.symm this.1.2.1, Ne.symm this.2.1.1, this.2.2.1⟩, ⟨this.1.1, this.1.2.2⟩, this.2.1.2, this.2.2.2⟩)
theorem St.unrot {p q r : Addr × Obj} (S : St w s₀ g₀ X L m (r :: p :: q :: c) g s) : St w s₀ g₀ X L m (p :: q :: r :: c) g s := S.rot.rot
theorem append2 {p q : Addr × Obj} {l : Addr} {vs : List Value} {n : Nat} {x : Value} {Q : Value → Shared → Prop} (S : St w s₀ g₀ X L m (p :: q :: (l, lst vs n) :: c) g s) (hsz : vs.length ≤ 2 ^ 20)
    (h : ∀ n s', St w s₀ g₀ X L m (p :: q :: (l, lst (vs ++ [x]) n) :: c) g s' → Q .none s') : wpAny (model prog w) A (call (.builtin "list.append") [.ref l, x]) Q E s :=
  append0 S.rot hsz fun n s' S' => h n s' S'.unrot
theorem gm_append {l : Addr} {vs : List Value} {n : Nat} {pl : Sem Bool} {Q : Value × List Value → Shared → Prop} (S : St w s₀ g₀ X L m c g s) (hm : (l, lst vs n) ∈ c) (h : Q (.builtin "list.append", [.ref l]) s) :
    wpAny M A (getMethod (.ref l) "append" pl) Q E s := getMethod_list_append (S.cell hm) rfl rfl h
theorem fmod_pos (a : Int) {b : Int} (h : 0 < b) : Int.fmod a b = a % b := Int.fmod_eq_emod_of_nonneg a (by omega)
theorem fdiv_pos (a : Int) {b : Int} (h : 0 < b) : Int.fdiv a b = a / b := Int.fdiv_eq_ediv_of_nonneg a (by omega)
theorem mod_pos {a b : Int} {t u : Tok} {Q : Value → Shared → Prop} (S : St w s₀ g₀ X L m c g s) (hb : 0 < b) (h : ∀ t s', St w s₀ g₀ X L m c g s' → Q (.int (a % b) t) s') : wpAny (model prog w) A (binaryOp .Mod (.int a t) (.int b u)) Q E s :=
  PyProof.Rows.mod_int (by omega) (by rw [fmod_pos a hb]; exact h _ _ (S.toks _))
theorem div_pos {a b : Int} {t u : Tok} {Q : Value → Shared → Prop} (S : St w s₀ g₀ X L m c g s) (hb : 0 < b) (hb' : b < 1000000) (h : ∀ t s', St w s₀ g₀ X L m c g s' → Q (.int (a / b) t) s') : wpAny (model prog w) A (binaryOp .FloorDiv (.int a t) (.int b u)) Q E s :=
  PyProof.Rows.floordiv_int (by omega) (by rw [fdiv_pos a hb]; exact h _ _ (S.toks _)) (.inl (PyProof.noPylong_small (by omega)))
theorem add_int {a b : Int} {t u : Tok} {Q : Value → Shared → Prop} (S : St w s₀ g₀ X L m c g s) (h : ∀ t s', St w s₀ g₀ X L m c g s' → Q (.int (a + b) t) s') : wpAny (model prog w) A (binaryOp .Add (.int a t) (.int b u)) Q E s :=
  PyProof.Rows.add_int (h _ _ (S.toks _))
theorem iadd_str {a b : T} {t u : Tok} {Q : Value → Shared → Prop} (S : St w s₀ g₀ X L m c g s) (hl : a.length + b.length ≤ 2 ^ 20) (h : ∀ t s', St w s₀ g₀ X L m c g s' → Q (.str (Mine.S (a ++ b)) t) s') :
    wpAny (model prog w) A (inplaceOp .Add (.str (Mine.S a) t) (.str (Mine.S b) u)) Q E s :=
  PyProof.Rows.iadd_str (fun t' tk => by rw [S_add]; exact h _ _ (S.toks _)) (by rw [S_len, S_len, sizeLine_eq]; omega)
theorem add_str {a b : T} {t u : Tok} {Q : Value → Shared → Prop} (S : St w s₀ g₀ X L m c g s) (hl : a.length + b.length ≤ 2 ^ 20) (h : ∀ t s', St w s₀ g₀ X L m c g s' → Q (.str (Mine.S (a ++ b)) t) s') :
    wpAny (model prog w) A (binaryOp .Add (.str (Mine.S a) t) (.str (Mine.S b) u)) Q E s :=
  PyProof.Rows.add_str (fun t' tk => by rw [S_add]; exact h _ _ (S.toks _)) (by rw [S_len, S_len, sizeLine_eq]; omega)
theorem item_str {value slice : Expr} {l : T} {t u : Tok} {i : Int} {ch : Nat} {Q : Value → Shared → Prop} (S : St w s₀ g₀ X L m c g s) (h0 : 0 ≤ i) (h1 : i < 2 ^ 62) (hc : l[i.toNat]? = some ch) (h : ∀ t s', St w s₀ g₀ X L m c g s' → Q (.str (Mine.S [ch]) t) s')
    (hs : subscripted slice false (.str (Mine.S l) t) (.int i u) = operate [.str (Mine.S l) t, .int i u] (getItem (.str (Mine.S l) t) (.int i u)) := by with_unfolding_all rfl) :
    wpAny (model prog w) A (subscriptTail value slice (.str (Mine.S l) t) (.int i u)) Q E s := by
  refine tail_any (T := "str") (typeIs_str _ _ _) F.slot_str_getitem.lookup (PyProof.Rows.getItem_str (c := ch) ?_ ?_ (h _ _ (S.toks _))) hs
  · simp only [Bool.or_eq_false_iff, decide_eq_false_iff_not]; omega
  · have hlt : i.toNat < l.length := by
      rcases Nat.lt_or_ge i.toNat l.length with q | q
      · exact q
      · rw [List.getElem?_eq_none q] at hc; cases hc
    have : seqIndex? i (Mine.S l).length = some i.toNat := by
      rw [S_len]; unfold seqIndex?
      have e0 : ¬ i < 0 := by omega
      simp [e0]; omega
    rw [this]
    simpa [S_cps] using hc
theorem sub_list_ns {value slice : Expr} {l : Addr} {vs : List Value} {b : Nat} {ui : Tok} {Q : Value → Shared → Prop} (S : St w s₀ g₀ X L m c g s) (hl : LstAt g l vs) (hsz : vs.length ≤ 2 ^ 20)
    (h : ∀ r g' s', Le g g' → St w s₀ g₀ X L m c g' s' → LstAt g' r (vs.take b) → Q (.ref r) s')
    (hs : subscripted slice false (.ref l) (.ref s.heap.objs.size) = operate [.ref s.heap.objs.size, .ref l] (getItem (.ref l) (.ref s.heap.objs.size)) := by with_unfolding_all rfl) :
    wpAny (model prog w) A (subscriptTail value slice (.ref l) (.ref s.heap.objs.size)) Q E { s with heap := s.heap.push { cls := .type "slice", data := .fields #[.none, .int b ui, .none] } } := by
  have S' := S.push { cls := .type "slice", data := .fields #[.none, .int b ui, .none] } s.toks
  have hL : (s.heap.push { cls := .type "slice", data := .fields #[.none, .int b ui, .none] }).IsList l vs.toArray := (hl.mono S'.gg).isList
  refine tail_any (T := "list") hL.typeIs slot_list_getitem.lookup (wpAny_getItem_list_slice hL (Heap.IsSliceOf.new ..) .none (.int _ _) .none (by simp) ?_ (by rw [List.size_toArray, sizeLine_eq]; omega)) hs
  rw [slicePick_upto']
  have S2 := S'.pushF { cls := .type "list", data := .seq (vs.toArray.toList.take b).toArray } s.toks
  refine h _ _ _ (Mem.le_put ?_) S2 ⟨_, Mem.put_self .., rfl, 0, by simp⟩
  exact S'.none_at (get_size _)
end
end

-- PART B8 --
section
open PySem PySem.W PySem.Calls PyProof.Rows
section
variable {M : Model} {prog : Program} {w : World} {A : Around} {E : Value → Shared → Prop} {s₀ s s' : Shared} {g₀ g g' : Mem} {X : List Addr} {L : Addr} {m : Str → Option Value} {c : List (Addr × Obj)} {env : Env}
theorem eqI {a b : Int} {t u : Tok} {Q : Value → Shared → Prop} (h : Q (.bool (a == b)) s) : wpAny (model prog w) A (compareOp .Eq (.int a t) (.int b u)) Q E s := PyProof.Rows.eq_int h
theorem geI {a b : Int} {t u : Tok} {Q : Value → Shared → Prop} (h : Q (.bool (decide (b ≤ a))) s) : wpAny (model prog w) A (compareOp .GtE (.int a t) (.int b u)) Q E s := PyProof.Rows.ge_int h
theorem leI {a b : Int} {t u : Tok} {Q : Value → Shared → Prop} (h : Q (.bool (decide (a ≤ b))) s) : wpAny (model prog w) A (compareOp .LtE (.int a t) (.int b u)) Q E s := PyProof.Rows.le_int h
theorem gtI {a b : Int} {t u : Tok} {Q : Value → Shared → Prop} (h : Q (.bool (decide (b < a))) s) : wpAny (model prog w) A (compareOp .Gt (.int a t) (.int b u)) Q E s := PyProof.Rows.gt_int h
theorem eqS {a b : T} {t u : Tok} {Q : Value → Shared → Prop} (h : Q (.bool (decide (a = b))) s) : wpAny (model prog w) A (compareOp .Eq (.str (S a) t) (.str (S b) u)) Q E s := by
  refine PyProof.Rows.eq_str ?_
  have : (S a == S b) = decide (a = b) := by
    by_cases q : a = b
    · subst q; simp
    · rw [decide_eq_false q]; exact beq_eq_false_iff_ne.mpr fun e => q (S_inj.mp e)
  rw [this]; exact h
theorem isNone {v : Value} {Q : Value → Shared → Prop} (h : Q (.bool (v == .none)) s) : wpAny M A (compareOp .Is v .none) Q E s := is_none_gen h
theorem isntNone {v : Value} {Q : Value → Shared → Prop} (h : Q (.bool (!(v == .none))) s) : wpAny M A (compareOp .IsNot v .none) Q E s := isnot_none_gen h
theorem item_list {value slice : Expr} {l : Addr} {vs : List Value} {i : Int} {u : Tok} {v : Value} {Q : Value → Shared → Prop} (S : St w s₀ g₀ X L m c g s) (hl : LstAt s.heap.get? l vs) (h0 : 0 ≤ i) (h1 : i < 2 ^ 62) (hv : vs[i.toNat]? = some v) (h : Q v s)
    (hs : subscripted slice false (.ref l) (.int i u) = operate [.ref l, .int i u] (getItem (.ref l) (.int i u)) := by with_unfolding_all rfl) :
    wpAny (model prog w) A (subscriptTail value slice (.ref l) (.int i u)) Q E s :=
  tail_any (T := "list") hl.isList.typeIs slot_list_getitem.lookup (wpAny_getItem_list hl.isList h0 (by omega) (by simpa using hv) h) hs
theorem item_tup {value slice : Expr} {l : Addr} {vs : List Value} {i : Int} {u : Tok} {v : Value} {Q : Value → Shared → Prop} (S : St w s₀ g₀ X L m c g s) (hl : TupAt s.heap.get? l vs) (h0 : 0 ≤ i) (h1 : i < 2 ^ 62) (hv : vs[i.toNat]? = some v) (h : Q v s)
    (hs : subscripted slice false (.ref l) (.int i u) = operate [.ref l, .int i u] (getItem (.ref l) (.int i u)) := by with_unfolding_all rfl) :
    wpAny (model prog w) A (subscriptTail value slice (.ref l) (.int i u)) Q E s := by
  refine item_tupleT (j := i.toNat) hl.isTup (by omega) (by omega) ?_ hv h hs
  have hlt : i.toNat < vs.length := by
    rcases Nat.lt_or_ge i.toNat vs.length with q | q
    · exact q
    · rw [List.getElem?_eq_none q] at hv; cases hv
  unfold seqIndex?
  have e0 : ¬ i < 0 := by omega
  simp [e0]; omega
theorem len_list {l : Addr} {vs : List Value} {Q : Value → Shared → Prop} (S : St w s₀ g₀ X L m c g s) (hl : LstAt s.heap.get? l vs) (hn : vs.length < 2 ^ 24) (h : ∀ t s', St w s₀ g₀ X L m c g s' → Q (.int vs.length t) s') :
    wpAny (model prog w) A (call (.builtin "len") [.ref l]) Q E s :=
  call_len_list hl.isList (by rw [List.size_toArray]; omega) (by rw [List.size_toArray]; exact h _ _ (S.toks _))
theorem len_tup {l : Addr} {vs : List Value} {Q : Value → Shared → Prop} (S : St w s₀ g₀ X L m c g s) (hl : TupAt s.heap.get? l vs) (hn : vs.length < 2 ^ 24) (h : ∀ t s', St w s₀ g₀ X L m c g s' → Q (.int vs.length t) s') :
    wpAny (model prog w) A (call (.builtin "len") [.ref l]) Q E s :=
  PyProof.Rows.len_tuple hl.isTup (by rw [List.size_toArray]; omega) (by rw [List.size_toArray]; exact h _ _ (S.toks _))
theorem truthyI {a : Int} {t : Tok} {Q : Bool → Shared → Prop} (h : Q (a != 0) s) : wpAny (model prog w) A (truthy (.int a t)) Q E s := PyProof.Rows.truthy_int h
theorem truthyS {l : T} {t : Tok} {Q : Bool → Shared → Prop} (S : St w s₀ g₀ X L m c g s) (hl : l.length < 2 ^ 24) (h : ∀ s', St w s₀ g₀ X L m c g s' → Q (!l.isEmpty) s') : wpAny (model prog w) A (truthy (.str (Mine.S l) t)) Q E s := by
  refine PySem.P.truthy_str (by rw [S_len]; omega) ?_
  have : (((Mine.S l).length : Int) != 0) = !l.isEmpty := by rw [S_len]; cases l <;> simp <;> omega
  rw [this]; exact h _ (S.toks _)
end
end

-- PART B9 --
section
open PySem PySem.W PySem.Calls PyProof.Rows
structure Row where
  p : Nat
  names : List T
  val : T
def IsTs (g : Mem) (v : Value) (ts : List T) : Prop := ∃ a vs, v = .ref a ∧ TupAt g a vs ∧ All2 IsT vs ts
theorem IsTs.mono {g g' : Mem} {v : Value} {ts : List T} (h : IsTs g v ts) (k : Le g g') : IsTs g' v ts := let ⟨a, vs, h1, h2, h3⟩ := h; ⟨a, vs, h1, h2.mono k, h3⟩
def IsRow (g : Mem) (v : Value) (r : Row) : Prop := ∃ a v1 v2 v3 t, v = .ref a ∧ TupAt g a [v1, v2, v3] ∧ v1 = .int (r.p : Int) t ∧ IsTs g v2 r.names ∧ IsT v3 r.val
theorem IsRow.mono {g g' : Mem} {v : Value} {r : Row} (h : IsRow g v r) (k : Le g g') : IsRow g' v r :=
  let ⟨a, v1, v2, v3, t, h1, h2, h3, h4, h5⟩ := h; ⟨a, v1, v2, v3, t, h1, h2.mono k, h3, h4.mono k, h5⟩
theorem all2_rows {g g' : Mem} (k : Le g g') {vs : List Value} {rs : List Row} (h : All2 (IsRow g) vs rs) : All2 (IsRow g') vs rs := h.mono fun _ _ x => x.mono k
section
variable {M : Model} {prog : Program} {w : World} {A : Around} {E : Value → Shared → Prop} {s₀ s s' : Shared} {g₀ g g' : Mem} {X : List Addr} {L : Addr} {m : Str → Option Value} {c : List (Addr × Obj)} {env : Env}
theorem e_tup {elts : List Expr} {k : Nat} {pos : Pos} {Q : Value → Shared → Prop}
    (h : wpAny M A (spliced (backTo pos (starEach elts env))) (fun vs s₁ => wpAny M A (newTuple vs) Q E s₁) E s) : wpAny M A (eval (.Tuple elts k pos) env) Q E s := Tuple_ h
theorem newTup {vs : List Value} {Q : Value → Shared → Prop} (S : St w s₀ g₀ X L m c g s) (hsz : vs.length ≤ 1000)
    (h : ∀ r g' s', Le g g' → St w s₀ g₀ X L m c g' s' → TupAt g' r vs → Q (.ref r) s') : wpAny M A (newTuple vs) Q E s := by
  refine wpAny_newObj_type (h _ _ _ (Mem.le_put (S.none_at (get_size _))) (S.pushF _ s.toks) ⟨_, Mem.put_self .., rfl, 0, rfl⟩) ?_
  show vs.toArray.size ≤ sizeLine
  rw [List.size_toArray, sizeLine_eq]; omega
end
end

section
local macro_rules | `(tactic| walk_at "lk") => `(tactic| first | with_reducible assumption | with_reducible exact up_self _ _ _ | with_reducible exact up_get (by with_unfolding_all decide) (by walk_at "lk") | with_unfolding_all rfl)
local macro_rules | `(tactic| walk_at "g") => `(tactic| with_reducible first
  | refine s_assign ?_
  | refine s_setattr ?_
  | refine s_setitem ?_
  | refine s_assign2 ?_
  | refine s_ret ?_
  | refine s_if1 ?_
  | refine s_if ?_
  | refine s_for ?_
  | refine s_aug ?_
  | refine s_expr ?_
  | refine s_nil ?_
  | refine s_continue ?_
  | refine s_break ?_
  | refine t_cmp ?_
  | refine t_not ?_
  | refine t_or ?_
  | refine t_or1 ?_
  | refine t_and ?_
  | refine t_and1 ?_
  | refine e_or ?_
  | refine e_and ?_
  | refine e_bool1 ?_
  | refine e_attr ?_
  | refine GM.isupper ?_
  | refine GM.split ?_
  | refine GM.join ?_
  | refine GM.endswith ?_
  | refine endswith1 ?_
  | refine e_mcall ?_
  | refine e_call ?_
  | refine e_sub ?_
  | refine e_bin ?_
  | refine e_ite ?_
  | refine s_assert ?_
  | refine e_neg ?_
  | (refine neg_i (by assumption) ?_; intro _ _ _)
  | refine e_cmp ?_
  | refine e_slice_sn ?_
  | refine e_slice_ns ?_
  | refine e_slice_ss ?_
  | refine a_nil ?_
  | refine a_cons ?_
  | refine c_type ?_
  | refine c_builtin ?_
  | refine c_meth ?_
  | refine c_builtin0 ?_
  | (refine cint (by assumption) ?_; intro _ _ _)
  | (refine cstr (by assumption) ?_; intro _ _ _)
  | refine wpAny_Constant_none ?_
  | refine wpAny_Constant_bool ?_
  | refine ldl (by assumption) (by walk_at "lk") ?_
  | refine ldlN (by assumption) (by walk_at "lk") ?_
  | refine ldn (by assumption) (by with_unfolding_all rfl) ?_
  | (refine stl (by assumption) ?_; intro _ _)
  | (refine max2 (by assumption) (by with_unfolding_all assumption) ?_; intro _ _ _)
  | (refine min2 (by assumption) (by with_unfolding_all assumption) ?_; intro _ _ _)
  | (refine Mine.sub_int (by assumption) ?_; intro _ _ _)
  | (refine Mine.add_int (by assumption) ?_; intro _ _ _)
  | (refine Mine.mod_pos (by assumption) (by omega) ?_; intro _ _ _)
  | (refine Mine.div_pos (by assumption) (by omega) (by omega) ?_; intro _ _ _)
  | (refine Mine.len_str (by assumption) (by omega) ?_; intro _ _ _)
  | refine gm_append (by assumption) (by with_unfolding_all k_mem) ?_
  | (refine append0 (by assumption) (by omega) ?_; intro _ _ _)
  | (refine append1 (by assumption) (by omega) ?_; intro _ _ _)
  | (refine append2 (by assumption) (by omega) ?_; intro _ _ _)
  | refine e_tup ?_
  | refine e_listF ?_
  | refine eqI ?_
  | refine geI ?_
  | refine leI ?_
  | refine gtI ?_
  | refine eqS ?_
  | refine isNone ?_
  | refine isntNone ?_
  | refine And.intro rfl ?_
  | refine wpAny_truthy_bool ?_
  | refine t_val ?_)
local macro_rules | `(tactic| walk_at "gg") => `(tactic| repeat' (first | walk_at "g" | dsimp only))
local macro_rules | `(tactic| walk_at "h") => `(tactic| with_reducible first
  | refine s_assign ?_
  | refine s_setattr ?_
  | refine s_setitem ?_
  | refine s_assign2 ?_
  | refine s_ret ?_
  | refine s_if1 ?_
  | refine s_if ?_
  | refine s_for ?_
  | refine s_aug ?_
  | refine s_expr ?_
  | refine s_nil ?_
  | refine s_continue ?_
  | refine s_break ?_
  | refine e_or ?_
  | refine e_and ?_
  | refine e_bool1 ?_
  | refine e_attr ?_
  | refine GM.isupper ?_
  | refine GM.split ?_
  | refine GM.join ?_
  | refine GM.endswith ?_
  | refine endswith1 ?_
  | refine e_mcall ?_
  | refine e_call ?_
  | refine e_sub ?_
  | refine e_bin ?_
  | refine e_ite ?_
  | refine s_assert ?_
  | refine e_neg ?_
  | (refine neg_i (by assumption) ?_; intro _ _ _)
  | refine e_cmp ?_
  | refine e_slice_sn ?_
  | refine e_slice_ns ?_
  | refine e_slice_ss ?_
  | refine a_nil ?_
  | refine a_cons ?_
  | refine c_type ?_
  | refine c_builtin ?_
  | refine c_meth ?_
  | refine c_builtin0 ?_
  | (refine cint (by assumption) ?_; intro _ _ _)
  | (refine cstr (by assumption) ?_; intro _ _ _)
  | refine wpAny_Constant_none ?_
  | refine wpAny_Constant_bool ?_
  | refine ldl (by assumption) (by walk_at "lk") ?_
  | refine ldlN (by assumption) (by walk_at "lk") ?_
  | refine ldn (by assumption) (by with_unfolding_all rfl) ?_
  | (refine stl (by assumption) ?_; intro _ _)
  | (refine max2 (by assumption) (by with_unfolding_all assumption) ?_; intro _ _ _)
  | (refine min2 (by assumption) (by with_unfolding_all assumption) ?_; intro _ _ _)
  | (refine Mine.sub_int (by assumption) ?_; intro _ _ _)
  | (refine Mine.add_int (by assumption) ?_; intro _ _ _)
  | (refine Mine.mod_pos (by assumption) (by omega) ?_; intro _ _ _)
  | (refine Mine.div_pos (by assumption) (by omega) (by omega) ?_; intro _ _ _)
  | (refine Mine.len_str (by assumption) (by omega) ?_; intro _ _ _)
  | refine gm_append (by assumption) (by with_unfolding_all k_mem) ?_
  | (refine append0 (by assumption) (by omega) ?_; intro _ _ _)
  | (refine append1 (by assumption) (by omega) ?_; intro _ _ _)
  | (refine append2 (by assumption) (by omega) ?_; intro _ _ _)
  | refine e_tup ?_
  | refine e_listF ?_
  | refine eqI ?_
  | refine geI ?_
  | refine leI ?_
  | refine gtI ?_
  | refine eqS ?_
  | refine isNone ?_
  | refine isntNone ?_
  | refine And.intro rfl ?_
  | refine wpAny_truthy_bool ?_)
local macro_rules | `(tactic| walk_at "hh") => `(tactic| repeat' (first | walk_at "h" | dsimp only))

-- PART F1 --
section
open PySem PySem.W PySem.Calls PyProof.Rows
def longest (has : T → Bool) (l : T) : T := (((List.range (min 4 l.length)).map fun i => l.drop (l.length - 4 + i)).find? has).getD []
theorem longest_here {has : T → Bool} {l : T} {i : Nat} (hi : i < min 4 l.length) (hno : ∀ j, j < i → has (l.drop (l.length - 4 + j)) = false) (hb : has (l.drop (l.length - 4 + i)) = true) : longest has l = l.drop (l.length - 4 + i) := by
  unfold longest
  have : ((List.range (min 4 l.length)).map fun i => l.drop (l.length - 4 + i)).find? has = some (l.drop (l.length - 4 + i)) := by
    rw [List.find?_map, List.find?_range_eq_some.mpr ⟨hb, by simp; exact hi, fun j hj => by simp; exact hno j hj⟩]
    rfl
  rw [this]; rfl
theorem longest_none {has : T → Bool} {l : T} (hno : ∀ j, j < min 4 l.length → has (l.drop (l.length - 4 + j)) = false) : longest has l = [] := by
  unfold longest
  have : ((List.range (min 4 l.length)).map fun i => l.drop (l.length - 4 + i)).find? has = none := by
    rw [List.find?_eq_none]
    intro x hx
    obtain ⟨j, hj, rfl⟩ := List.mem_map.mp hx
    rw [hno j (List.mem_range.mp hj)]; decide
  rw [this]; rfl
section
variable {prog : Program} {w : World} {A : Around} {s : Shared} {g : Mem}
def hasK (kvs : List (Str × Value)) (x : T) : Bool := (valueAt kvs (S x)).isSome
theorem longest_spec (hr : Room A 2) (B : Base w g) (hg : Le g s.heap.get?) {told : T} {t : Tok} {kd : Addr} {od : Obj} {kvs : List (Str × Value)} (hl : told.length ≤ 2 ^ 20)
    (hk : s.heap.get? kd = some od) (hkd : (kd == sysModules) = false) (D : DictObj prog w od kvs) {R : Result → Shared → Prop} (h : ∀ t' s', Post [] s g s' g → R (.ok (.ret (.str (S (longest (hasK kvs) told)) t'))) s') :
    codeAny (model prog w) A (.call (.ref 778) ⟨[.str (S told) t, .ref kd], []⟩) R s := by
  refine callF (g := s.heap.get?) [("told", .str (S told) t), ("kinds", .ref kd)] (B.mono hg) (Le.refl _) (f := 778) rfl (by kernel_rfl) hr.lt (BindsTo.of_eq rfl) rfl (by decide) fun L s₁ S₁ => ?_
  walk_at "gg"
  refine max2 (by assumption) (by exact hr.hd) ?_; intro _ _ _
  walk_at "gg"
  refine call_range2 (by assumption) ?_; intro s₂ r _ _ _ S₂ hR
  walk_at "gg"
  have hsz : told.length ≤ sizeLine := by rw [sizeLine_eq]; omega
  have e1 : max (0 : Int) ((told.length : Int) - 4) = ((told.length - 4 : Nat) : Int) := by omega
  rw [e1] at hR
  refine range_loop S₂ hR hr.hd (min 4 told.length) (by rw [rangeSize_one]; split <;> omega) (small_one (by omega) (by omega) (by omega) (by omega))
    (fun i g' m' c' => c' = [] ∧ (∃ mk, m' = mk ∧ mk "told" = some (.str (S told) t) ∧ mk "kinds" = some (.ref kd)) ∧ ∀ j, j < i → hasK kvs (told.drop (told.length - 4 + j)) = false)
    ⟨rfl, ⟨_, rfl, rfl, rfl⟩, fun j hj => by omega⟩ ?_ ?_
  · rintro it o i g' m' c' s₃ tk E' hi hle ⟨rfl, ⟨mk, rfl, hm1, hm2⟩, hno⟩ S₃
    have e2 : ((told.length - 4 : Nat) : Int) + (i : Int) = ((told.length - 4 + i : Nat) : Int) := by omega
    rw [e2] at S₃
    walk_at "gg"
    refine sub_str_sn (by assumption) (by rw [S_len]; exact hsz) ?_; intro _ _ _
    rw [slice_sn]
    walk_at "gg"
    refine in_dict (by assumption) (by exact St.keep (by assumption) _ _ (by simp) hk) D ?_ hkd; intro s₄ S₄
    walk_at "gg"
    split
    · rename_i hb
      walk_at "gg"
      refine sub_str_sn (by assumption) (by rw [S_len]; exact hsz) ?_; intro t₅ s₅ S₅
      rw [slice_sn]
      rw [← longest_here hi hno hb]
      exact h _ _ (S₅.post.shrink hg)
    · rename_i hb
      walk_at "gg"
      refine ⟨g', _, [], hle, S₄, rfl, ⟨_, rfl, up_get (by decide) hm1, up_get (by decide) hm2⟩, fun j hj => ?_⟩
      rcases Nat.lt_succ_iff_lt_or_eq.mp hj with q | rfl
      · exact hno j q
      · exact Bool.eq_false_iff.mpr hb
  · rintro g' m' c' s₃ E' hle ⟨rfl, ⟨mk, rfl, hm1, hm2⟩, hno⟩ S₃
    walk_at "gg"
    rename_i t₅ s₅ S₅
    have h' := h t₅ s₅ (S₅.post.shrink hg)
    rw [longest_none hno] at h'
    exact h'
end
end

-- PART F2 --
section
open PySem PySem.W PySem.Calls PyProof.Rows
def abc (x : Nat) : Prop := x = 97 ∨ x = 98 ∨ x = 99
def WordOk (t : T) : Prop := 1 ≤ t.length ∧ t.length ≤ 4 ∧ ∀ x ∈ t, abc x
def IsInt (v : Value) (i : Int) : Prop := ∃ t, v = .int i t
section
variable {prog : Program} {w : World} {A : Around} {s : Shared} {g : Mem}
theorem str_abc : Str.ofString "abc" = S [97, 98, 99] := by decide +kernel
theorem str_nil : Str.ofString "" = S [] := by decide +kernel
theorem found_spec (hr : Room A 2) (B : Base w g) (hg : Le g s.heap.get?) {sl : Addr} {vs : List Value} {ns : List Int} (hl : LstAt g sl vs) (hv : All2 IsInt vs ns) (hn : vs.length ≤ 63)
    {R : Result → Shared → Prop} (h : ∀ fl ws us s' g', Post [] s g s' g' → s.heap.objs.size ≤ fl → LstAt g' fl us → All2 IsT us ws → (∀ x ∈ ws, WordOk x) → ws.length = min 4 vs.length → R (.ok (.ret (.ref fl))) s') :
    codeAny (model prog w) A (.call (.ref 764) ⟨[.ref sl], []⟩) R s := by
  refine callF (g := g) [("script", .ref sl)] B hg (f := 764) rfl (by kernel_rfl) hr.lt (BindsTo.of_eq rfl) rfl (by decide) fun L s₁ S₁ => ?_
  walk_at "gg"
  refine e_list0 (by assumption) ?_; intro fl s₂ S₂ hfl
  walk_at "gg"
  refine sub_list_ns (b := 4) (by assumption) hl (by omega) ?_; intro rl g₂ s₃ hle₂ S₃ hrl
  walk_at "gg"
  obtain ⟨ol, hol, hc, k, hd⟩ := hrl
  refine list_loop S₃ hol hc hd hr.hd (fun i g' m' c' => (∃ us ws n, c' = [(fl, lst us n)] ∧ All2 IsT us ws ∧ (∀ x ∈ ws, WordOk x) ∧ ws.length = i) ∧ m' "found" = some (.ref fl)) ⟨⟨[], [], 0, rfl, trivial, by simp, rfl⟩, by walk_at "lk"⟩ ?_ ?_
  · rintro it o i g' m' c' s₄ v E' hi hle ⟨⟨us, ws, n, rfl, hu, hw, hwl⟩, hm⟩ S₄
    obtain ⟨nn, hnn, hvn⟩ := (All2.get hv (i := i) (a := v) (by
      rw [List.getElem?_toArray] at hi
      rw [List.getElem?_take] at hi
      split at hi
      · exact hi
      · cases hi))
    obtain ⟨tn, rfl⟩ := hvn
    walk_at "gg"
    refine call_range1 (by assumption) ?_; intro s₅ r₅ _ _ _ S₅ hR₅
    have hb0 : 0 ≤ nn % 324 % 4 ∧ nn % 324 % 4 < 4 := by omega
    refine range_loop S₅ hR₅ hr.hd (nn % 324 % 4 + 1).toNat (by rw [rangeSize_one]; split <;> omega) (small_one (by omega) (by omega) (by omega) (by omega))
      (fun j g'' m'' c'' => c'' = [(it, o), (fl, lst us n)] ∧ (∃ l tk, m'' "word" = some (.str (S l) tk) ∧ l.length = j ∧ ∀ x ∈ l, abc x) ∧ (∃ q tk, m'' "rest" = some (.int q tk) ∧ 0 ≤ q ∧ q < 324) ∧ m'' "found" = some (.ref fl)) ⟨rfl, ⟨[], _, by rw [← str_nil]; walk_at "lk", rfl, by simp⟩, ⟨_, _, by walk_at "lk", by omega, by omega⟩, by walk_at "lk"⟩ ?_ ?_
    · rintro it₂ o₂ j g'' m'' c'' s₆ tk E'' hj hle₆ ⟨rfl, ⟨l, tl, hm1, hll, hla⟩, ⟨q, tq, hm2, hq0, hq1⟩, hm3⟩ S₆
      walk_at "gg"
      rw [str_abc]
      have hq3 : 0 ≤ q % 3 ∧ q % 3 < 3 := by omega
      obtain ⟨ch, hch, hab⟩ : ∃ ch, [97, 98, 99][(q % 3).toNat]? = some ch ∧ abc ch := by
        have : (q % 3).toNat = 0 ∨ (q % 3).toNat = 1 ∨ (q % 3).toNat = 2 := by omega
        rcases this with e | e | e <;> rw [e]
        · exact ⟨97, rfl, .inl rfl⟩
        · exact ⟨98, rfl, .inr (.inl rfl)⟩
        · exact ⟨99, rfl, .inr (.inr rfl)⟩
      refine item_str (by assumption) (by omega) (by omega) hch ?_; intro _ _ _
      refine iadd_str (by assumption) (by simp; omega) ?_; intro _ _ _
      walk_at "gg"
      refine ⟨g'', _, _, hle₆, by assumption, rfl, ⟨l ++ [ch], _, by walk_at "lk", by simp [hll], ?_⟩, ⟨q / 3, _, by walk_at "lk", by omega, by omega⟩, by walk_at "lk"⟩
      intro x hx
      rcases List.mem_append.mp hx with hx | hx
      · exact hla x hx
      · rw [List.mem_singleton.mp hx]; exact hab
    · rintro g'' m'' c'' s₆ E'' hle₆ ⟨rfl, ⟨l, tl, hm1, hll, hla⟩, ⟨q, tq, hm2, hq0, hq1⟩, hm3⟩ S₆
      have hul := hu.length
      have hi4 : i < 4 := by
        rw [List.getElem?_toArray] at hi
        rcases Nat.lt_or_ge i 4 with q | q
        · exact q
        · rw [List.getElem?_eq_none (by rw [List.length_take]; omega)] at hi; cases hi
      walk_at "gg"
      refine ⟨g'', _, _, hle.trans hle₆, by assumption, ⟨us ++ [.str (S l) tl], ws ++ [l], _, rfl, hu.snoc ⟨_, rfl⟩, ?_, by simp [hwl]⟩, by walk_at "lk"⟩
      intro x hx
      rcases List.mem_append.mp hx with hx | hx
      · exact hw x hx
      · rw [List.mem_singleton.mp hx]; exact ⟨by omega, by omega, hla⟩
  · rintro g' m' c' s₄ E' hle ⟨⟨us, ws, n, rfl, hu, hw, hwl⟩, hm⟩ S₄
    walk_at "gg"
    have SF := S₄.freeze (by simp)
    exact h fl ws us _ _ SF.post hfl ⟨_, Mem.put_self .., lst_is _ _⟩ hu hw (by rw [hwl]; simp)
end
end

-- PART F3 --
section
open PySem PySem.W PySem.Calls PyProof.Rows
def ToldOk (t : T) : Prop := ∀ x ∈ t, abc x ∨ x = 100 ∨ x = 10
theorem str_menu : Str.ofString "abcabcd\n" = S [97, 98, 99, 97, 98, 99, 100, 10] := by decide +kernel
section
variable {prog : Program} {w : World} {A : Around} {s : Shared} {g : Mem}
theorem told_spec (hr : Room A 2) (B : Base w g) (hg : Le g s.heap.get?) {sl fl : Addr} {vs us : List Value} {ns : List Int} {ws : List T} (hl : LstAt g sl vs) (hv : All2 IsInt vs ns) (hn : vs.length ≤ 63)
    (hf : LstAt g fl us) (hu : All2 IsT us ws) (hw : ∀ x ∈ ws, WordOk x) (hwl : ws.length = min 4 vs.length)
    {R : Result → Shared → Prop} (h : ∀ told t s', Post [] s g s' g → ToldOk told → told.length ≤ 24 → R (.ok (.ret (.str (S told) t))) s') :
    codeAny (model prog w) A (.call (.ref 771) ⟨[.ref sl, .ref fl], []⟩) R s := by
  refine callF (g := s.heap.get?) [("script", .ref sl), ("found", .ref fl)] (B.mono hg) (Le.refl _) (f := 771) rfl (by kernel_rfl) hr.lt (BindsTo.of_eq rfl) rfl (by decide) fun L s₁ S₁ => ?_
  walk_at "gg"
  refine sub_list_ns (b := 18) (by assumption) (hl.mono hg) (by omega) ?_; intro rl g₂ s₃ hle₂ S₃ hrl
  walk_at "gg"
  obtain ⟨ol, hol, hc, k, hd⟩ := hrl
  have hul := hu.length
  refine list_loop S₃ hol hc hd hr.hd (fun i g' m' c' => c' = [] ∧ (∃ l tk, m' "told" = some (.str (S l) tk) ∧ l.length ≤ 4 * i ∧ ToldOk l) ∧ m' "found" = some (.ref fl)) ⟨rfl, ⟨[], _, by rw [← str_nil]; walk_at "lk", by simp, by intro x hx; simp at hx⟩, by walk_at "lk"⟩ ?_ ?_
  · rintro it o i g' m' c' s₄ v E' hi hle ⟨rfl, ⟨l, tl, hm1, hll, hla⟩, hm2⟩ S₄
    have hi18 : i < 18 ∧ vs[i]? = some v := by
      rw [List.getElem?_toArray, List.getElem?_take] at hi
      split at hi
      · exact ⟨by assumption, hi⟩
      · cases hi
    obtain ⟨nn, hnn, tn, rfl⟩ := All2.get hv hi18.2
    have hne : 0 < vs.length := by
      rcases Nat.eq_zero_or_pos vs.length with q | q
      · rw [List.length_eq_zero_iff.mp q] at hi18; simp at hi18
      · exact q
    have hfl : LstAt g' fl us := ⟨_, hle _ _ (hle₂ _ _ (hg _ _ hf.choose_spec.1)), hf.choose_spec.2⟩
    walk_at "gg"
    split
    · walk_at "gg"
      refine len_list (by assumption) (hfl.mono (St.gg (by assumption))) (by omega) ?_; intro _ _ _
      have hpos : (0 : Int) < us.length := by omega
      walk_at "gg"
      have hb : 0 ≤ nn / 3 % (us.length : Int) ∧ nn / 3 % (us.length : Int) < us.length := ⟨Int.emod_nonneg _ (by omega), Int.emod_lt_of_pos _ hpos⟩
      obtain ⟨u, hu1⟩ : ∃ u, us[(nn / 3 % (us.length : Int)).toNat]? = some u := ⟨_, List.getElem?_eq_getElem (by omega)⟩
      obtain ⟨wd, hwd, tw, rfl⟩ := All2.get hu hu1
      have hok := hw wd (List.mem_of_getElem? hwd)
      refine item_list (by assumption) (hfl.mono (St.gg (by assumption))) hb.1 (by omega) hu1 ?_
      refine iadd_str (by assumption) (by have := hok.2.1; omega) ?_; intro _ _ _
      walk_at "gg"
      refine ⟨g', _, _, hle, by assumption, rfl, ⟨l ++ wd, _, by walk_at "lk", by have := hok.2.1; simp; omega, ?_⟩, by walk_at "lk"⟩
      intro x hx
      rcases List.mem_append.mp hx with hx | hx
      · exact hla x hx
      · exact .inl (hok.2.2 x hx)
    · walk_at "gg"
      rw [str_menu]
      have hb : 0 ≤ nn / 3 % 8 ∧ nn / 3 % 8 < 8 := by omega
      obtain ⟨ch, hch, hab⟩ : ∃ ch, [97, 98, 99, 97, 98, 99, 100, 10][(nn / 3 % 8).toNat]? = some ch ∧ (abc ch ∨ ch = 100 ∨ ch = 10) := by
        have : (nn / 3 % 8).toNat < 8 := by omega
        revert this
        generalize (nn / 3 % 8).toNat = q
        intro hq
        have hall : ∀ q : Fin 8, ([97, 98, 99, 97, 98, 99, 100, 10] : List Nat)[q.1]? = some ([97, 98, 99, 97, 98, 99, 100, 10] : List Nat)[q.1] ∧ ((([97, 98, 99, 97, 98, 99, 100, 10] : List Nat)[q.1] = 97 ∨ ([97, 98, 99, 97, 98, 99, 100, 10] : List Nat)[q.1] = 98 ∨ ([97, 98, 99, 97, 98, 99, 100, 10] : List Nat)[q.1] = 99) ∨ ([97, 98, 99, 97, 98, 99, 100, 10] : List Nat)[q.1] = 100 ∨ ([97, 98, 99, 97, 98, 99, 100, 10] : List Nat)[q.1] = 10) := by decide
        exact ⟨_, (hall ⟨q, hq⟩).1, (hall ⟨q, hq⟩).2⟩
      refine item_str (by assumption) hb.1 (by omega) hch ?_; intro _ _ _
      refine iadd_str (by assumption) (by simp; omega) ?_; intro _ _ _
      walk_at "gg"
      refine ⟨g', _, _, hle, by assumption, rfl, ⟨l ++ [ch], _, by walk_at "lk", by simp; omega, ?_⟩, by walk_at "lk"⟩
      intro x hx
      rcases List.mem_append.mp hx with hx | hx
      · exact hla x hx
      · rw [List.mem_singleton.mp hx]; exact hab
  · rintro g' m' c' s₄ E' hle ⟨rfl, ⟨l, tl, hm1, hll, hla⟩, hm2⟩ S₄
    walk_at "gg"
    have hl72 : l.length ≤ 72 := by
      simp at hll; omega
    refine sub_str_ns (by assumption) (by rw [S_len, sizeLine_eq]; omega) ?_; intro t₅ s₅ S₅
    rw [show ((24 : Int)) = ((24 : Nat) : Int) from rfl, slice_ns]
    refine h _ _ _ (S₅.post.shrink hg) (fun x hx => hla x (List.mem_of_mem_take hx)) (by simp; omega)
end
end

-- PART F4 --
section
open PySem PySem.W PySem.Calls PyProof.Rows
def tEsc : T := [69, 115, 99, 97, 112, 101]
theorem str_esc : Str.ofString "Escape" = S tEsc := by decide +kernel
def falls (has : T → Bool) (place : Nat) (told : T) (least : Nat) : List Row :=
  ((List.range (min 4 place + 1 - max 1 least)).filter fun i => has ((told.drop (place - (max 1 least + i))).take (max 1 least + i))).map fun _ => ⟨place, [tEsc], []⟩
section
variable {prog : Program} {w : World} {A : Around} {s : Shared} {g : Mem}
theorem falls_spec (hr : Room A 2) (B : Base w g) (hg : Le g s.heap.get?) {kd : Addr} {od : Obj} {kvs : List (Str × Value)} {place least : Nat} {told : T} {t u v : Tok} (hl : told.length ≤ 24) (hp : place ≤ 24) (hle : least ≤ 24)
    (hk : g kd = some od) (hkd : (kd == sysModules) = false) (D : DictObj prog w od kvs)
    {R : Result → Shared → Prop} (h : ∀ r us s' g', Post [] s g s' g' → s.heap.objs.size ≤ r → LstAt g' r us → All2 (IsRow g') us (falls (hasK kvs) place told least) → R (.ok (.ret (.ref r))) s') :
    codeAny (model prog w) A (.call (.ref 785) ⟨[.int place t, .str (S told) u, .int least v, .ref kd], []⟩) R s := by
  refine callF (g := g) [("place", .int place t), ("told", .str (S told) u), ("least", .int least v), ("kinds", .ref kd)] B hg (f := 785) rfl (by kernel_rfl) hr.lt (BindsTo.of_eq rfl) rfl (by decide) fun L s₁ S₁ => ?_
  have hh := hr.hd
  walk_at "gg"
  refine e_list0 (by assumption) ?_; intro rl s₂ S₂ hrl
  walk_at "gg"
  refine call_range2 (by assumption) ?_; intro s₃ rr _ _ _ S₃ hR
  walk_at "gg"
  have e1 : max (1 : Int) (least : Int) = ((max 1 least : Nat) : Int) := by omega
  rw [e1] at hR
  refine range_loop S₃ hR hh (min 4 place + 1 - max 1 least) (by rw [rangeSize_one]; split <;> omega) (small_one (by omega) (by omega) (by omega) (by omega))
    (fun i g' m' c' => (∃ us rs n, c' = [(rl, lst us n)] ∧ All2 (IsRow g') us rs ∧ us.length ≤ i ∧ rs = ((List.range i).filter fun i => hasK kvs ((told.drop (place - (max 1 least + i))).take (max 1 least + i))).map fun _ => ⟨place, [tEsc], []⟩) ∧
      m' "place" = some (.int place t) ∧ m' "told" = some (.str (S told) u) ∧ m' "kinds" = some (.ref kd) ∧ m' "rows" = some (.ref rl))
    ⟨⟨[], [], 0, rfl, trivial, by simp, rfl⟩, by walk_at "lk", by walk_at "lk", by walk_at "lk", by walk_at "lk"⟩ ?_ ?_
  · rintro it o i g' m' c' s₄ tk E' hi hle' ⟨⟨us, rs, n, rfl, hu, hul, hrs⟩, hm1, hm2, hm3, hm4⟩ S₄
    have e2 : ((max 1 least : Nat) : Int) + (i : Int) = ((max 1 least + i : Nat) : Int) := by omega
    rw [e2] at S₄
    walk_at "gg"
    refine sub_str_ss (by assumption) (by rw [S_len, sizeLine_eq]; omega) ?_; intro _ s₅ S₅
    rw [show ((place : Int) - ((max 1 least + i : Nat) : Int)) = ((place - (max 1 least + i) : Nat) : Int) by omega, slice_ss, show place - (place - (max 1 least + i)) = max 1 least + i by omega]
    walk_at "gg"
    refine in_dict (by assumption) (by exact St.gg (by assumption) _ _ (hle' _ _ hk)) D ?_ hkd; intro s₆ S₆
    walk_at "gg"
    split
    · rename_i hb
      walk_at "gg"
      refine newTup (by assumption) (by simp) ?_; intro nt g₁ s₇ hle₁ S₇ hnt
      walk_at "gg"
      refine newTup (by assumption) (by simp) ?_; intro rt g₂ s₈ hle₂ S₈ hrt
      walk_at "gg"
      have hle₃ := (hle'.trans hle₁).trans hle₂
      refine ⟨g₂, _, _, hle₃, by assumption, ⟨us ++ [.ref rt], rs ++ [⟨place, [tEsc], []⟩], _, rfl, (all2_rows (hle₁.trans hle₂) hu).snoc ?_, by simp; omega, ?_⟩, by walk_at "lk", by walk_at "lk", by walk_at "lk", by walk_at "lk"⟩
      · exact ⟨rt, _, _, _, _, rfl, hrt, rfl, ⟨nt, _, rfl, hnt.mono hle₂, ⟨_, by rw [str_esc]⟩, trivial⟩, ⟨_, by rw [str_nil]⟩⟩
      · rw [List.range_succ, List.filter_append, List.map_append, ← hrs]
        have hb' : hasK kvs ((told.drop (place - (max 1 least + i))).take (max 1 least + i)) = true := hb
        simp [hb']
    · rename_i hb
      walk_at "gg"
      refine ⟨g', _, _, hle', S₆, ⟨us, rs, n, rfl, hu, by omega, ?_⟩, by walk_at "lk", by walk_at "lk", by walk_at "lk", by walk_at "lk"⟩
      rw [List.range_succ, List.filter_append, List.map_append, ← hrs]
      have : hasK kvs ((told.drop (place - (max 1 least + i))).take (max 1 least + i)) = false := Bool.eq_false_iff.mpr hb
      simp [this]
  · rintro g' m' c' s₄ E' hle' ⟨⟨us, rs, n, rfl, hu, hul, hrs⟩, hm1, hm2, hm3, hm4⟩ S₄
    walk_at "gg"
    have hn := S₄.cc (rl, lst us n) (by simp)
    have SF := S₄.freeze (by simp)
    exact h rl us _ _ SF.post hrl ⟨_, Mem.put_self .., lst_is _ _⟩ (by unfold falls; rw [← hrs]; exact all2_rows (Mem.le_put hn.2.2.1) hu)
end
end

end

-- PART B10 --
section
open PySem PySem.W PySem.Calls PyProof.Rows Builtin Builtin.ObjectAttr
def InstG (g : Mem) (x C dx : Addr) (od : Obj) : Prop := g x = some (instObj C dx) ∧ g dx = some od
theorem InstG.mono {g g' : Mem} {x C dx : Addr} {od : Obj} (h : InstG g x C dx od) (k : Le g g') : InstG g' x C dx od := ⟨k _ _ h.1, k _ _ h.2⟩
theorem InstG.at {h : Heap} {x C dx : Addr} {od : Obj} (i : InstG h.get? x C dx od) : InstAt h x (instObj C dx) C (some od) := ⟨i.1, rfl, rfl, i.2⟩
theorem Base.kin {w : World} {h : Heap} (B : Base w h.get?) : (KK w).In h := B.K
theorem findObj_val {K : Frag} {C : Addr} {od : Obj} {name : Str} {v : Value} (hc : hasDictIn K C = true) (ha : findIn K (.ref C) name = some none) (hl : lookIn name od = some (some v)) : findObj K C (some od) name = some (.value v) := by
  unfold hasDictIn at hc
  obtain ⟨cd, h1, h2⟩ := any_some hc
  unfold findObj
  rw [h1, ha]
  simp only [Option.bind_some]
  unfold PySem.W.ownOf
  rw [if_pos h2]
  simp only [hl, Option.bind_some]
section
variable {M : Model} {prog : Program} {w : World} {A : Around} {E : Value → Shared → Prop} {s₀ s s' : Shared} {g₀ g g' : Mem} {X : List Addr} {L : Addr} {m : Str → Option Value} {c : List (Addr × Obj)} {env : Env}
theorem get_field {x C dx : Addr} {od : Obj} {name : Str} {v : Value} {expr : Bool} {Q : Value → Shared → Prop} (S : St w s₀ g₀ X L m c g s) (I : InstG s.heap.get? x C dx od)
    (hga : findIn (KK w) (.ref C) "__getattribute__" = some (some (.builtin "object.__getattribute__"))) (hc : hasDictIn (KK w) C = true) (ha : findIn (KK w) (.ref C) name = some none)
    (hl : lookIn name od = some (some v)) (hh : handedIn v = true) (h : ∀ s', St w s₀ g₀ X L m c g s' → Q v s') : wpAny (model prog w) A (getAttr (.ref x) name expr) Q E s :=
  get_value S.baseH.kin I.at hga (findObj_val hc ha hl) hh (h _ (S.toks _))
theorem get_meth {x C dx f : Addr} {od : Obj} {name : Str} {pl : Sem Bool} {Q : Value × List Value → Shared → Prop} (S : St w s₀ g₀ X L m c g s) (I : InstG s.heap.get? x C dx od)
    (hga : findIn (KK w) (.ref C) "__getattribute__" = some (some (.builtin "object.__getattribute__"))) (hk : findIn (KK w) (.ref C) "__getattr__" = some none)
    (hf : findIn (KK w) (.ref C) name = some (some (.ref f))) (ht : typeIn (KK w) (.ref f) = some (.type "function")) (hs : lookIn name od = some none) (h : Q (.ref f, [.ref x]) s) :
    wpAny (model prog w) A (getMethod (.ref x) name pl) Q E s :=
  method_fn S.baseH.kin I.at hga hk hf ht (by unfold shadowIn; simp only [hs]; rfl) h
theorem e_attr {value : Expr} {attr : Str} {pos : Pos} {Q : Value → Shared → Prop}
    (h : wpAny (model prog w) A (eval value env) (fun o s₁ => wpAny (model prog w) A (getAttr o attr true) Q E s₁) E s)
    (he : eval (.Attribute value attr pos) env = (do
      let o ← eval value env
      standAt pos.atName
      let r ← holding [o] (getAttr o attr true)
      letTemporaryGo value o r
      pure r) := by with_unfolding_all rfl) :
    wpAny (model prog w) A (eval (.Attribute value attr pos) env) Q E s := Attribute_any_ h he
end
def NsO (k : Nat) (od : Obj) (mm : Str → Option Value) : Prop :=
  ∃ es n, od = dictOf es n ∧ es.length ≤ k ∧ (∀ e ∈ es, ∃ n t, e.key = .str n t) ∧ ∀ y, (es.find? (·.key.isStr y)).map (·.val) = mm y
theorem refKey_none {es : List DictEntry} (h : ∀ e ∈ es, ∃ n t, e.key = .str n t) : es.any (·.refKey) = false := by
  rw [List.any_eq_false]; intro e he; obtain ⟨n, t, q⟩ := h e he; simp [DictEntry.refKey, q]
theorem NsO.look {k : Nat} {od : Obj} {mm : Str → Option Value} (h : NsO k od mm) (y : Str) : lookIn y od = some (mm y) := by
  obtain ⟨es, n, rfl, _, h2, h3⟩ := h
  rw [lookIn_dict, ← h3 y]
  unfold getL
  cases es.find? (·.key.isStr y) with
  | some e => rfl
  | none => simp [refKey_none h2]
theorem NsO.nil : NsO 0 (dictOf [] 0) fun _ => none := ⟨[], 0, rfl, Nat.le_refl _, by simp, fun _ => rfl⟩
theorem putL_len (name : Str) (hsh : Int) (key v : Value) : ∀ es : List DictEntry, (putL name hsh key v es).length ≤ es.length + 1
  | [] => Nat.le_refl _
  | e :: r => by
    unfold putL; split
    · simp
    · have := putL_len name hsh key v r; simp; omega
theorem putL_keys (name : Str) (hsh : Int) (t : Tok) (v : Value) : ∀ es : List DictEntry, (∀ e ∈ es, ∃ n t, e.key = .str n t) → ∀ e ∈ putL name hsh (.str name t) v es, ∃ n t, e.key = .str n t
  | [], _, e, he => by simp [putL] at he; subst he; exact ⟨_, _, rfl⟩
  | x :: r, h, e, he => by
    unfold putL at he; split at he
    · rcases List.mem_cons.mp he with rfl | he
      · exact h x (List.mem_cons_self ..)
      · exact h e (List.mem_cons_of_mem _ he)
    · rcases List.mem_cons.mp he with rfl | he
      · exact h _ (List.mem_cons_self ..)
      · exact putL_keys name hsh t v r (fun e he => h e (List.mem_cons_of_mem _ he)) e he
theorem putL_get (name : Str) (hsh : Int) (t : Tok) (v : Value) (y : Str) : ∀ es : List DictEntry, ((putL name hsh (.str name t) v es).find? (·.key.isStr y)).map (·.val) = if y = name then some v else (es.find? (·.key.isStr y)).map (·.val)
  | [] => by
    by_cases q : y = name
    · subst q; simp [putL, Value.isStr]
    · have : ¬ name = y := fun e => q e.symm
      simp [putL, Value.isStr, q, this]
  | x :: r => by
    unfold putL
    by_cases hx : x.key.isStr name = true
    · rw [if_pos hx]
      by_cases q : y = name
      · subst q; simp [hx]
      · have hy : x.key.isStr y = false := by
          cases hh : x.key.isStr y
          · rfl
          · exact absurd (Value.isStr_inj _ _ _ hh hx) q
        simp [hy, q]
    · rw [if_neg hx]
      have ih := putL_get name hsh t v y r
      by_cases hy : x.key.isStr y = true
      · have q : y ≠ name := fun e => hx (e ▸ hy)
        simp [hy, q]
      · have hy' : x.key.isStr y = false := by simpa using hy
        simp only [List.find?_cons, hy']
        exact ih
theorem NsO.put {k : Nat} {od : Obj} {mm : Str → Option Value} (h : NsO k od mm) (name : Str) (hsh : Int) (t : Tok) (v : Value) : NsO (k + 1) (Obj.putName name hsh (.str name t) v od) (up mm name v) := by
  obtain ⟨es, n, rfl, h1, h2, h3⟩ := h
  refine ⟨_, _, putName_dict .., ?_, putL_keys _ _ _ _ _ h2, fun y => ?_⟩
  · have := putL_len name hsh (.str name t) v es; omega
  · rw [putL_get, h3 y]; rfl
theorem NsO.data {k : Nat} {od : Obj} {mm : Str → Option Value} (h : NsO k od mm) : ∃ es n, od.data = .dict es n ∧ es.size ≤ k := by
  obtain ⟨es, n, rfl, h1, _⟩ := h; exact ⟨es.toArray, n, rfl, by simpa using h1⟩
section
variable {M : Model} {prog : Program} {w : World} {A : Around} {E : Value → Shared → Prop} {s₀ s s' : Shared} {g₀ g g' : Mem} {X : List Addr} {L : Addr} {m : Str → Option Value} {c : List (Addr × Obj)} {env : Env}
theorem set_field {x C dx : Addr} {od : Obj} {mm : Str → Option Value} {k : Nat} {name : Str} {v : Value} {Q : Unit → Shared → Prop} (S : St w s₀ g₀ X L m ((dx, od) :: c) g s) (hx : s.heap.get? x = some (instObj C dx)) (N : NsO k od mm) (hk : k ≤ 900)
    (hs : findIn (KK w) (.ref C) "__setattr__" = some (some (.builtin "object.__setattr__"))) (hp : plainOver (KK w) C = true) (ht : takerIn (KK w) C name = some none) (hd : hasDictIn (KK w) C = true)
    (h : ∀ od' s', NsO (k + 1) od' (up mm name v) → St w s₀ g₀ X L m ((dx, od') :: c) g s' → Q () s') : wpAny (model prog w) A (setAttr (.ref x) name v) Q E s := by
  have I : InstAt s.heap x (instObj C dx) C (some od) := InstG.at ⟨hx, S.cell0⟩
  refine set_plain S.baseH.kin I hs ?_
  have S1 := S.toks (s.toks + 1)
  refine osa_open (s := { s with toks := s.toks + 1 }) S1.baseH.kin (InstG.at (h := s.heap) ⟨hx, S1.cell0⟩) hp ht fun b => ?_
  obtain ⟨cd, hc, hd'⟩ := any_some hd
  have D := S1.cell0
  refine wpAny_bind (wpAny_pure (wpAny_bind (wpAny_bind (wpAny_loadPart hx (wpAny_bind ((looks_clsIn S1.baseH.kin hc).here ?_))))))
  rw [hd']
  refine wpAny_pure (a := some dx) (wpAny_bind (wpAny_pure (wpAny_bind ?_)))
  unfold nsSet
  refine wpAny_bind (wpAny_bind (wpAny_askSetting (wpAny_pure (wpAny_bind (wpAny_mkText (wpAny_bind (wpAny_loadPart D ?_)))))))
  have N0 := N
  obtain ⟨es, n, rfl, hl, hks, hg⟩ := N0
  show wpAny _ _ (if aRefKeyMayBeTheName name es.toArray = true then _ else _) _ _ _
  have hc' : aRefKeyMayBeTheName name es.toArray = false := by
    rw [aRefKeyMayBeTheName_at, ← Array.any_toList, ← Array.any_toList]
    have := refKey_none hks
    simp only [this, Bool.and_false]
  rw [hc', if_neg Bool.false_ne_true]
  have N2 := N.put name (PyData.keyHash w.params name) (s.toks + 1) v
  have hf2 : (Obj.putName name (PyData.keyHash w.params name) (.str name (s.toks + 1)) v (dictOf es n)).isFreed = false := by rw [putName_dict]; rfl
  refine wpAny_updatePart D ?_
  have S2 := S1.upd0 (h' := s.heap.update dx (Obj.putName name (PyData.keyHash w.params name) (.str name (s.toks + 1)) v)) (t := s.toks + 1 + 1) (fun b o hb e => (Heap.get?_update_other _ _ (Ne.symm hb)).trans e) (Heap.get?_update_self _ D hf2) (Nat.le_of_eq (upd_size _ _ _).symm)
  obtain ⟨es2, n2, e2, hsz⟩ := N2.data
  refine wpAny_bind (wpAny_lookBehind S2.cell0 (by rw [e2]; exact pastItsLine_dict (by rw [sizeLine_eq]; omega)) ?_)
  exact wpAny_pure (h _ _ N2 S2)
end
end

-- PART B11 --
section
open PySem PySem.W PySem.Calls PyProof.Rows Builtin Builtin.ObjectAttr
section
variable {M : Model} {prog : Program} {w : World} {A : Around} {E : Value → Shared → Prop} {s₀ s s' : Shared} {g₀ g g' : Mem} {X : List Addr} {L : Addr} {m : Str → Option Value} {c : List (Addr × Obj)} {env : Env}
theorem St.kin (S : St w s₀ g₀ X L m c g s) : (KK w).In s.heap := S.baseH.K
theorem St.kinH (S : St w s₀ g₀ X L m c g s) {P : Prop} (h : P) : (KK w).In s.heap ∧ P := ⟨S.kin, h⟩
theorem c_fn {pos : Pos} {f : Addr} {e : Expr} {rest : List Expr} {Q : Value → Shared → Prop} (S : St w s₀ g₀ X L m c g s) (hk : keepIn (KK w) (.ref f) = true)
    (h : wpAny M A (spliced (backTo pos (starEach (e :: rest) env))) (fun vs s₁ => (KK w).In s₁.heap ∧ wpAny M A (call (.ref f) vs) Q E s₁) E s)
    (he : starEach (e :: rest) env = (false, eval e env) :: starEach rest env := by with_unfolding_all rfl) (hplain : (backTo pos (starEach rest env)).any (·.1) = false := by with_unfolding_all rfl) :
    wpAny M A (callWith pos (.ref f) [] (backTo pos (starEach (e :: rest) env)) []) Q E s := callWith_K S.kin hk h he hplain
theorem c_fn0 {pos : Pos} {f : Addr} {Q : Value → Shared → Prop} (S : St w s₀ g₀ X L m c g s) (hk : keepIn (KK w) (.ref f) = true) (h : wpAny M A (call (.ref f) []) Q E s) : wpAny M A (callWith pos (.ref f) [] (backTo pos (starEach [] env)) []) Q E s :=
  callWith_K0 S.kin hk h
theorem c_fm {pos : Pos} {f : Addr} {e : Expr} {v : Value} {rest : List Expr} {Q : Value → Shared → Prop} (S : St w s₀ g₀ X L m c g s) (hk : keepIn (KK w) (.ref f) = true)
    (h : wpAny M A (spliced (backTo pos (starEach (e :: rest) env))) (fun vs s₁ => (KK w).In s₁.heap ∧ wpAny M A (call (.ref f) (v :: vs)) Q E s₁) E s)
    (he : starEach (e :: rest) env = (false, eval e env) :: starEach rest env := by with_unfolding_all rfl) (hplain : (backTo pos (starEach rest env)).any (·.1) = false := by with_unfolding_all rfl) :
    wpAny M A (callWith pos (.ref f) [v] (backTo pos (starEach (e :: rest) env)) []) Q E s := callWith_K S.kin hk h he hplain
theorem c_fm0 {pos : Pos} {f : Addr} {v : Value} {Q : Value → Shared → Prop} (S : St w s₀ g₀ X L m c g s) (hk : keepIn (KK w) (.ref f) = true) (h : wpAny M A (call (.ref f) [v]) Q E s) : wpAny M A (callWith pos (.ref f) [v] (backTo pos (starEach [] env)) []) Q E s :=
  callWith_K0 S.kin hk h
theorem evalArgs_more {f : Value} {a b : Bool × Sem Value} {rest : List (Bool × Sem Value)} {Q : Args → Shared → Prop}
    (h : wpAny M A (spliced (a :: b :: rest)) (fun vs s' => Q ⟨vs, []⟩ s') E s) : wpAny M A (evalArgs f true (a :: b :: rest) []) Q E s := by
  unfold evalArgs
  obtain ⟨_ | _, ax⟩ := a
  · show wpAny M A (spliced ((false, ax) :: b :: rest) >>= _) Q E s
    refine wpAny_bind (wpAny_mono h (fun vs s' h' => ?_) fun _ _ x => x)
    refine wpAny_holding ?_
    exact wpAny_bind (wpAny_pure (wpAny_bind (wpAny_pure (wpAny_pure h'))))
  · show wpAny M A (spliced ((true, ax) :: b :: rest) >>= _) Q E s
    refine wpAny_bind (wpAny_mono h (fun vs s' h' => ?_) fun _ _ x => x)
    refine wpAny_holding ?_
    exact wpAny_bind (wpAny_pure (wpAny_bind (wpAny_pure (wpAny_pure h'))))
theorem c_star2 {pos p : Pos} {f : Addr} {e e' : Expr} {Q : Value → Shared → Prop} (S : St w s₀ g₀ X L m c g s) (hk : keepIn (KK w) (.ref f) = true)
    (h : wpAny M A (eval e env) (fun v s₁ => StarOf M A E v (fun here s₂ => wpAny M A (spliced (backTo pos (starEach [e'] env))) (fun vs s₃ => (KK w).In s₃.heap ∧ wpAny M A (call (.ref f) (here ++ vs)) Q E s₃) E s₂) s₁) E s)
    (he : starEach (.Starred e p :: e' :: []) env = (true, eval e env) :: starEach [e'] env := by with_unfolding_all rfl) (he' : starEach [e'] env = [(false, eval e' env)] := by with_unfolding_all rfl) :
    wpAny M A (callWith pos (.ref f) [] (backTo pos (starEach (.Starred e p :: e' :: []) env)) []) Q E s := by
  rw [he, he']
  rw [he'] at h
  exact ks_call rfl (keeps_K hk) (evalArgs_more (ks_spliced h))
theorem star_tup {a : Addr} {vs : List Value} {Q : List Value → Shared → Prop} (S : St w s₀ g₀ X L m c g s) (ht : TupAt s.heap.get? a vs) (hsz : vs.length ≤ 1000) (h : ∀ s', St w s₀ g₀ X L m c g s' → Q vs s') : StarOf (model prog w) A E (.ref a) Q s := by
  obtain ⟨o, ho, hc, k, hd⟩ := ht
  have hT' : s.TypeIs (.ref a) "tuple" := ⟨o, ho, hc⟩
  have z : wpAny (model prog w) A (collect (.ref a)) Q E s := by
    refine withSize (wpAny_collect_seq a (.inr rfl) ho hc hd (fun h' hk hz => ?_) (by rw [List.size_toArray, sizeLine_eq]; omega))
    exact h _ (S.extK (t := s.toks) hk hz)
  unfold StarOf notIterableAtAll
  exact wpAny_bind (wpAny_specialOf hT' PySem.F.slot_tuple_iter.lookup (wpAny_pure ⟨rfl, z⟩))
end
theorem room_under {A : Around} {k : Nat} {C : Addr} {rest : List Value} {kw : List (Str × Value)} (r : Room A (k + 1)) : Room (A.under (.builtin "type.__call__" ⟨.ref C :: rest, kw⟩)) k :=
  ⟨r.hd, by have := r.dp; show A.depth + 1 + k < _; omega, by have := r.un; show A.units + 1 + 4 * k + 4 < _; omega⟩
section
variable {prog : Program} {w : World} {A : Around} {s : Shared} {g : Mem} {R : Result → Shared → Prop}
theorem made_end {C L dx : Addr} {m : Str → Option Value} {c : List (Addr × Obj)} {od : Obj} {g2 : Mem} {s2 : Shared} {t : Nat} (hg : Le g s.heap.get?) (hdx : dx = s.heap.objs.size)
    (S : St w { s with heap := (s.heap.push emptyDict).push (instObj C dx), toks := t } (g.put (dx + 1) (instObj C dx)) [dx] L m ((dx, od) :: c) g2 s2) :
    Post [] s g s2 (g2.put dx od) ∧ InstG (g2.put dx od) (dx + 1) C dx od ∧ Le g2 (g2.put dx od) := by
  subst hdx
  have z := S.cc (s.heap.objs.size, od) (List.mem_cons_self ..)
  have hnone : g2 s.heap.objs.size = none := z.2.2.1
  have hgx : ∀ b, b < s.heap.objs.size → (g.put (s.heap.objs.size + 1) (instObj C s.heap.objs.size)) b = g b := fun b hb => Mem.put_ne _ _ (Nat.ne_of_lt (Nat.lt_succ_of_lt hb))
  have hsz : ((s.heap.push emptyDict).push (instObj C s.heap.objs.size)).objs.size = s.heap.objs.size + 2 := by
    rw [Heap.size_push, Heap.size_push]
  have hlow : ∀ b, b < s.heap.objs.size → g2 b = g b := fun b hb => by
    have key : b < ((s.heap.push emptyDict).push (instObj C s.heap.objs.size)).objs.size := Nat.lt_of_lt_of_eq (Nat.lt_of_lt_of_le hb (Nat.le_add_right _ 2)) hsz.symm
    exact (S.low b key).trans (hgx b hb)
  have hgg : Le g g2 := fun b o e => by
    rw [hlow b (Heap.lt_size (hg _ _ e))]; exact e
  refine ⟨⟨fun b o _ e => ?_, ?_, fun b o e => ?_, fun b o e => Mem.le_put hnone _ _ (hgg _ _ e), fun b hb => ?_, S.gens, S.os⟩, ⟨?_, Mem.put_self ..⟩, Mem.le_put hnone⟩
  · have hb := Heap.lt_size e
    exact S.keep b o (by simp only [List.mem_singleton]; exact Nat.ne_of_lt hb) (Heap.get?_push_of_some _ (Heap.get?_push_of_some _ e))
  · have h1 : ((s.heap.push emptyDict).push (instObj C s.heap.objs.size)).objs.size ≤ s2.heap.objs.size := S.size
    rw [hsz] at h1; exact Nat.le_trans (Nat.le_add_right _ 2) h1
  · by_cases q : b = s.heap.objs.size
    · subst q; rw [Mem.put_self] at e; cases e; exact z.1
    · rw [Mem.put_ne _ _ q] at e; exact S.gg _ _ e
  · rw [Mem.put_ne _ _ (Nat.ne_of_lt hb)]; exact hlow b hb
  · rw [Mem.put_ne _ _ (Nat.ne_of_gt (Nat.lt_succ_self _))]
    exact S.grow _ _ (Mem.put_self ..)
theorem make {C fI : Addr} {rest : List Value} {kw : List (Str × Value)} {name qual : Str} {params : Arguments} {body : List Stmt} {scope : Scope} {dV kV doc pm cdv ct oc : Value} {an od : Option Addr} {osl : Array (Option Value)} (binds : Value → List (Str × Value))
    (B : Base w g) (hg : Le g s.heap.get?) (hm : makesIn (KK w) C = true) (hi : findIn (KK w) (.ref C) "__init__" = some (some (.ref fI))) (hf : typeIn (KK w) (.ref fI) = some (.type "function"))
    (ho : (KK w).lookup fI = some ⟨oc, od, .func (fnOf name qual params body scope dV kV doc pm an cdv ct), osl⟩) (hcd : codeIn (KK w) cdv qual = true) (hroom : A.depth + 1 < recursionLimit)
    (hbind : ∀ x s', (KK w).In s'.heap → BindsTo s' (fnOf name qual params body scope dV kV doc pm an cdv ct) ⟨x :: rest, kw⟩ (binds x)) (hloc : ∀ x, ((binds x).all fun x => decide (scope.names.lookup x.1 = some .local)) = true)
    (hcell : ∀ x ∈ scope.names, x.2 ≠ .cell)
    (h : ∀ dx t L s', dx = s.heap.objs.size → Le g (g.put (dx + 1) (instObj C dx)) →
      St w { s with heap := (s.heap.push emptyDict).push (instObj C dx), toks := t } (g.put (dx + 1) (instObj C dx)) [dx] L (lk (binds (.ref (dx + 1)))) [(dx, dictOf [] 0)] (g.put (dx + 1) (instObj C dx)) s' →
      wpAny (model prog w) ((A.under (.builtin "type.__call__" ⟨.ref C :: rest, kw⟩)).deeper (envOf qual scope L fI cdv)) (execs body (envOf qual scope L fI cdv))
        (fun fl s'' => (match fl with | .ret v => v | _ => .none) = .none ∧ R (.ok (.ret (.ref (dx + 1)))) s'') (fun _ _ => False) s')
    (hco : scope.isCoroutine = false := by rfl) (hgen : scope.isGenerator = false := by rfl) (hk : scope.kind = .function := by rfl) :
    codeAny (model prog w) A (.call (.ref C) ⟨rest, kw⟩) R s := by
  have X : (KK w).In s.heap := (B.mono hg).K
  obtain ⟨hh, gs, dr, t, os⟩ := s
  refine make_core (makes_of X hm) (looks_findIn X hi) (fun self => bind_fn X self hf) (.inl rfl) ?_
  have hnone : g (hh.objs.size + 1) = none := by
    cases q : g (hh.objs.size + 1) with
    | none => rfl
    | some o => have := Heap.lt_size (hg _ _ q); exact absurd this (by show ¬ hh.objs.size + 1 < hh.objs.size; omega)
  have hle : Le g (g.put (hh.objs.size + 1) (instObj C hh.objs.size)) := Mem.le_put hnone
  have hx : ((hh.push emptyDict).push (instObj C hh.objs.size)).get? (hh.objs.size + 1) = some (instObj C hh.objs.size) := by
    have := Heap.get?_push_size (hh.push emptyDict) (o := instObj C hh.objs.size) rfl
    rwa [Heap.size_push] at this
  have hdx : ((hh.push emptyDict).push (instObj C hh.objs.size)).get? hh.objs.size = some emptyDict := Heap.get?_push_of_some _ (Heap.get?_push_size _ rfl)
  refine enterX (g := g.put (hh.objs.size + 1) (instObj C hh.objs.size)) (c := [(hh.objs.size, dictOf [] 0)]) (binds := binds (.ref (hh.objs.size + 1))) (B.mono hle) (fun b o e => ?_) (fun p hp => ?_) (by simp) ho hcd (by show A.depth + 1 < _; exact hroom)
    (hbind _ _ fun a o e => Heap.get?_push_of_some _ (Heap.get?_push_of_some _ (X a o e))) (locs (hloc _)) hcell (fun L s' S' => ?_) hco hgen hk
  · by_cases q : b = hh.objs.size + 1
    · subst q; rw [Mem.put_self] at e; cases e; exact hx
    · rw [Mem.put_ne _ _ q] at e; exact Heap.get?_push_of_some _ (Heap.get?_push_of_some _ (hg _ _ e))
  · rcases List.mem_singleton.mp hp with rfl
    refine ⟨hdx, ?_⟩
    rw [Mem.put_ne _ _ (by show hh.objs.size ≠ hh.objs.size + 1; omega)]
    cases q : g hh.objs.size with
    | none => rfl
    | some o => have := Heap.lt_size (hg _ _ q); exact absurd this (Nat.lt_irrefl _)
  · exact h _ t L s' rfl hle S'
end
end

-- PART B12 --
section
open PySem PySem.W PySem.Calls PyProof.Rows
theorem wp_alloc {α : Type} {K : Frag} {M : Model} {A : Around} {E : Value → Shared → Prop} {Q : α → Shared → Prop} {s : Shared} {o : Obj} (X : K.In s.heap) :
    ∀ (t : Sem α) (g : Addr → Sem α), peekA K ⟨M.prog, M.w.params⟩ t = some (o, g) → wpAny M A (g s.heap.objs.size) Q E { s with heap := s.heap.push o } → wpAny M A t Q E s := by
  intro t
  induction t with
  | rule _ k ih => intro g e q Γ p hΓ; exact ih () g e q Γ p hΓ
  | point _ k ih => intro g e q Γ p hΓ; exact ih () g e q Γ p hΓ
  | ask k ih => intro g e q Γ p hΓ; exact ih _ g e q Γ p hΓ
  | load a _ k ih =>
    intro g e q Γ p hΓ
    simp only [peekA] at e
    split at e
    · rename_i ob ho; exact ⟨ob, X _ _ ho, ih ob g e q Γ p hΓ⟩
    · cases e
  | alloc ob k _ =>
    intro g e q
    have e : some (ob, k) = some (o, g) := e
    obtain ⟨e1, e2⟩ := Prod.mk.inj (Option.some.inj e)
    subst e1
    subst e2
    show wpAny M A (alloc ob >>= k) Q E s
    exact wpAny_bind (wpAny_alloc q)
  | _ => intro g e; cases e
structure Pre (w : World) (s₀ : Shared) (g₀ : Mem) (X : List Addr) (c : List (Addr × Obj)) (g : Mem) (s : Shared) : Prop where
  base : Base w g₀
  keep : ∀ b o, b ∉ X → s₀.heap.get? b = some o → s.heap.get? b = some o
  size : s₀.heap.objs.size ≤ s.heap.objs.size
  gg : ∀ b o, g b = some o → s.heap.get? b = some o
  grow : ∀ b o, g₀ b = some o → g b = some o
  low : ∀ b, b < s₀.heap.objs.size → g b = g₀ b
  cc : ∀ p ∈ c, s.heap.get? p.1 = some p.2 ∧ g p.1 = none ∧ (s₀.heap.objs.size ≤ p.1 ∨ p.1 ∈ X)
  nd : (c.map (·.1)).Nodup
  gens : s.gens = s₀.gens
  os : s.os = s₀.os
section
variable {prog : Program} {w : World} {A : Around} {E : Value → Shared → Prop} {s₀ s s' : Shared} {g₀ g g' : Mem} {X : List Addr} {L : Addr} {m : Str → Option Value} {c : List (Addr × Obj)} {env : Env}
theorem Pre.init (B : Base w g) (hg : Le g s.heap.get?) (hc : ∀ p ∈ c, s.heap.get? p.1 = some p.2 ∧ g p.1 = none) (hnd : (c.map (·.1)).Nodup) : Pre w s g (c.map (·.1)) c g s :=
  ⟨B, fun _ _ _ e => e, Nat.le_refl _, hg, fun _ _ e => e, fun _ _ => rfl, fun p hp => ⟨(hc p hp).1, (hc p hp).2, .inr (List.mem_map_of_mem hp)⟩, hnd, rfl, rfl⟩
theorem Pre.none_at (S : Pre w s₀ g₀ X c g s) {a : Addr} (h : s.heap.get? a = none) : g a = none := by
  cases q : g a with
  | none => rfl
  | some o => rw [S.gg _ _ q] at h; cases h
theorem Pre.pushC (S : Pre w s₀ g₀ X c g s) (o : Obj) (hf : o.isFreed = false := by rfl) : Pre w s₀ g₀ X ((s.heap.objs.size, o) :: c) g { s with heap := s.heap.push o } := by
  have k : ∀ b x, s.heap.get? b = some x → (s.heap.push o).get? b = some x := fun b x e => Heap.get?_push_of_some _ e
  refine ⟨S.base, fun b x hb e => k _ _ (S.keep b x hb e), ?_, fun b x e => k _ _ (S.gg b x e), S.grow, S.low, fun p hp => ?_, ?_, S.gens, S.os⟩
  · rw [Heap.size_push]; exact Nat.le_succ_of_le S.size
  · rcases List.mem_cons.mp hp with rfl | hp
    · exact ⟨Heap.get?_push_size _ hf, S.none_at (get_size _), .inl S.size⟩
    · have z := S.cc p hp; exact ⟨k _ _ z.1, z.2⟩
  · rw [List.map_cons, List.nodup_cons]
    refine ⟨fun hm => ?_, S.nd⟩
    obtain ⟨p, hp, e⟩ := List.mem_map.mp hm
    have := Heap.lt_size (S.cc p hp).1
    rw [e] at this
    exact Nat.lt_irrefl _ this
theorem Pre.pushF (S : Pre w s₀ g₀ X c g s) (o : Obj) (hf : o.isFreed = false := by rfl) : Pre w s₀ g₀ X c (g.put s.heap.objs.size o) { s with heap := s.heap.push o } := by
  have k : ∀ b x, s.heap.get? b = some x → (s.heap.push o).get? b = some x := fun b x e => Heap.get?_push_of_some _ e
  have hn := S.none_at (get_size s.heap)
  refine ⟨S.base, fun b x hb e => k _ _ (S.keep b x hb e), ?_, fun b x e => ?_, fun b x e => Mem.le_put hn _ _ (S.grow _ _ e), fun b hb => ?_, fun p hp => ?_, S.nd, S.gens, S.os⟩
  · rw [Heap.size_push]; exact Nat.le_succ_of_le S.size
  · by_cases q : b = s.heap.objs.size
    · subst q; rw [Mem.put_self] at e; cases e; exact Heap.get?_push_size _ hf
    · rw [Mem.put_ne _ _ q] at e; exact k _ _ (S.gg _ _ e)
  · rw [Mem.put_ne _ _ (Nat.ne_of_lt (Nat.lt_of_lt_of_le hb S.size))]; exact S.low b hb
  · have z := S.cc p hp
    refine ⟨k _ _ z.1, ?_, z.2.2⟩
    rw [Mem.put_ne _ _ (Nat.ne_of_lt (Heap.lt_size z.1))]; exact z.2.1
theorem enterV {R : Result → Shared → Prop} {name qual : Str} {params : Arguments} {body : List Stmt} {scope : Scope} {dV kV doc pm cdv ct oc : Value} {an od : Option Addr} {osl : Array (Option Value)} {f : Addr} {args : Args}
    (B : Base w g) (hg : Le g s.heap.get?)
    (ho : (KK w).lookup f = some ⟨oc, od, .func (fnOf name qual params body scope dV kV doc pm an cdv ct), osl⟩) (hcd : codeIn (KK w) cdv qual = true) (hroom : A.depth < recursionLimit)
    (hcell : ∀ x ∈ scope.names, x.2 ≠ .cell)
    (h : wpAny (model prog w) A.in1 (bindArgs (fnOf name qual params body scope dV kV doc pm an cdv ct) args) (fun binds s₁ => ∃ c₁ g₁, Pre w s g X c₁ g₁ s₁ ∧ (binds.all fun x => decide (scope.names.lookup x.1 = some .local)) = true ∧
      ∀ L s', St w s g X L (lk binds) c₁ g₁ s' → wpAny (model prog w) (A.deeper (envOf qual scope L f cdv)) (execs body (envOf qual scope L f cdv)) (fun fl s'' => R (.ok (.ret (match fl with | .ret v => v | _ => .none))) s'') (fun _ _ => False) s') (fun _ _ => False) s)
    (hco : scope.isCoroutine = false := by rfl) (hgen : scope.isGenerator = false := by rfl) (hk : scope.kind = .function := by rfl) :
    codeAny (model prog w) A (.call (.ref f) args) R s := by
  have BH : Base w s.heap.get? := B.mono hg
  refine codeAny_call_function (fd := fnOf name qual params body scope dV kV doc pm an cdv ct) (body := body) hroom (BH.K _ _ ho) rfl hco hgen rfl (codeRec_of BH.K hcd) ?_
  refine wpAny_mono h (fun binds s₁ hq => ?_) fun _ _ x => x.elim
  obtain ⟨c₁, g₁, P, hloc, hq⟩ := hq
  have B1 : Base w s₁.heap.get? := (P.base.mono P.grow).mono P.gg
  refine wpAny_newFunctionEnv hcell (locs hloc) (fun h₁ hns hsb => ⟨B1.nolimit.fresh _ hsb, codeAny_func ?_⟩) hk
  have hk₁ : ∀ b o, s₁.heap.get? b = some o → h₁.get? b = some o := fun b o e => hsb.extBut b o (Nat.ne_of_lt (Heap.lt_size e)) (Heap.get?_push_of_some _ e)
  refine wpAny_mono (hq s₁.heap.objs.size { s₁ with heap := h₁, toks := s₁.toks + binds.length } ⟨P.base, hns, fun b o hb e => hk₁ b o (P.keep b o hb e), .inl P.size, fun b o e => hk₁ _ _ (P.gg _ _ e), P.grow, P.low, ?_, fun p hp => ?_, P.nd, P.gens, P.os, Nat.le_trans P.size (Nat.le_of_lt hns.lt)⟩) (fun _ _ x => x) fun _ _ x => x.elim
  · exact P.none_at (get_size _)
  · obtain ⟨h1, h2, h3⟩ := P.cc p hp
    exact ⟨hk₁ _ _ h1, Nat.ne_of_lt (Heap.lt_size h1), h2, h3⟩
theorem makeC {R : Result → Shared → Prop} {C fI : Addr} {rest : List Value} {kw : List (Str × Value)}
    (B : Base w g) (hg : Le g s.heap.get?) (hm : makesIn (KK w) C = true) (hi : findIn (KK w) (.ref C) "__init__" = some (some (.ref fI))) (hf : typeIn (KK w) (.ref fI) = some (.type "function"))
    (h : ∀ dx s₁, dx = s.heap.objs.size → s₁ = { s with heap := (s.heap.push emptyDict).push (instObj C dx) } → Le g (g.put (dx + 1) (instObj C dx)) → Le (g.put (dx + 1) (instObj C dx)) s₁.heap.get? → s₁.heap.get? dx = some (dictOf [] 0) → (g.put (dx + 1) (instObj C dx)) dx = none →
      codeAny (model prog w) (A.under (.builtin "type.__call__" ⟨.ref C :: rest, kw⟩)) (.call (.ref fI) ⟨.ref (dx + 1) :: rest, kw⟩) (InitBack (dx + 1) R) s₁) :
    codeAny (model prog w) A (.call (.ref C) ⟨rest, kw⟩) R s := by
  have X : (KK w).In s.heap := (B.mono hg).K
  obtain ⟨hh, gs, dr, t, os⟩ := s
  refine make_core (makes_of X hm) (looks_findIn X hi) (fun self => bind_fn X self hf) (.inl rfl) ?_
  have hnone : g (hh.objs.size + 1) = none := by
    cases q : g (hh.objs.size + 1) with
    | none => rfl
    | some o => have := Heap.lt_size (hg _ _ q); exact absurd this (by show ¬ hh.objs.size + 1 < hh.objs.size; omega)
  have hx : ((hh.push emptyDict).push (instObj C hh.objs.size)).get? (hh.objs.size + 1) = some (instObj C hh.objs.size) := by
    have := Heap.get?_push_size (hh.push emptyDict) (o := instObj C hh.objs.size) rfl
    rwa [Heap.size_push] at this
  refine h hh.objs.size _ rfl rfl (Mem.le_put hnone) (fun b o e => ?_) (Heap.get?_push_of_some _ (Heap.get?_push_size _ rfl)) ?_
  · by_cases q : b = hh.objs.size + 1
    · subst q; rw [Mem.put_self] at e; cases e; exact hx
    · rw [Mem.put_ne _ _ q] at e; exact Heap.get?_push_of_some _ (Heap.get?_push_of_some _ (hg _ _ e))
  · rw [Mem.put_ne _ _ (by show hh.objs.size ≠ hh.objs.size + 1; omega)]
    cases q : g hh.objs.size with
    | none => rfl
    | some o => have := Heap.lt_size (hg _ _ q); exact absurd this (Nat.lt_irrefl _)
theorem made_endC {C L dx : Addr} {m : Str → Option Value} {c : List (Addr × Obj)} {od : Obj} {g2 : Mem} {s s1 s2 : Shared} (hg : Le g s.heap.get?) (hdx : dx = s.heap.objs.size) (h1 : s1 = { s with heap := (s.heap.push emptyDict).push (instObj C dx) })
    (S : St w s1 (g.put (dx + 1) (instObj C dx)) [dx] L m ((dx, od) :: c) g2 s2) :
    Post [] s g s2 (g2.put dx od) ∧ InstG (g2.put dx od) (dx + 1) C dx od ∧ Le g2 (g2.put dx od) := by
  subst h1
  exact made_end (t := s.toks) hg hdx S
end
end

-- PART B13 --
section
open PySem PySem.W PySem.Calls PyProof.Rows Builtin Builtin.Str
theorem Post.of_same {s s' : Shared} {g g' : Mem} (P : Post [] s g s' g') (hg : Le g s.heap.get?) : Post [] s g s' g :=
  ⟨P.keep, P.size, fun b o e => P.keep b o (by simp) (hg b o e), fun _ _ e => e, fun _ _ => rfl, P.gens, P.os⟩
def dots : List T → T
  | [] => []
  | [a] => a
  | a :: b :: r => a ++ 46 :: dots (b :: r)
theorem join_dots : ∀ xs : List T, Str.join (S [46]) (xs.map S) = S (dots xs)
  | [] => rfl
  | [a] => rfl
  | a :: b :: r => by
    show S a ++ S [46] ++ Str.join (S [46]) ((b :: r).map S) = _
    rw [join_dots (b :: r), S_add, S_add]
    show _ = S (a ++ 46 :: dots (b :: r))
    rw [List.append_assoc]; rfl
theorem cut_eq {a b x y : T} (ha : 46 ∉ a) (hb : 46 ∉ b) (h : a ++ 46 :: x = b ++ 46 :: y) : a = b ∧ x = y := by
  induction a generalizing b with
  | nil =>
    cases b with
    | nil => exact ⟨rfl, by simpa using h⟩
    | cons c b => simp at h; exact absurd (h.1 ▸ List.mem_cons_self ..) hb
  | cons c a ih =>
    cases b with
    | nil => simp at h; exact absurd (h.1 ▸ List.mem_cons_self ..) ha
    | cons d b =>
      simp only [List.cons_append, List.cons.injEq] at h
      have := ih (b := b) (fun q => ha (List.mem_cons_of_mem _ q)) (fun q => hb (List.mem_cons_of_mem _ q)) h.2
      exact ⟨by rw [h.1, this.1], this.2⟩
theorem dots_inj : ∀ {xs ys : List T}, xs ≠ [] → ys ≠ [] → (∀ p ∈ xs, 46 ∉ p) → (∀ p ∈ ys, 46 ∉ p) → dots xs = dots ys → xs = ys
  | [], _, h, _, _, _, _ => absurd rfl h
  | _, [], _, h, _, _, _ => absurd rfl h
  | [a], [b], _, _, _, _, e => by simpa [dots] using e
  | [a], b :: b' :: r, _, _, ha, _, e => by
    exfalso
    have : (46 : Nat) ∈ a := by have e' : a = b ++ 46 :: dots (b' :: r) := e; rw [e']; simp
    exact ha a (List.mem_singleton.mpr rfl) this
  | a :: a' :: r, [b], _, _, _, hb, e => by
    exfalso
    have : (46 : Nat) ∈ b := by have e' : a ++ 46 :: dots (a' :: r) = b := e; rw [← e']; simp
    exact hb b (List.mem_singleton.mpr rfl) this
  | a :: a' :: r, b :: b' :: r', _, _, ha, hb, e => by
    have e' : a ++ 46 :: dots (a' :: r) = b ++ 46 :: dots (b' :: r') := e
    obtain ⟨e1, e2⟩ := cut_eq (ha a (List.mem_cons_self ..)) (hb b (List.mem_cons_self ..)) e'
    rw [e1, dots_inj (by simp) (by simp) (fun p hp => ha p (List.mem_cons_of_mem _ hp)) (fun p hp => hb p (List.mem_cons_of_mem _ hp)) e2]
theorem S_surj (x : Str) : x = S x.cps.toList := by
  apply PySem.Str.ext'; simp [S]
theorem split_dots {xs : List T} (hne : xs ≠ []) (hfree : ∀ p ∈ xs, 46 ∉ p) : Txt.split (S (dots xs)) (S [46]) = xs.map S := by
  have h1 := StrLaws.join_split (S (dots xs)) (S [46])
  have h2 := StrLaws.split_free (S (dots xs)) 46
  have h3 := split_pos (S (dots xs)) (S [46])
  have e : S [46] = ⟨#[46]⟩ := rfl
  rw [← e] at h2
  generalize Txt.split (S (dots xs)) (S [46]) = q at *
  have hq : q = (q.map fun x => x.cps.toList).map S := by
    rw [List.map_map]
    conv => lhs; rw [← List.map_id q]
    apply List.map_congr_left
    intro x _
    exact S_surj x
  rw [hq, join_dots] at h1
  have h4 := S_inj.mp h1
  rw [hq]
  congr 1
  refine dots_inj (fun q0 => ?_) hne (fun p hp => ?_) hfree h4
  · have := congrArg List.length q0; simp at this; rw [this] at h3; simp at h3
  · obtain ⟨y, hy, rfl⟩ := List.mem_map.mp hp
    exact h2 y hy
section
variable {M : Model} {prog : Program} {w : World} {A : Around} {E : Value → Shared → Prop} {s₀ s s' : Shared} {g₀ g g' : Mem} {X : List Addr} {L : Addr} {m : Str → Option Value} {c : List (Addr × Obj)} {env : Env}
theorem all2_strsFrom : ∀ (k : Nat) (xs : List T), All2 IsT (strsFrom k (xs.map S)) xs := by
  intro k xs
  rw [strsFrom_eq]
  induction xs generalizing k with
  | nil => trivial
  | cons a r ih => exact ⟨⟨_, rfl⟩, ih (k + 1)⟩
theorem split_dot {xs : List T} {t u : Tok} {Q : Value → Shared → Prop} (S : St w s₀ g₀ X L m c g s) (hne : xs ≠ []) (hfree : ∀ p ∈ xs, 46 ∉ p) (hl : (dots xs).length ≤ 100)
    (h : ∀ D vs g' s', Le g g' → St w s₀ g₀ X L m c g' s' → LstAt g' D vs → All2 IsT vs xs → Q (.ref D) s') : wpAny (model prog w) A (call (.builtin "str.split") [.str (Mine.S (dots xs)) t, .str (Mine.S [46]) u]) Q E s := by
  have e := split_dots hne hfree
  have hsz : (Mine.S (dots xs)).length ≤ sizeLine := by rw [S_len, sizeLine_eq]; omega
  have hle := split_le (Mine.S (dots xs)) (Mine.S [46])
  rw [S_len] at hle
  unfold Txt.split at e hle
  have fin : ∀ (vs : List Value) (tk : Nat), All2 IsT vs xs → Q (.ref s.heap.objs.size) { s with heap := s.heap.push { cls := .type "list", data := .seq vs.toArray }, toks := tk } := fun vs tk hv =>
    h _ vs _ _ (Mem.le_put (S.none_at (get_size _))) (S.pushF _ tk) ⟨_, Mem.put_self .., rfl, 0, rfl⟩ hv
  cases h1 : (decide ((Mine.S (dots xs)).length < (Mine.S [46]).length) || decide (strKind (Mine.S (dots xs)) < strKind (Mine.S [46])))
  · cases hf : (occurrences (Mine.S (dots xs)) (Mine.S [46]) 0 (Mine.S (dots xs)).length ((Mine.S (dots xs)).length + 1)).isEmpty
    · rw [if_neg (ne_true_of_eq_false h1), if_neg (ne_true_of_eq_false hf)] at e hle
      refine call_meets F.slot_str_split (typeIs_str _ _ _) F.entry_str_split (F.args_str_split_2 _ _) (meets_str_split_sep _ _ t u h1 rfl hf hsz (by rw [sizeLine_eq]; omega)) ?_
      exact fin _ _ (e ▸ all2_strsFrom _ xs)
    · rw [if_neg (ne_true_of_eq_false h1), if_pos hf] at e
      refine call_meets F.slot_str_split (typeIs_str _ _ _) F.entry_str_split (F.args_str_split_2 _ _) (meets_str_split_not_found _ _ t u h1 rfl hf) (fin [_] s.toks ?_)
      cases xs with
      | nil => cases e
      | cons a r => cases r with
        | nil => exact ⟨⟨_, rfl⟩, trivial⟩
        | cons b r => simp at e
  · rw [if_pos h1] at e
    refine call_meets F.slot_str_split (typeIs_str _ _ _) F.entry_str_split (F.args_str_split_2 _ _) (meets_str_split_cannot_occur _ _ t u h1) (fin [_] s.toks ?_)
    cases xs with
    | nil => cases e
    | cons a r => cases r with
      | nil => exact ⟨⟨_, rfl⟩, trivial⟩
      | cons b r => simp at e
theorem strsAre_of : ∀ {vs : List Value} {xs : List T}, All2 IsT vs xs → StrsAre vs (xs.map S)
  | [], [], _ => .nil
  | _ :: _, _ :: _, h => by obtain ⟨t, rfl⟩ := h.1; exact .cons _ _ (strsAre_of h.2)
theorem sum_len (xs : List T) : ((xs.map S).map (·.length)).sum = (xs.map List.length).sum := by
  rw [List.map_map]; congr 1
theorem join_tup {a : Addr} {vs : List Value} {xs : List T} {t : Tok} {Q : Value → Shared → Prop} (S : St w s₀ g₀ X L m c g s) (ht : TupAt s.heap.get? a vs) (hv : All2 IsT vs xs) (hs : (xs.map List.length).sum + xs.length ≤ 10000)
    (h : ∀ t' s', St w s₀ g₀ X L m c g s' → Q (.str (Mine.S (dots xs)) t') s') : wpAny (model prog w) A (call (.builtin "str.join") [.str (Mine.S [46]) t, .ref a]) Q E s := by
  refine join_tuple ht.isTup (strsAre_of hv) (by rw [sum_len, List.length_map, S_len]; simp; omega) fun t' k => ?_
  have : Txt.join (Mine.S [46]) (xs.map Mine.S) = Mine.S (dots xs) := by show glued _ _ = _; rw [StrLaws.glued_eq_join, join_dots]
  rw [this]; exact h _ _ (S.toks k)
theorem glue_nil : ∀ xs : List T, Str.join (S []) (xs.map S) = S xs.flatten
  | [] => rfl
  | [a] => by simp [Str.join]
  | a :: b :: r => by
    show S a ++ S [] ++ Str.join (S []) ((b :: r).map S) = _
    rw [glue_nil (b :: r), S_add, S_add]; simp
theorem join_lst {a : Addr} {vs : List Value} {xs : List T} {t : Tok} {Q : Value → Shared → Prop} (S : St w s₀ g₀ X L m c g s) (hl : LstAt s.heap.get? a vs) (hv : All2 IsT vs xs) (hs : (xs.map List.length).sum ≤ 10000)
    (h : ∀ t' s', St w s₀ g₀ X L m c g s' → Q (.str (Mine.S xs.flatten) t') s') : wpAny (model prog w) A (call (.builtin "str.join") [.str (Mine.S []) t, .ref a]) Q E s := by
  refine join_list hl.isList (strsAre_of hv) (by rw [sum_len, List.length_map, S_len]; simp; omega) fun t' k => ?_
  have : Txt.join (Mine.S []) (xs.map Mine.S) = Mine.S xs.flatten := by show glued _ _ = _; rw [StrLaws.glued_eq_join, glue_nil]
  rw [this]; exact h _ _ (S.toks k)
theorem endswith_S (a b : T) : Txt.endswith (S a) (S b) = decide (b <:+ a) := by
  unfold Txt.endswith subAt
  rw [S_len, S_len, S_cps, S_cps]
  by_cases hl : b.length ≤ a.length
  · have e0 : decide (0 + b.length ≤ a.length) = true := by simp; omega
    rw [e0, Bool.true_and]
    have e1 : a.length - b.length + b.length = a.length := by omega
    rw [e1]
    have e2 : (a.toArray.extract (a.length - b.length) a.length) = (a.drop (a.length - b.length)).toArray := by
      simp; exact List.take_of_length_le (by simp)
    rw [e2]
    have : (((a.drop (a.length - b.length)).toArray == b.toArray) = true) ↔ (decide (b <:+ a) = true) := by
      rw [beq_iff_eq, decide_eq_true_eq, List.suffix_iff_eq_drop]
      constructor
      · intro h; have := congrArg Array.toList h; exact this.symm
      · intro h; rw [← h]
    exact Bool.eq_iff_iff.mpr this
  · have e0 : decide (0 + b.length ≤ a.length) = false := by simp; omega
    rw [e0, Bool.false_and]
    symm; rw [decide_eq_false_iff_not]
    intro h; exact hl h.length_le
theorem endswith1 {a b : T} {t u : Tok} {Q : Value → Shared → Prop} (h : Q (.bool (decide (b <:+ a))) s) : wpAny (model prog w) A (call (.builtin "str.endswith") [.str (S a) t, .str (S b) u]) Q E s :=
  SC.endswith (by rw [endswith_S]; exact h)
theorem isupper1 {a : T} {t : Tok} {b : Bool} {Q : Value → Shared → Prop} (hb : Txt.isupper (S a) = b) (h : Q (.bool b) s) : wpAny (model prog w) A (call (.builtin "str.isupper") [.str (S a) t]) Q E s :=
  SC.isupper (by rw [hb]; exact h)
theorem isinst_str {l : T} {t : Tok} {C : Value} {b : Bool} {Q : Value → Shared → Prop} (S : St w s₀ g₀ X L m c g s) (e : kitOne (KK w) (.type "str") C = some b) (h : ∀ s', St w s₀ g₀ X L m c g s' → Q (.bool b) s') :
    wpAny (model prog w) A (call (.builtin "isinstance") [.str (Mine.S l) t, C]) Q E s := kia_one kitx_str S.kin trivial e (by intro q; cases q) fun tk => h _ (S.toks tk)
theorem isinst_int {i : Int} {t : Tok} {C : Value} {b : Bool} {Q : Value → Shared → Prop} (S : St w s₀ g₀ X L m c g s) (e : kitOne (KK w) (.type "int") C = some b) (h : ∀ s', St w s₀ g₀ X L m c g s' → Q (.bool b) s') :
    wpAny (model prog w) A (call (.builtin "isinstance") [.int i t, C]) Q E s := kia_one kitx_int S.kin trivial e (by intro q; cases q) fun tk => h _ (S.toks tk)
theorem isinst_tup {a : Addr} {vs : List Value} {C : Value} {b : Bool} {Q : Value → Shared → Prop} (S : St w s₀ g₀ X L m c g s) (ht : TupAt s.heap.get? a vs) (e : kitOne (KK w) (.type "tuple") C = some b) (h : ∀ s', St w s₀ g₀ X L m c g s' → Q (.bool b) s') :
    wpAny (model prog w) A (call (.builtin "isinstance") [.ref a, C]) Q E s := kia_one kitx_tuple S.kin (let ⟨o, h1, h2⟩ := ht; ⟨o, h1, h2.1⟩) e (by intro q; cases q) fun tk => h _ (S.toks tk)
theorem isinst_own {x D dx : Addr} {od : Obj} {C : Value} {b : Bool} {Q : Value → Shared → Prop} (S : St w s₀ g₀ X L m c g s) (I : InstG s.heap.get? x D dx od) (hg : plainGet (KK w) D "__class__" = true) (hdct : hasDictIn (KK w) D = true) (ha : findIn (KK w) (.ref D) "__class__" = some (some (.builtin "object.__class__")))
    (hn : specialIn (KK w) (.builtin "object.__class__") "__get__" = some (some (.builtin "getset_descriptor.__get__"))) (htk : takesIn (KK w) (.builtin "object.__class__") = some true) (hm : mroIn (KK w) D (.type "object") = some true)
    (e : kitOne (KK w) (.ref D) C = some b) (h : ∀ s', St w s₀ g₀ X L m c g s' → Q (.bool b) s') :
    wpAny (model prog w) A (call (.builtin "isinstance") [.ref x, C]) Q E s :=
  kia_one (kitx_own (ox := instObj D dx) (od := od) hg hdct ha hn htk hm) S.kin I.at e (by intro q; cases q) fun tk => h _ (S.toks tk)
theorem s_setattr {o : Expr} {attr : Str} {p pos : Pos} {value : Expr} {rest : List Stmt} {Q : Flow → Shared → Prop}
    (h : wpAny M A (eval value env) (fun v s₁ => wpAny M A (eval o env) (fun ov s₂ => wpAny M A (setAttr ov attr v) (fun _ s₃ => wpAny M A (execs rest env) Q E s₃) E s₂) E s₁) E s)
    (hs : swapsWith value (some (.Attribute o attr p)) pos.line env = pure false := by with_unfolding_all rfl) :
    wpAny M A (execs (.Assign [.Attribute o attr p] value pos :: rest) env) Q E s := wpAny_execs_cons (plainObj_wpAny_Assign_Attribute h hs)
theorem t_no {test : Expr} {whole : Sem Value} {Q : Bool → Shared → Prop} (_ : St w s₀ g₀ X L m c g s) (h1 : wpAny M A (isTrue test env whole) (fun b s' => b = false ∧ St w s₀ g₀ X L m c g s') E s) (h2 : ∀ s', St w s₀ g₀ X L m c g s' → Q false s') :
    wpAny M A (isTrue test env whole) Q E s := wpAny_mono h1 (fun b s' q => by obtain ⟨rfl, q⟩ := q; exact h2 s' q) fun _ _ x => x
theorem t_is {test : Expr} {whole : Sem Value} (b : Bool) {Q : Bool → Shared → Prop} (_ : St w s₀ g₀ X L m c g s) (h1 : wpAny M A (isTrue test env whole) (fun b' s' => b' = b ∧ St w s₀ g₀ X L m c g s') E s) (h2 : ∀ s', St w s₀ g₀ X L m c g s' → Q b s') :
    wpAny M A (isTrue test env whole) Q E s := wpAny_mono h1 (fun b' s' q => by obtain ⟨rfl, q⟩ := q; exact h2 s' q) fun _ _ x => x
theorem t_or {x y : Expr} {rest : List Expr} {pos : Pos} {whole : Sem Value} {Q : Bool → Shared → Prop}
    (h : wpAny M A (isTrue x env (eval x env)) (fun b s' => if b = true then Q true s' else wpAny M A (isTrue (.BoolOp .Or (y :: rest) pos) env whole) Q E s') E s) :
    wpAny M A (isTrue (.BoolOp .Or (x :: y :: rest) pos) env whole) Q E s := isTrue_or h
theorem t_or1 {x : Expr} {pos : Pos} {whole : Sem Value} {Q : Bool → Shared → Prop} (h : wpAny M A (isTrue x env (eval x env)) Q E s) :
    wpAny M A (isTrue (.BoolOp .Or [x] pos) env whole) Q E s := isTrue_or (wpAny_mono h (fun b s' q => by cases b with | true => exact q | false => exact isTrue_or_nil q) fun _ _ x => x)
theorem t_and {x y : Expr} {rest : List Expr} {pos : Pos} {whole : Sem Value} {Q : Bool → Shared → Prop}
    (h : wpAny M A (isTrue x env (eval x env)) (fun b s' => if b = true then wpAny M A (isTrue (.BoolOp .And (y :: rest) pos) env whole) Q E s' else Q false s') E s) :
    wpAny M A (isTrue (.BoolOp .And (x :: y :: rest) pos) env whole) Q E s := isTrue_and h
theorem t_and1 {x : Expr} {pos : Pos} {whole : Sem Value} {Q : Bool → Shared → Prop} (h : wpAny M A (isTrue x env (eval x env)) Q E s) :
    wpAny M A (isTrue (.BoolOp .And [x] pos) env whole) Q E s := isTrue_and (wpAny_mono h (fun b s' q => by cases b with | true => exact isTrue_and_nil q | false => exact q) fun _ _ x => x)
theorem e_or {x y : Expr} {rest : List Expr} {pos : Pos} {Q : Value → Shared → Prop}
    (h : wpAny M A (eval x env) (fun v s₁ => wpAny M A (truthy v) (fun b s₂ => if b = true then Q v s₂ else wpAny M A (eval (.BoolOp .Or (y :: rest) pos) env) Q E s₂) E s₁) E s) :
    wpAny M A (eval (.BoolOp .Or (x :: y :: rest) pos) env) Q E s := BoolOp_or h
theorem e_and {x y : Expr} {rest : List Expr} {pos : Pos} {Q : Value → Shared → Prop}
    (h : wpAny M A (eval x env) (fun v s₁ => wpAny M A (truthy v) (fun b s₂ => if b = true then wpAny M A (eval (.BoolOp .And (y :: rest) pos) env) Q E s₂ else Q v s₂) E s₁) E s) :
    wpAny M A (eval (.BoolOp .And (x :: y :: rest) pos) env) Q E s := BoolOp_and h
theorem e_bool1 {op : BoolOp} {x : Expr} {pos : Pos} {Q : Value → Shared → Prop} (h : wpAny M A (eval x env) Q E s) : wpAny M A (eval (.BoolOp op [x] pos) env) Q E s := BoolOp_one h
theorem truthy_tup {a : Addr} {vs : List Value} {Q : Bool → Shared → Prop} (S : St w s₀ g₀ X L m c g s) (ht : TupAt s.heap.get? a vs) (hn : vs.length < 2 ^ 24) (h : ∀ s', St w s₀ g₀ X L m c g s' → Q (!vs.isEmpty) s') : wpAny (model prog w) A (truthy (.ref a)) Q E s := by
  refine PyProof.Rows.truthy_tuple ht.isTup (by rw [List.size_toArray]; omega) ?_
  rw [List.isEmpty_toArray]; exact h _ (S.toks _)
end
end

section
local macro_rules | `(tactic| walk_at "lk") => `(tactic| first | with_reducible assumption | with_reducible exact up_self _ _ _ | with_reducible exact up_get (by with_unfolding_all decide) (by walk_at "lk") | with_unfolding_all rfl)
local macro_rules | `(tactic| walk_at "g") => `(tactic| with_reducible first
  | refine s_assign ?_
  | refine s_setattr ?_
  | refine s_setitem ?_
  | refine s_assign2 ?_
  | refine s_ret ?_
  | refine s_if1 ?_
  | refine s_if ?_
  | refine s_for ?_
  | refine s_aug ?_
  | refine s_expr ?_
  | refine s_nil ?_
  | refine s_continue ?_
  | refine s_break ?_
  | refine t_cmp ?_
  | refine t_not ?_
  | refine t_or ?_
  | refine t_or1 ?_
  | refine t_and ?_
  | refine t_and1 ?_
  | refine e_or ?_
  | refine e_and ?_
  | refine e_bool1 ?_
  | refine e_attr ?_
  | refine GM.isupper ?_
  | refine GM.split ?_
  | refine GM.join ?_
  | refine GM.endswith ?_
  | refine endswith1 ?_
  | refine e_mcall ?_
  | refine e_call ?_
  | refine e_sub ?_
  | refine e_bin ?_
  | refine e_ite ?_
  | refine s_assert ?_
  | refine e_neg ?_
  | (refine neg_i (by assumption) ?_; intro _ _ _)
  | refine e_cmp ?_
  | refine e_slice_sn ?_
  | refine e_slice_ns ?_
  | refine e_slice_ss ?_
  | refine a_nil ?_
  | refine a_cons ?_
  | refine c_type ?_
  | refine c_builtin ?_
  | refine c_meth ?_
  | refine c_builtin0 ?_
  | (refine cint (by assumption) ?_; intro _ _ _)
  | (refine cstr (by assumption) ?_; intro _ _ _)
  | refine wpAny_Constant_none ?_
  | refine wpAny_Constant_bool ?_
  | refine ldl (by assumption) (by walk_at "lk") ?_
  | refine ldlN (by assumption) (by walk_at "lk") ?_
  | refine ldn (by assumption) (by with_unfolding_all rfl) ?_
  | (refine stl (by assumption) ?_; intro _ _)
  | (refine max2 (by assumption) (by with_unfolding_all assumption) ?_; intro _ _ _)
  | (refine min2 (by assumption) (by with_unfolding_all assumption) ?_; intro _ _ _)
  | (refine Mine.sub_int (by assumption) ?_; intro _ _ _)
  | (refine Mine.add_int (by assumption) ?_; intro _ _ _)
  | (refine Mine.mod_pos (by assumption) (by omega) ?_; intro _ _ _)
  | (refine Mine.div_pos (by assumption) (by omega) (by omega) ?_; intro _ _ _)
  | (refine Mine.len_str (by assumption) (by omega) ?_; intro _ _ _)
  | refine gm_append (by assumption) (by with_unfolding_all k_mem) ?_
  | (refine append0 (by assumption) (by omega) ?_; intro _ _ _)
  | (refine append1 (by assumption) (by omega) ?_; intro _ _ _)
  | (refine append2 (by assumption) (by omega) ?_; intro _ _ _)
  | refine e_tup ?_
  | refine e_listF ?_
  | refine eqI ?_
  | refine geI ?_
  | refine leI ?_
  | refine gtI ?_
  | refine eqS ?_
  | refine isNone ?_
  | refine isntNone ?_
  | refine And.intro rfl ?_
  | refine wpAny_truthy_bool ?_
  | refine t_val ?_)
local macro_rules | `(tactic| walk_at "gg") => `(tactic| repeat' (first | walk_at "g" | dsimp only))
local macro_rules | `(tactic| walk_at "h") => `(tactic| with_reducible first
  | refine s_assign ?_
  | refine s_setattr ?_
  | refine s_setitem ?_
  | refine s_assign2 ?_
  | refine s_ret ?_
  | refine s_if1 ?_
  | refine s_if ?_
  | refine s_for ?_
  | refine s_aug ?_
  | refine s_expr ?_
  | refine s_nil ?_
  | refine s_continue ?_
  | refine s_break ?_
  | refine e_or ?_
  | refine e_and ?_
  | refine e_bool1 ?_
  | refine e_attr ?_
  | refine GM.isupper ?_
  | refine GM.split ?_
  | refine GM.join ?_
  | refine GM.endswith ?_
  | refine endswith1 ?_
  | refine e_mcall ?_
  | refine e_call ?_
  | refine e_sub ?_
  | refine e_bin ?_
  | refine e_ite ?_
  | refine s_assert ?_
  | refine e_neg ?_
  | (refine neg_i (by assumption) ?_; intro _ _ _)
  | refine e_cmp ?_
  | refine e_slice_sn ?_
  | refine e_slice_ns ?_
  | refine e_slice_ss ?_
  | refine a_nil ?_
  | refine a_cons ?_
  | refine c_type ?_
  | refine c_builtin ?_
  | refine c_meth ?_
  | refine c_builtin0 ?_
  | (refine cint (by assumption) ?_; intro _ _ _)
  | (refine cstr (by assumption) ?_; intro _ _ _)
  | refine wpAny_Constant_none ?_
  | refine wpAny_Constant_bool ?_
  | refine ldl (by assumption) (by walk_at "lk") ?_
  | refine ldlN (by assumption) (by walk_at "lk") ?_
  | refine ldn (by assumption) (by with_unfolding_all rfl) ?_
  | (refine stl (by assumption) ?_; intro _ _)
  | (refine max2 (by assumption) (by with_unfolding_all assumption) ?_; intro _ _ _)
  | (refine min2 (by assumption) (by with_unfolding_all assumption) ?_; intro _ _ _)
  | (refine Mine.sub_int (by assumption) ?_; intro _ _ _)
  | (refine Mine.add_int (by assumption) ?_; intro _ _ _)
  | (refine Mine.mod_pos (by assumption) (by omega) ?_; intro _ _ _)
  | (refine Mine.div_pos (by assumption) (by omega) (by omega) ?_; intro _ _ _)
  | (refine Mine.len_str (by assumption) (by omega) ?_; intro _ _ _)
  | refine gm_append (by assumption) (by with_unfolding_all k_mem) ?_
  | (refine append0 (by assumption) (by omega) ?_; intro _ _ _)
  | (refine append1 (by assumption) (by omega) ?_; intro _ _ _)
  | (refine append2 (by assumption) (by omega) ?_; intro _ _ _)
  | refine e_tup ?_
  | refine e_listF ?_
  | refine eqI ?_
  | refine geI ?_
  | refine leI ?_
  | refine gtI ?_
  | refine eqS ?_
  | refine isNone ?_
  | refine isntNone ?_
  | refine And.intro rfl ?_
  | refine wpAny_truthy_bool ?_)
local macro_rules | `(tactic| walk_at "hh") => `(tactic| repeat' (first | walk_at "h" | dsimp only))

-- PART F5 --
section
open PySem PySem.W PySem.Calls PyProof.Rows
def IsTok (g : Mem) (v : Value) (names : List T) : Prop := ∃ a dx od nv, v = .ref a ∧ InstG g a 83 dx od ∧ NsO 1 od (up (fun _ => none) "names" nv) ∧ IsTs g nv names
theorem IsTok.mono {g g' : Mem} {v : Value} {names : List T} (h : IsTok g v names) (k : Le g g') : IsTok g' v names :=
  let ⟨a, dx, od, nv, h1, h2, h3, h4⟩ := h; ⟨a, dx, od, nv, h1, h2.mono k, h3, h4.mono k⟩
section
variable {M : Model} {prog : Program} {w : World} {A : Around} {E : Value → Shared → Prop} {s₀ s s' : Shared} {g₀ g g' : Mem} {X : List Addr} {L : Addr} {m : Str → Option Value} {c : List (Addr × Obj)} {env : Env}
theorem tok_names {v : Value} {names : List T} {expr : Bool} {Q : Value → Shared → Prop} (S : St w s₀ g₀ X L m c g s) (K : IsTok g v names) (h : ∀ na vs s', St w s₀ g₀ X L m c g s' → TupAt g na vs → All2 IsT vs names → Q (.ref na) s') :
    wpAny (model prog w) A (getAttr v "names" expr) Q E s := by
  obtain ⟨a, dx, od, nv, rfl, I, N, ⟨na, vs, rfl, ht, hv⟩⟩ := K
  exact get_field S (I.mono S.gg) (by kernel_rfl) (by kernel_rfl) (by kernel_rfl) ((N.look "names").trans (congrArg some (up_self _ _ _))) rfl fun s' S' => h na vs s' S' ht hv
theorem tok_child {v : Value} {names : List T} {pl : Sem Bool} {Q : Value × List Value → Shared → Prop} (S : St w s₀ g₀ X L m c g s) (K : IsTok g v names) (h : Q (.ref 73, [v]) s) : wpAny (model prog w) A (getMethod v "child" pl) Q E s := by
  obtain ⟨a, dx, od, nv, rfl, I, N, _⟩ := K
  exact get_meth S (I.mono S.gg) (by kernel_rfl) (by kernel_rfl) (by kernel_rfl) (by kernel_rfl) ((N.look "child").trans (congrArg some (up_ne _ (by decide)))) h
theorem tok_new (hr : Room A 1) (B : Base w g) (hg : Le g s.heap.get?) {vs : List Value} {names : List T} (hv : All2 IsT vs names) (hn : vs.length ≤ 6)
    {R : Result → Shared → Prop} (h : ∀ v s' g', Post [] s g s' g' → IsTok g' v names → R (.ok (.ret v)) s') :
    codeAny (model prog w) A (.call (.ref 83) ⟨vs, []⟩) R s := by
  refine makeC (fI := 52) B hg (by kernel_rfl) (by kernel_rfl) (by kernel_rfl) fun dx s₁ hdx hs₁ hle hg₁ hd hn₁ => ?_
  have hP := Pre.init (c := [(dx, dictOf [] 0)]) (B.mono hle) hg₁ (by intro p hp; rcases List.mem_singleton.mp hp with rfl; exact ⟨hd, hn₁⟩) (by simp)
  refine enterV (f := 52) (B.mono hle) hg₁ rfl (by kernel_rfl) (by have := hr.dp; show A.depth + 1 < _; omega) (by decide) (wp_alloc (o := tup vs) (B.mono hle |>.mono hg₁).K _ (fun D => pure [("self", .ref (dx + 1)), ("names", .ref D)]) ?_ (wpAny_pure ⟨_, _, hP.pushF (tup vs), rfl, fun L s₂ S₂ => ?_⟩))
  · match vs, hn with
    | [], _ => rfl
    | [_], _ => rfl
    | [_, _], _ => rfl
    | [_, _, _], _ => rfl
    | [_, _, _, _], _ => rfl
    | [_, _, _, _, _], _ => rfl
    | [_, _, _, _, _, _], _ => rfl
  · have hnd : (g.put (dx + 1) (instObj 83 dx)) s₁.heap.objs.size = none := hP.none_at (get_size _)
    have htup : ((g.put (dx + 1) (instObj 83 dx)).put s₁.heap.objs.size (tup vs)) s₁.heap.objs.size = some (tup vs) := Mem.put_self ..
    have hx : ((g.put (dx + 1) (instObj 83 dx)).put s₁.heap.objs.size (tup vs)) (dx + 1) = some (instObj 83 dx) := Mem.le_put hnd _ _ (Mem.put_self ..)
    walk_at "gg"
    refine set_field (by assumption) (St.gg (by assumption) _ _ hx) .nil (by omega) (by kernel_rfl) (by kernel_rfl) (by kernel_rfl) (by kernel_rfl) ?_; intro od s₃ N S₃
    walk_at "gg"
    obtain ⟨P, I, hle₂⟩ := made_endC hg hdx hs₁ S₃
    exact ⟨rfl, h _ _ _ P ⟨dx + 1, dx, od, _, rfl, I, N, _, vs, rfl, ⟨_, hle₂ _ _ htup, tup_is vs⟩, hv⟩⟩
end
end

-- PART F6 --
section
open PySem PySem.W PySem.Calls PyProof.Rows
section
variable {prog : Program} {w : World}
def aliasKvs : List (Str × Value) := [("Token", .ref 89), ("String", .ref 109), ("Number", .ref 113)]
theorem aliasO (prog : Program) (w : World) : ∃ od, (KK w).lookup 116 = some od ∧ DictObj prog w od aliasKvs := by
  refine ⟨_, rfl, ⟨rfl, rfl, rfl⟩, _, _, rfl, ?_, .cons (strKind_is prog w _ _) rfl (.cons (strKind_is prog w _ _) rfl (.cons (strKind_is prog w _ _) rfl .nil)), by decide⟩
  intro e he
  have : e ∈ [_, _, _] := Array.mem_toList_iff.mpr he
  rcases List.mem_cons.mp this with rfl | this
  · exact ⟨_, strKind_is prog w _ _, rfl⟩
  rcases List.mem_cons.mp this with rfl | this
  · exact ⟨_, strKind_is prog w _ _, rfl⟩
  rcases List.mem_singleton.mp this with rfl
  exact ⟨_, strKind_is prog w _ _, rfl⟩
def tText : T := [84, 101, 120, 116]
def tWhite : T := [87, 104, 105, 116, 101, 115, 112, 97, 99, 101]
def tError : T := [69, 114, 114, 111, 114]
theorem str_text : Str.ofString "Text" = S tText := by decide +kernel
theorem str_white : Str.ofString "Whitespace" = S tWhite := by decide +kernel
theorem str_error : Str.ofString "Error" = S tError := by decide +kernel
theorem one_name (name : Str) (hsh : Int) (t : Tok) (v : Value) (n : Nat) : NsO 1 (dictOf [⟨hsh, .str name t, v⟩] n) (up (fun _ => none) name v) :=
  ⟨_, _, rfl, Nat.le_refl _, by intro e he; rcases List.mem_singleton.mp he with rfl; exact ⟨_, _, rfl⟩, fun y => putL_get name hsh t v y []⟩
noncomputable def KG (w : World) : Mem := fun a => (KK w).lookup a
theorem Base.kg {g : Mem} (B : Base w g) : Le (KG w) g := B.K
theorem kTok0 (w : World) : IsTok (KG w) (.ref 89) [] := ⟨89, _, _, _, rfl, ⟨rfl, rfl⟩, one_name ("names") _ _ _ _, _, [], rfl, ⟨_, rfl, rfl, _, rfl⟩, trivial⟩
theorem kText (w : World) : IsTok (KG w) (.ref 93) [tText] := ⟨93, _, _, _, rfl, ⟨rfl, rfl⟩, one_name ("names") _ _ _ _, _, [_], rfl, ⟨_, rfl, rfl, _, rfl⟩, ⟨_, by rw [← str_text]⟩, trivial⟩
theorem kWhite (w : World) : IsTok (KG w) (.ref 97) [tText, tWhite] := ⟨97, _, _, _, rfl, ⟨rfl, rfl⟩, one_name ("names") _ _ _ _, _, [_, _], rfl, ⟨_, rfl, rfl, _, rfl⟩, ⟨_, by rw [← str_text]⟩, ⟨_, by rw [← str_white]⟩, trivial⟩
theorem kEsc (w : World) : IsTok (KG w) (.ref 101) [tEsc] := ⟨101, _, _, _, rfl, ⟨rfl, rfl⟩, one_name ("names") _ _ _ _, _, [_], rfl, ⟨_, rfl, rfl, _, rfl⟩, ⟨_, by rw [← str_esc]⟩, trivial⟩
theorem kError (w : World) : IsTok (KG w) (.ref 105) [tError] := ⟨105, _, _, _, rfl, ⟨rfl, rfl⟩, one_name ("names") _ _ _ _, _, [_], rfl, ⟨_, rfl, rfl, _, rfl⟩, ⟨_, by rw [← str_error]⟩, trivial⟩
variable {A : Around} {E : Value → Shared → Prop} {s : Shared} {g : Mem}
theorem child_spec (hr : Room A 3) (B : Base w g) (hg : Le g s.heap.get?) {tv : Value} {names : List T} {ch : Nat} {rest : T} {t : Tok} (K : IsTok g tv names) (hn : names.length ≤ 5) (hu : Txt.isupper (S [ch]) = true)
    (ha : names ≠ [] ∨ hasK aliasKvs (ch :: rest) = false) (hl : rest.length ≤ 100)
    {R : Result → Shared → Prop} (h : ∀ v s' g', Post [] s g s' g' → IsTok g' v (names ++ [ch :: rest]) → R (.ok (.ret v)) s') :
    codeAny (model prog w) A (.call (.ref 73) ⟨[tv, .str (S (ch :: rest)) t], []⟩) R s := by
  refine callF (g := g) [("self", tv), ("val", .str (S (ch :: rest)) t)] B hg (f := 73) rfl (by kernel_rfl) hr.lt (BindsTo.of_eq rfl) rfl (by decide) fun L s₁ S₁ => ?_
  have hh := hr.hd
  walk_at "gg"
  refine truthyS (by assumption) (by simp; omega) ?_; intro _ _
  walk_at "gg"
  rw [if_neg (by simp)]
  walk_at "gg"
  refine item_str (ch := ch) (by assumption) (by omega) (by omega) rfl ?_; intro _ _ _
  walk_at "gg"
  refine isupper1 hu ?_
  walk_at "gg"
  rw [if_neg (by simp)]
  walk_at "g"
  refine t_no (by assumption) ?_ ?_
  · walk_at "gg"
    refine tok_names (by assumption) K ?_; intro na vs s₂ S₂ hna hvs
    walk_at "gg"
    have hvl := hvs.length
    refine truthy_tup (by assumption) (hna.mono (St.gg (by assumption))) (by omega) ?_; intro s₃ S₃
    cases vs with
    | cons v vs => rw [if_neg (by simp)]; exact ⟨rfl, S₃⟩
    | nil =>
      rw [if_pos (by simp)]
      walk_at "gg"
      obtain ⟨od, h1, h2⟩ := aliasO prog w
      refine in_dict (by assumption) (St.kin (by assumption) _ _ h1) h2 ?_ rfl; intro s₄ S₄
      walk_at "gg"
      refine ⟨?_, S₄⟩
      cases names with
      | nil => exact ha.resolve_left (fun q => q rfl)
      | cons n ns => simp at hvl
  · intro s₂ S₂
    rw [if_neg (by simp)]
    walk_at "gg"
    refine c_star2 (by assumption) (by kernel_rfl) ?_
    walk_at "gg"
    refine tok_names (by assumption) K ?_; intro na vs s₃ S₃ hna hvs
    have hvl := hvs.length
    refine star_tup (by assumption) (hna.mono (St.gg (by assumption))) (by omega) ?_; intro s₄ S₄
    walk_at "gg"
    refine St.kinH (by assumption) ?_
    refine wpAny_call (tok_new (names := names ++ [ch :: rest]) ((hr.mono (by omega : 2 ≤ 3)).deeper _) (St.baseG (by assumption)) (St.gg (by assumption)) (All2.append (as' := [_]) (bs' := [_]) ⟨⟨_, rfl⟩, trivial⟩ hvs) (by simp; omega) ?_)
    intro v s₅ g₅ P₅ K₅
    have S₅ := St.after (by assumption) P₅
    walk_at "gg"
    exact h _ _ _ (St.post (by assumption)) K₅
end
end

end

-- PART B14 --
section
open PySem PySem.W PySem.Calls PyProof.Rows Builtin PySem.SeqAt
section
variable {prog : Program} {w : World} {A : Around} {E : Value → Shared → Prop} {s : Shared}
theorem adjust_upto (b n : Nat) : Builtin.Slice.sliceAdjust none (some (b : Int)) 1 (n : Int) = ((0 : Int), ((min b n : Nat) : Int)) := by
  unfold Builtin.Slice.sliceAdjust
  have h1 : ¬ ((1 : Int) < 0) := by omega
  have h2 : ¬ ((b : Int) < 0) := by omega
  simp only [h1, h2, if_false]
  congr 1
  omega
theorem places_upto (k : Nat) : Builtin.Slice.slicePlaces 0 (k : Int) 1 = k := by
  unfold Builtin.Slice.slicePlaces
  have h1 : (1 : Int) > 0 := by omega
  simp only [h1, if_true, Int.ediv_one]
  split <;> omega
theorem sliceApplied_upto {sl : Addr} {b n : Nat} {u : Tok} {Q : Int × Int × Nat → Shared → Prop} (hs : s.heap.IsSliceOf sl .none (.int b u) .none) (h : Q (0, 1, min b n) s) :
    wpAny (model prog w) A (Builtin.Slice.sliceApplied (.ref sl) (pure (n : Int))) Q E s := by
  obtain ⟨os, hos, hcs, hds⟩ := id hs
  unfold Builtin.Slice.sliceApplied Builtin.Slice.sliceFields
  refine wpAny_bind (wpAny_bind (wpAny_field hos hds (x := .none) rfl (wpAny_bind (wpAny_field hos hds (x := .int b u) rfl (wpAny_bind (wpAny_field hos hds (x := .none) rfl (wpAny_pure ?_)))))))
  refine wpAny_bind (slicePart_none ?_)
  show wpAny _ _ (if ((1 : Int) == 0) = true then _ else _) _ _ s
  rw [if_neg (by decide)]
  refine wpAny_bind (slicePart_none (wpAny_bind (slicePart_int (wpAny_bind (wpAny_pure ?_)))))
  show wpAny _ _ (match Builtin.Slice.sliceAdjust none (some (b : Int)) 1 (n : Int) with | (lo, hi) => pure (lo, (1 : Int), Builtin.Slice.slicePlaces lo hi 1)) _ _ s
  rw [adjust_upto b n]
  show wpAny _ _ (pure ((0 : Int), (1 : Int), Builtin.Slice.slicePlaces 0 ((min b n : Nat) : Int) 1)) _ _ s
  rw [places_upto]
  exact wpAny_pure h
theorem pick_upto (xs : Array Value) (k : Nat) : ((List.range k).filterMap fun (i : Nat) => xs[((0 : Int) + (i : Int) * 1).toNat]?).toArray = (xs.toList.take k).toArray := by
  have e : (fun (i : Nat) => xs[((0 : Int) + (i : Int) * 1).toNat]?) = fun i => xs[0 + i]? := by
    funext i
    have : ((0 : Int) + (i : Int) * 1).toNat = 0 + i := by omega
    rw [this]
  rw [e]
  have := pick_run xs 0 k
  rw [List.filterMap_map] at this
  have e2 : ((fun x => xs[x]?) ∘ fun x => 0 + x) = fun i => xs[0 + i]? := rfl
  rw [e2] at this
  rw [this]; simp
theorem getItem_tuple_upto {t sl : Addr} {items : Array Value} {b : Nat} {u : Tok} {Q : Value → Shared → Prop} (ht : IsTup s.heap t items) (hs : s.heap.IsSliceOf sl .none (.int b u) .none)
    (h0 : items.size ≤ b → Q (.ref t) s) (h : b < items.size → Q (.ref s.heap.objs.size) { s with heap := s.heap.push { cls := .type "tuple", data := .seq (items.toList.take b).toArray } })
    (hsz : items.size ≤ sizeLine) : wpAny (model prog w) A (getItem (.ref t) (.ref sl)) Q E s := by
  have hdrop : sizeOk (.seq (items.toList.take b).toArray) := by
    show (items.toList.take b).toArray.size ≤ sizeLine
    rw [List.size_toArray, List.length_take, Array.length_toList]
    omega
  obtain ⟨os, hos, hcs, hds⟩ := id hs
  have hTs : s.TypeIs (.ref sl) "slice" := ⟨os, hos, hcs⟩
  unfold getItem
  refine wpAny_holding ?_
  refine wpAny_bind (wpAny_sequenceKey ht.typeIs (by decide) ?_)
  refine wpAny_bind (wpAny_callSpecial?_slot (name := Str.ofString "__getitem__") ht.typeIs slot_tuple_getitem
    (wpAny_call_entry slot_tuple_getitem ht.typeIs entry_tuple_getitem ?_ (args_tuple_getitem _ _)))
  show wpAny _ _ (Builtin.Tuple.tupleItemsOf (.ref t) >>= _) _ _ s
  refine wpAny_bind (tupleItemsOf_ ht ?_)
  refine wpAny_bind (wpAny_typeOf hTs ?_)
  rw [if_pos (by decide)]
  refine wpAny_bind (sliceApplied_upto hs ?_)
  show wpAny _ _ (if ((0 : Int) == 0 && (1 : Int) == 1 && (min b items.size) == items.size) = true then _ else _) _ _ s
  by_cases hb : items.size ≤ b
  · rw [if_pos (by rw [Nat.min_eq_right hb]; simp)]
    refine wpAny_bind (m := Tuple.tupleIsExact _) (wpAny_bind (m := typeOf _) (wpAny_typeOf ht.typeIs (wpAny_pure ?_)))
    rw [if_pos (by decide)]
    exact wpAny_bind (m := rule _) (wpAny_rule (wpAny_pure ⟨_, rfl, wpAny_pure (h0 hb)⟩))
  · rw [if_neg (by rw [Nat.min_eq_left (by omega)]; simp; omega), Nat.min_eq_left (by omega), pick_upto items b]
    have h := h (by omega)
    first
      | exact wpAny_bind (m := Builtin.Tuple.tupleExact _) (wpAny_newObj_type (wpAny_pure ⟨_, rfl, wpAny_pure h⟩) hdrop)
      | exact wpAny_bind (m := Builtin.Tuple.tupleExact _) (wpAny_newObj_type (wpAny_bind (wpAny_pure (wpAny_pure ⟨_, rfl, wpAny_pure h⟩))) hdrop)
      | exact wpAny_bind (wpAny_bind (m := Builtin.Tuple.tupleExact _) (wpAny_newObj_type (wpAny_pure (wpAny_pure ⟨_, rfl, wpAny_pure h⟩)) hdrop))
      | exact wpAny_bind (wpAny_bind (m := Builtin.Tuple.tupleExact _) (wpAny_newObj_type (wpAny_pure ⟨_, rfl, wpAny_pure h⟩) hdrop))
end
section
variable {M : Model} {prog : Program} {w : World} {A : Around} {E : Value → Shared → Prop} {s₀ s s' : Shared} {g₀ g g' : Mem} {X : List Addr} {L : Addr} {m : Str → Option Value} {c : List (Addr × Obj)} {env : Env}
theorem sub_tup_ns {value slice : Expr} {l : Addr} {vs : List Value} {b : Nat} {ui : Tok} {Q : Value → Shared → Prop} (S : St w s₀ g₀ X L m c g s) (hl : TupAt g l vs) (hsz : vs.length ≤ 2 ^ 20)
    (h : ∀ r g' s', Le g g' → St w s₀ g₀ X L m c g' s' → TupAt g' r (vs.take b) → Q (.ref r) s')
    (hs : subscripted slice false (.ref l) (.ref s.heap.objs.size) = operate [.ref s.heap.objs.size, .ref l] (getItem (.ref l) (.ref s.heap.objs.size)) := by with_unfolding_all rfl) :
    wpAny (model prog w) A (subscriptTail value slice (.ref l) (.ref s.heap.objs.size)) Q E { s with heap := s.heap.push { cls := .type "slice", data := .fields #[.none, .int b ui, .none] } } := by
  have S' := S.push { cls := .type "slice", data := .fields #[.none, .int b ui, .none] } s.toks
  have hL : IsTup (s.heap.push { cls := .type "slice", data := .fields #[.none, .int b ui, .none] }) l vs.toArray := (hl.mono S'.gg).isTup
  refine tail_any (T := "tuple") hL.typeIs F.slot_tuple_getitem.lookup (getItem_tuple_upto hL (Heap.IsSliceOf.new ..) (fun hb => ?_) (fun hb => ?_) (by rw [List.size_toArray, sizeLine_eq]; omega)) hs
  · refine h _ _ _ (Le.refl _) S' ?_
    rw [List.take_of_length_le (by rw [List.size_toArray] at hb; exact hb)]; exact hl
  · have S2 := S'.pushF { cls := .type "tuple", data := .seq (vs.toArray.toList.take b).toArray } s.toks
    refine h _ _ _ (Mem.le_put ?_) S2 ⟨_, Mem.put_self .., rfl, 0, by simp⟩
    exact S'.none_at (get_size _)
theorem in_own {x C dx f : Addr} {od : Obj} {v : Value} {Q : Value → Shared → Prop} (S : St w s₀ g₀ X L m c g s) (I : InstG s.heap.get? x C dx od) (hs : findIn (KK w) (.ref C) "__contains__" = some (some (.ref f))) (hf : isFn (KK w) (.ref f) = true)
    (h : wpAny (model prog w) A (call (.ref f) [.ref x, v]) (fun r s' => wpAny (model prog w) A (truthy r) (fun b => Q (.bool b)) E s') E s) : wpAny (model prog w) A (compareOp .In v (.ref x)) Q E s := by
  refine wpAny_bind ?_
  unfold contains
  refine wpAny_holding (wpAny_bind (wpAny_bind (I.at.type.here ((looks_findIn S.kin hs).here ?_))))
  rw [if_neg (by simp)]
  exact wpAny_bind (unlessNone_K S.kin I.at hs hf (wpAny_mono h (fun _ _ z => wpAny_mono z (fun _ _ z => wpAny_pure z) fun _ _ z => z) fun _ _ z => z))
theorem repr_own {x C dx f : Addr} {od : Obj} {Q : Value → Shared → Prop} (S : St w s₀ g₀ X L m c g s) (I : InstG s.heap.get? x C dx od) (hu : A.in1.units < cLine) (hs : findIn (KK w) (.ref C) "__repr__" = some (some (.ref f))) (hf : isFn (KK w) (.ref f) = true)
    (h : wpAny (model prog w) A.in1 (call (.ref f) [.ref x]) (StrBack Q) E s) : wpAny (model prog w) A (call (.builtin "repr") [.ref x]) Q E s := by
  refine Calls.call_function_entry PySem.F.kind_repr PySem.F.plain_repr PySem.F.entry_repr (PySem.F.args_repr1 _) ?_
  unfold Builtin.«repr»
  refine wpAny_bind (m := oneArg "repr" _) (wpAny_pure ?_)
  refine wpAny_bind (wpAny_cRoomFor hu ?_)
  refine wpAny_bind (wpAny_bind (I.at.type.here ((looks_findIn S.kin hs).here ?_)))
  show wpAny _ _ (if (some (Value.ref f)).isNone = true then _ else _) _ _ _
  rw [if_neg (by simp)]
  refine wpAny_bind (m := callSpecialIfBound? (.ref x) (Str.ofString "__repr__") _) (ifBound_K S.kin I.at hs hf (wpAny_mono h (fun r s' hr => ?_) fun _ _ y => y))
  cases r <;> first | exact hr.elim | skip
  refine wpAny_bind (wpAny_isInstance (typeIs_str _ _ _) isSubtype_str_str ?_)
  rw [if_pos rfl]; exact wpAny_pure ⟨_, rfl, hr⟩
theorem truthy_own {x C dx : Addr} {od : Obj} {Q : Bool → Shared → Prop} (S : St w s₀ g₀ X L m c g s) (I : InstG s.heap.get? x C dx od) (hs : findIn (KK w) (.ref C) "__bool__" = some none) (hl : findIn (KK w) (.ref C) "__len__" = some none)
    (h : Q true s) : wpAny M A (truthy (.ref x)) Q E s := by
  unfold truthy
  refine wpAny_bind (m := callSpecial? (.ref x) (Str.ofString "__bool__")) (wpAny_bind (wpAny_bind (I.at.type.here ((looks_findIn S.kin hs).here (wpAny_pure ?_)))))
  refine wpAny_bind (wpAny_bind (I.at.type.here ((looks_findIn S.kin hl).here ?_)))
  exact wpAny_pure h
theorem get_class {x C dx : Addr} {od : Obj} {expr : Bool} {Q : Value → Shared → Prop} (S : St w s₀ g₀ X L m c g s) (I : InstG s.heap.get? x C dx od) (hg : plainGet (KK w) C "__class__" = true) (hdct : hasDictIn (KK w) C = true) (ha : findIn (KK w) (.ref C) "__class__" = some (some (.builtin "object.__class__")))
    (hn : specialIn (KK w) (.builtin "object.__class__") "__get__" = some (some (.builtin "getset_descriptor.__get__"))) (htk : takesIn (KK w) (.builtin "object.__class__") = some true) (hm : mroIn (KK w) C (.type "object") = some true)
    (h : ∀ s', St w s₀ g₀ X L m c g s' → Q (.ref C) s') : wpAny (model prog w) A (getAttr (.ref x) "__class__" expr) Q E s := by
  have hf : findObj (KK w) C (some od) "__class__" = some (.bind (.builtin "getset_descriptor.__get__") (.builtin "object.__class__")) := findObj_data (by obtain ⟨cd, hc, _⟩ := any_some hdct; rw [hc]; rfl) ha hn htk
  exact get_bind S.kin I.at (plainGet_of hg).1 hf (plainGet_of hg).2 (wpAny_call (class_get (s := { s with toks := s.toks + 1 }) (ox := instObj C dx) (od := some od) (S.toks (s.toks + 1)).kin I.at hm (handed_on rfl (h _ (S.toks _)))))
theorem type_own {x C dx : Addr} {od : Obj} {Q : Value → Shared → Prop} (I : InstG s.heap.get? x C dx od) (h : Q (.ref C) s) : wpAny (model prog w) A (call (.type "type") [.ref x]) Q E s := kto_own I.at h
end
theorem range_all_eq {α : Type} [DecidableEq α] {xs ys : List α} (h : xs.length = ys.length) : ((List.range xs.length).all fun j => decide (xs[j]? = ys[j]?)) = decide (xs = ys) := by
  apply Bool.eq_iff_iff.mpr
  rw [List.all_eq_true, decide_eq_true_eq]
  constructor
  · intro hj
    apply List.ext_getElem? ; intro j
    by_cases q : j < xs.length
    · exact of_decide_eq_true (hj j (List.mem_range.mpr q))
    · rw [List.getElem?_eq_none (by omega), List.getElem?_eq_none (by omega)]
  · rintro rfl j _; simp
theorem range_all_min {α : Type} [DecidableEq α] (xs ys : List α) : (((List.range (min xs.length ys.length)).all fun j => decide (xs[j]? = ys[j]?)) && xs.length == ys.length) = decide (xs = ys) := by
  by_cases h : xs.length = ys.length
  · rw [show min xs.length ys.length = xs.length by omega, range_all_eq h]
    have : (xs.length == ys.length) = true := by simp [h]
    rw [this, Bool.and_true]
  · have : (xs.length == ys.length) = false := by simp [h]
    rw [this, Bool.and_false]
    symm; rw [decide_eq_false_iff_not]; intro q; exact h (by rw [q])
theorem all2_item {P : Value → T → Prop} {vs : List Value} {xs : List T} (h : All2 P vs xs) {j : Nat} (hj : j < vs.toArray.size) : ∃ x, xs[j]? = some x ∧ P vs.toArray[j] x := by
  obtain ⟨x, h1, h2⟩ := All2.get h (i := j) (a := vs.toArray[j]) (by simp at hj; simp [hj])
  exact ⟨x, h1, h2⟩
theorem eqAt_T {A : Around} {s : Shared} {a b : T} {t u : Tok} : EqAt A s (.str (S a) t) (.str (S b) u) (decide (a = b)) := by
  have : (S a == S b) = decide (a = b) := by
    by_cases q : a = b
    · subst q; simp
    · rw [decide_eq_false q]; exact beq_eq_false_iff_ne.mpr fun e => q (S_inj.mp e)
  rw [← this]; exact EqAt.str_str _ _ _ _
theorem rcAt_ts {A : Around} {s : Shared} {a b : Addr} {vs us : List Value} {xs ys : List T} (h1 : TupAt s.heap.get? a vs) (h2 : TupAt s.heap.get? b us) (v1 : All2 IsT vs xs) (v2 : All2 IsT us ys) (hu : A.units < cLine) : RcAt A s (.ref a) (.ref b) (decide (xs = ys)) := by
  have l1 := v1.length; have l2 := v2.length
  have := RcAt.tuples (A := A) (e := fun j => decide (xs[j]? = ys[j]?)) h1.isTup h2.isTup hu (fun j hj hj' => by
    obtain ⟨x, e1, t, q1⟩ := all2_item v1 hj
    obtain ⟨y, e2, u, q2⟩ := all2_item v2 hj'
    rw [q1, q2, e1, e2]
    have : decide (some x = some y) = decide (x = y) := by simp
    rw [this]; exact eqAt_T)
  rw [List.size_toArray, List.size_toArray, l1, l2, range_all_min] at this
  exact this
theorem eq_ts {prog : Program} {w : World} {A : Around} {E : Value → Shared → Prop} {s : Shared} {a b : Addr} {vs us : List Value} {xs ys : List T} {Q : Value → Shared → Prop} (h1 : TupAt s.heap.get? a vs) (h2 : TupAt s.heap.get? b us) (v1 : All2 IsT vs xs) (v2 : All2 IsT us ys) (hu : A.units < cLine)
    (h : Q (.bool (decide (xs = ys))) s) : wpAny (model prog w) A (compareOp .Eq (.ref a) (.ref b)) Q E s := rcAt_ts h1 h2 v1 v2 hu prog w E Q h
end

section
local macro_rules | `(tactic| walk_at "lk") => `(tactic| first | with_reducible assumption | with_reducible exact up_self _ _ _ | with_reducible exact up_get (by with_unfolding_all decide) (by walk_at "lk") | with_unfolding_all rfl)
local macro_rules | `(tactic| walk_at "g") => `(tactic| with_reducible first
  | refine s_assign ?_
  | refine s_setattr ?_
  | refine s_setitem ?_
  | refine s_assign2 ?_
  | refine s_ret ?_
  | refine s_if1 ?_
  | refine s_if ?_
  | refine s_for ?_
  | refine s_aug ?_
  | refine s_expr ?_
  | refine s_nil ?_
  | refine s_continue ?_
  | refine s_break ?_
  | refine t_cmp ?_
  | refine t_not ?_
  | refine t_or ?_
  | refine t_or1 ?_
  | refine t_and ?_
  | refine t_and1 ?_
  | refine e_or ?_
  | refine e_and ?_
  | refine e_bool1 ?_
  | refine e_attr ?_
  | refine GM.isupper ?_
  | refine GM.split ?_
  | refine GM.join ?_
  | refine GM.endswith ?_
  | refine endswith1 ?_
  | refine e_mcall ?_
  | refine e_call ?_
  | refine e_sub ?_
  | refine e_bin ?_
  | refine e_ite ?_
  | refine s_assert ?_
  | refine e_neg ?_
  | (refine neg_i (by assumption) ?_; intro _ _ _)
  | refine e_cmp ?_
  | refine e_slice_sn ?_
  | refine e_slice_ns ?_
  | refine e_slice_ss ?_
  | refine a_nil ?_
  | refine a_cons ?_
  | refine c_type ?_
  | refine c_builtin ?_
  | refine c_meth ?_
  | refine c_builtin0 ?_
  | (refine cint (by assumption) ?_; intro _ _ _)
  | (refine cstr (by assumption) ?_; intro _ _ _)
  | refine wpAny_Constant_none ?_
  | refine wpAny_Constant_bool ?_
  | refine ldl (by assumption) (by walk_at "lk") ?_
  | refine ldlN (by assumption) (by walk_at "lk") ?_
  | refine ldn (by assumption) (by with_unfolding_all rfl) ?_
  | (refine stl (by assumption) ?_; intro _ _)
  | (refine max2 (by assumption) (by with_unfolding_all assumption) ?_; intro _ _ _)
  | (refine min2 (by assumption) (by with_unfolding_all assumption) ?_; intro _ _ _)
  | (refine Mine.sub_int (by assumption) ?_; intro _ _ _)
  | (refine Mine.add_int (by assumption) ?_; intro _ _ _)
  | (refine Mine.mod_pos (by assumption) (by omega) ?_; intro _ _ _)
  | (refine Mine.div_pos (by assumption) (by omega) (by omega) ?_; intro _ _ _)
  | (refine Mine.len_str (by assumption) (by omega) ?_; intro _ _ _)
  | refine gm_append (by assumption) (by with_unfolding_all k_mem) ?_
  | (refine append0 (by assumption) (by omega) ?_; intro _ _ _)
  | (refine append1 (by assumption) (by omega) ?_; intro _ _ _)
  | (refine append2 (by assumption) (by omega) ?_; intro _ _ _)
  | refine e_tup ?_
  | refine e_listF ?_
  | refine eqI ?_
  | refine geI ?_
  | refine leI ?_
  | refine gtI ?_
  | refine eqS ?_
  | refine isNone ?_
  | refine isntNone ?_
  | refine And.intro rfl ?_
  | refine wpAny_truthy_bool ?_
  | refine t_val ?_)
local macro_rules | `(tactic| walk_at "gg") => `(tactic| repeat' (first | walk_at "g" | dsimp only))
local macro_rules | `(tactic| walk_at "h") => `(tactic| with_reducible first
  | refine s_assign ?_
  | refine s_setattr ?_
  | refine s_setitem ?_
  | refine s_assign2 ?_
  | refine s_ret ?_
  | refine s_if1 ?_
  | refine s_if ?_
  | refine s_for ?_
  | refine s_aug ?_
  | refine s_expr ?_
  | refine s_nil ?_
  | refine s_continue ?_
  | refine s_break ?_
  | refine e_or ?_
  | refine e_and ?_
  | refine e_bool1 ?_
  | refine e_attr ?_
  | refine GM.isupper ?_
  | refine GM.split ?_
  | refine GM.join ?_
  | refine GM.endswith ?_
  | refine endswith1 ?_
  | refine e_mcall ?_
  | refine e_call ?_
  | refine e_sub ?_
  | refine e_bin ?_
  | refine e_ite ?_
  | refine s_assert ?_
  | refine e_neg ?_
  | (refine neg_i (by assumption) ?_; intro _ _ _)
  | refine e_cmp ?_
  | refine e_slice_sn ?_
  | refine e_slice_ns ?_
  | refine e_slice_ss ?_
  | refine a_nil ?_
  | refine a_cons ?_
  | refine c_type ?_
  | refine c_builtin ?_
  | refine c_meth ?_
  | refine c_builtin0 ?_
  | (refine cint (by assumption) ?_; intro _ _ _)
  | (refine cstr (by assumption) ?_; intro _ _ _)
  | refine wpAny_Constant_none ?_
  | refine wpAny_Constant_bool ?_
  | refine ldl (by assumption) (by walk_at "lk") ?_
  | refine ldlN (by assumption) (by walk_at "lk") ?_
  | refine ldn (by assumption) (by with_unfolding_all rfl) ?_
  | (refine stl (by assumption) ?_; intro _ _)
  | (refine max2 (by assumption) (by with_unfolding_all assumption) ?_; intro _ _ _)
  | (refine min2 (by assumption) (by with_unfolding_all assumption) ?_; intro _ _ _)
  | (refine Mine.sub_int (by assumption) ?_; intro _ _ _)
  | (refine Mine.add_int (by assumption) ?_; intro _ _ _)
  | (refine Mine.mod_pos (by assumption) (by omega) ?_; intro _ _ _)
  | (refine Mine.div_pos (by assumption) (by omega) (by omega) ?_; intro _ _ _)
  | (refine Mine.len_str (by assumption) (by omega) ?_; intro _ _ _)
  | refine gm_append (by assumption) (by with_unfolding_all k_mem) ?_
  | (refine append0 (by assumption) (by omega) ?_; intro _ _ _)
  | (refine append1 (by assumption) (by omega) ?_; intro _ _ _)
  | (refine append2 (by assumption) (by omega) ?_; intro _ _ _)
  | refine e_tup ?_
  | refine e_listF ?_
  | refine eqI ?_
  | refine geI ?_
  | refine leI ?_
  | refine gtI ?_
  | refine eqS ?_
  | refine isNone ?_
  | refine isntNone ?_
  | refine And.intro rfl ?_
  | refine wpAny_truthy_bool ?_)
local macro_rules | `(tactic| walk_at "hh") => `(tactic| repeat' (first | walk_at "h" | dsimp only))

-- PART F7 --
section
open PySem PySem.W PySem.Calls PyProof.Rows
def tToken : T := [84, 111, 107, 101, 110]
theorem str_token : Str.ofString "Token" = S tToken := by decide +kernel
theorem str_dot : Str.ofString "." = S [46] := by decide +kernel
theorem Room.in1 {A : Around} {k : Nat} (r : Room A (k + 1)) : Room A.in1 k := ⟨r.hd, by have := r.dp; show A.depth + k < _; omega, by have := r.un; show A.units + 1 + 4 * k + 4 < _; omega⟩
theorem dots_len : ∀ xs : List T, (dots xs).length ≤ (xs.map List.length).sum + xs.length
  | [] => Nat.zero_le _
  | [a] => by simp [dots]
  | a :: b :: r => by have := dots_len (b :: r); simp only [dots, List.length_append, List.length_cons, List.map_cons, List.sum_cons] at *; omega
def Part (x : T) : Prop := ∃ ch rest, x = ch :: rest ∧ Txt.isupper (S [ch]) = true ∧ rest.length ≤ 100 ∧ 46 ∉ x ∧ hasK aliasKvs x = false
theorem dots_ne {xs : List T} (hne : xs ≠ []) (hx : ∀ x ∈ xs, Part x) : dots xs ≠ [] := by
  match xs, hne with
  | [a], _ => obtain ⟨ch, rest, e, _⟩ := hx a (by simp); simp [dots, e]
  | a :: b :: r, _ => simp [dots]
section
variable {prog : Program} {w : World} {A : Around} {s : Shared} {g : Mem}
theorem repr_spec (hr : Room A 1) (B : Base w g) (hg : Le g s.heap.get?) {tv : Value} {names : List T} (K : IsTok g tv names) (hne : names ≠ []) (hn : names.length ≤ 6) (hl : (names.map List.length).sum ≤ 1000)
    {R : Result → Shared → Prop} (h : ∀ t s', Post [] s g s' g → R (.ok (.ret (.str (S (tToken ++ 46 :: dots names)) t))) s') :
    codeAny (model prog w) A (.call (.ref 80) ⟨[tv], []⟩) R s := by
  refine callF (g := g) [("self", tv)] B hg (f := 80) rfl (by kernel_rfl) hr.lt (BindsTo.of_eq rfl) rfl (by decide) fun L s₁ S₁ => ?_
  have hh := hr.hd
  walk_at "gg"
  refine tok_names (by assumption) K ?_; intro na vs s₂ S₂ hna hvs
  have hvl := hvs.length
  have hpos : 0 < names.length := List.length_pos_iff.mpr hne
  walk_at "gg"
  refine truthy_tup (by assumption) (hna.mono (St.gg (by assumption))) (by omega) ?_; intro s₃ S₃
  rw [if_pos (by cases vs with | nil => simp at hvl; omega | cons => rfl)]
  walk_at "gg"
  rw [str_dot]
  refine truthyS (by assumption) (by simp) ?_; intro _ _
  rw [if_pos (show (!([46] : T).isEmpty) = true from rfl), str_token]
  refine add_str (by assumption) (by decide) ?_; intro _ _ _
  walk_at "gg"
  refine tok_names (by assumption) K ?_; intro na' vs' s₄ S₄ hna' hvs'
  walk_at "gg"
  refine join_tup (by assumption) (hna'.mono (St.gg (by assumption))) hvs' (by omega) ?_; intro _ _ _
  have hdl := dots_len names
  refine add_str (by assumption) (by simp [tToken]; omega) ?_; intro _ _ S₅
  have e : tToken ++ [46] ++ dots names = tToken ++ 46 :: dots names := by simp
  rw [e]
  exact h _ _ (S₅.post.of_same hg)
theorem totype_spec (hr : Room A 4) (B : Base w g) (hg : Le g s.heap.get?) {xs : List T} {t : Tok} (hne : xs ≠ []) (hn : xs.length ≤ 6) (hx : ∀ x ∈ xs, Part x) (hl : (dots xs).length ≤ 100)
    {R : Result → Shared → Prop} (h : ∀ v s' g', Post [] s g s' g' → IsTok g' v xs → R (.ok (.ret v)) s') :
    codeAny (model prog w) A (.call (.ref 130) ⟨[.str (S (dots xs)) t], []⟩) R s := by
  refine callF (g := g) [("s", .str (S (dots xs)) t)] B hg (f := 130) rfl (by kernel_rfl) hr.lt (BindsTo.of_eq rfl) rfl (by decide) fun L s₁ S₁ => ?_
  have hh := hr.hd
  walk_at "gg"
  refine isinst_str (by assumption) (b := false) (by kernel_rfl) ?_; intro _ _
  walk_at "gg"
  rw [if_neg (by simp)]
  walk_at "gg"
  refine truthyS (by assumption) (by omega) ?_; intro _ _
  walk_at "gg"
  rw [if_neg (by simpa using dots_ne hne hx)]
  walk_at "gg"
  rw [str_dot]
  refine split_dot (by assumption) hne (fun p hp => (hx p hp).choose_spec.choose_spec.2.2.2.1) hl ?_; intro D vs g₂ s₂ hle₂ S₂ hD hvs
  walk_at "gg"
  have hvl := hvs.length
  obtain ⟨ol, hol, hc, k, hd⟩ := hD
  refine list_loop S₂ hol hc hd hh (fun i g' m' c' => c' = [] ∧ ∃ v, m' "node" = some v ∧ IsTok g' v (xs.take i)) ⟨rfl, _, by walk_at "lk", (kTok0 w).mono (B.kg.trans hle₂)⟩ ?_ ?_
  · rintro it o i g' m' c' s₄ v E' hi hle ⟨rfl, tv, hm, K⟩ S₄
    have hi' : vs[i]? = some v := by simpa using hi
    obtain ⟨x, hxi, tk, rfl⟩ := All2.get hvs hi'
    obtain ⟨ch, rest, rfl, hu, hl', _, hal⟩ := hx x (List.mem_of_getElem? hxi)
    have hil : i < xs.length := by
      rcases Nat.lt_or_ge i xs.length with q | q
      · exact q
      · rw [List.getElem?_eq_none q] at hxi; cases hxi
    walk_at "gg"
    refine tok_child (by assumption) K ?_
    walk_at "gg"
    refine c_fm (by assumption) (by kernel_rfl) ?_
    walk_at "gg"
    refine St.kinH (by assumption) ?_
    refine wpAny_call (child_spec (hr.deeper _) (St.baseG (by assumption)) (St.gg (by assumption)) K (by rw [List.length_take]; omega) hu (.inr hal) hl' ?_)
    intro v' s₅ g₅ P₅ K₅
    have S₅ := St.after (by assumption) P₅
    walk_at "gg"
    refine ⟨g₅, _, _, hle.trans P₅.grow, by assumption, rfl, v', by walk_at "lk", ?_⟩
    rw [List.take_add_one, hxi]; exact K₅
  · rintro g' m' c' s₄ E' hle ⟨rfl, tv, hm, K⟩ S₄
    walk_at "gg"
    refine h _ _ _ S₄.post ?_
    rw [List.take_of_length_le (by rw [List.size_toArray]; omega)] at K; exact K
theorem IsT.inj {v : Value} {a b : T} (h1 : IsT v a) (h2 : IsT v b) : a = b := by
  obtain ⟨t, rfl⟩ := h1; obtain ⟨u, e⟩ := h2
  injection e with e1 _
  exact S_inj.mp e1
theorem all2_inj : ∀ {vs : List Value} {xs ys : List T}, All2 IsT vs xs → All2 IsT vs ys → xs = ys
  | [], [], [], _, _ => rfl
  | _ :: _, _ :: _, _ :: _, h1, h2 => by rw [h1.1.inj h2.1, all2_inj h1.2 h2.2]
theorem all2_inj' : ∀ {vs us : List Value} {xs ys : List T}, vs = us → All2 IsT vs xs → All2 IsT us ys → xs = ys := fun e h1 h2 => by subst e; exact all2_inj h1 h2
theorem TupAt.inj {g : Mem} {a : Addr} {vs us : List Value} (h1 : TupAt g a vs) (h2 : TupAt g a us) : vs = us := by
  obtain ⟨o, e1, _, n, d1⟩ := h1; obtain ⟨o', e2, _, n', d2⟩ := h2
  rw [e1] at e2; cases e2
  rw [d1] at d2; cases d2; rfl
theorem IsTok.inj {g : Mem} {v : Value} {xs ys : List T} (h1 : IsTok g v xs) (h2 : IsTok g v ys) : xs = ys := by
  obtain ⟨a, dx, od, nv, rfl, I, N, b, vs, rfl, ht, hv⟩ := h1
  obtain ⟨a', dx', od', nv', e, I', N', b', us, rfl, ht', hv'⟩ := h2
  cases e
  have e1 := I.1.symm.trans I'.1
  cases e1
  have e2 := I.2.symm.trans I'.2
  cases e2
  have e3 := (N.look "names").symm.trans (N'.look "names")
  rw [up_self, up_self] at e3
  cases e3
  exact all2_inj' (ht.inj ht') hv hv'
theorem contains_spec (hr : Room A 1) (B : Base w g) (hg : Le g s.heap.get?) {tv ov : Value} {ns os : List T} (K : IsTok g tv ns) (K' : IsTok g ov os) (hn : ns.length ≤ 6) (hn' : os.length ≤ 6)
    {R : Result → Shared → Prop} (h : ∀ s', Post [] s g s' g → R (.ok (.ret (.bool (decide (ns.take os.length = os))))) s') :
    codeAny (model prog w) A (.call (.ref 66) ⟨[ov, tv], []⟩) R s := by
  refine callF (g := g) [("self", ov), ("val", tv)] B hg (f := 66) rfl (by kernel_rfl) hr.lt (BindsTo.of_eq rfl) rfl (by decide) fun L s₁ S₁ => ?_
  have hh := hr.hd
  have hu : (A.deeper (envOf "" { kind := .function, names := [], isGenerator := false, isCoroutine := false } 0 0 .none)).units < cLine := by
    have := (hr.deeper (k := 0) (envOf "" { kind := .function, names := [], isGenerator := false, isCoroutine := false } 0 0 .none)).un
    omega
  obtain ⟨b, dxb, odb, nvb, rfl, Ib, Nb, Tb⟩ := id K
  obtain ⟨a, dx, od, nv, rfl, I, N, Ta⟩ := id K'
  walk_at "gg"
  by_cases hab : a = b
  · subst hab
    refine wpAny_is_ref_self ?_
    walk_at "gg"
    rw [if_pos rfl]
    have e := K.inj K'
    subst e
    have h' := h _ S₁.post
    rw [List.take_length, decide_eq_true rfl] at h'
    exact h'
  · refine kto_is (I.mono S₁.gg).1 (Ib.mono S₁.gg).1 hab (by intro q; cases q) ?_
    walk_at "gg"
    rw [if_neg (by simp)]
    walk_at "gg"
    refine type_own (Ib.mono S₁.gg) ?_
    walk_at "gg"
    refine get_class (by assumption) (I.mono (St.gg (by assumption))) (by kernel_rfl) (by kernel_rfl) (by kernel_rfl) (by kernel_rfl) (by kernel_rfl) (by kernel_rfl) ?_; intro _ _
    refine wpAny_is_ref_self ?_
    walk_at "gg"
    rw [if_pos rfl]
    walk_at "gg"
    refine tok_names (by assumption) K ?_; intro na vs s₂ S₂ hna hvs
    walk_at "gg"
    refine tok_names (by assumption) K' ?_; intro na' vs' s₃ S₃ hna' hvs'
    walk_at "gg"
    have hvl := hvs.length; have hvl' := hvs'.length
    refine len_tup (by assumption) (hna'.mono (St.gg (by assumption))) (by omega) ?_; intro _ s₄ S₄
    refine sub_tup_ns (by assumption) hna (by omega) ?_; intro r g₅ s₅ hle₅ S₅ hr₅
    walk_at "gg"
    refine tok_names (by assumption) (K'.mono hle₅) ?_; intro na₆ vs₆ s₆ S₆ hna₆ hvs₆
    refine eq_ts (hr₅.mono S₆.gg) (hna₆.mono S₆.gg) (xs := ns.take os.length) (ys := os) ?_ hvs₆ hu ?_
    · rw [hvl']; exact hvs.take _
    · exact h _ (S₆.post.of_same hg)
theorem subtype_spec (hr : Room A 2) (B : Base w g) (hg : Le g s.heap.get?) {tv ov : Value} {ns os : List T} (K : IsTok g tv ns) (K' : IsTok g ov os) (hn : ns.length ≤ 6) (hn' : os.length ≤ 6)
    {R : Result → Shared → Prop} (h : ∀ s', Post [] s g s' g → R (.ok (.ret (.bool (decide (ns.take os.length = os))))) s') :
    codeAny (model prog w) A (.call (.ref 123) ⟨[tv, ov], []⟩) R s := by
  refine callF (g := g) [("ttype", tv), ("other", ov)] B hg (f := 123) rfl (by kernel_rfl) hr.lt (BindsTo.of_eq rfl) rfl (by decide) fun L s₁ S₁ => ?_
  have hh := hr.hd
  walk_at "gg"
  obtain ⟨a, dx, od, nv, rfl, I, N, _⟩ := id K'
  refine in_own (f := 66) (by assumption) (I.mono (St.gg (by assumption))) (by kernel_rfl) (by kernel_rfl) ?_
  refine wpAny_call (contains_spec (hr.deeper _) B (St.gg (by assumption)) K K' hn hn' ?_)
  intro s₂ P₂
  have S₂ := St.after (by assumption) P₂
  walk_at "gg"
  exact h _ (S₂.post.of_same hg)
end
end

end

-- PART B15 --
section
open PySem PySem.W PySem.Calls PyProof.Rows
def Fine (A : Around) (c : Code) (fs : List Frame) (k : Nat) : Prop := splitAtGen fs = none ∧ fs.any Frame.guarded = false ∧ Room (A.over c fs) k
def SS (M : Model) (A : Around) (R : GenEnd) (Y : Protocol) (c : Code) (fs : List Frame) (env : Env) (ss : List Stmt) (QF : Flow → Nat → Shared → Shared → Prop) (n : Nat) (s₀ s : Shared) : Prop :=
  ∀ (K : Flow → Sem Fin) (H : Value → Sem Fin) (gd : Bool → Bool) (lv : List Value → List Value), gd false = false → (∀ f n' s₀' s', QF f n' s₀' s' → Seg M A R Y n' s₀' c (K f) fs s') → Seg M A R Y n s₀ c ((execs ss env).wrap K H gd lv) fs s
def LP (M : Model) (A : Around) (R : GenEnd) (Y : Protocol) (c : Code) (fs : List Frame) (QF : Flow → Nat → Shared → Shared → Prop) (n : Nat) (s₀ s : Shared) : Prop :=
  (∀ c'' f n' s₀' s', QF f n' s₀' s' → Seg M A R Y n' s₀' c'' (leafOf (.ok f)) fs s') → Seg M A R Y n s₀ c (M.den c) fs s
section
variable {M : Model} {A : Around} {R : GenEnd} {Y : Protocol} {n : Nat} {s₀ : Shared} {c : Code} {fs : List Frame} {s : Shared} {env : Env} {QF : Flow → Nat → Shared → Shared → Prop} {k : Nat}
theorem seg_bw {α β : Type} {m : Sem α} {f : α → Sem β} {K : β → Sem Fin} {H : Value → Sem Fin} {gd lv} (h : wpAny M (A.over c fs) m (fun a s' => Seg M A R Y n s₀ c ((f a).wrap K H gd lv) fs s') (fun _ _ => False) s) :
    Seg M A R Y n s₀ c ((m >>= f).wrap K H gd lv) fs s := by
  rw [Sem.bind_eq_wrap', Sem.wrap_wrap]
  exact seg_wrap (wpAny_mono h (fun _ _ x => x) fun _ _ x => x.elim)
theorem ss_nil (h : QF .next n s₀ s) : SS M A R Y c fs env [] QF n s₀ s := fun K H gd lv _ hK => seg_execs_nil (hK _ _ _ _ h)
theorem wp_one {st : Stmt} {Q : Flow → Shared → Prop} {E : Value → Shared → Prop} {B : Around} (h : wpAny M B (execs [st] env) Q E s) : wpAny M B (exec st env) Q E s := by
  rw [execs_cons] at h
  intro Γ p hΓ
  have := h Γ p hΓ
  rw [Sem.wp_bind'] at this
  refine Sem.wp_mono M Γ _ (fun f p' s' x => ?_) (fun _ _ _ x => x) _ _ this
  cases f <;> exact x
theorem ss_plain {st : Stmt} {rest : List Stmt} (h : wpAny M (A.over c fs) (execs [st] env) (fun f s' => match f with | .next => SS M A R Y c fs env rest QF n s₀ s' | f => QF f n s₀ s') (fun _ _ => False) s) :
    SS M A R Y c fs env (st :: rest) QF n s₀ s := fun K H gd lv hg hK => by
  refine seg_execs_cons (seg_wrap (wpAny_mono (wp_one h) (fun f s' x => ?_) fun _ _ x => x.elim))
  cases f with
  | next => exact x K H gd lv hg hK
  | cont => exact hK _ _ _ _ x
  | brk => exact hK _ _ _ _ x
  | ret v => exact hK _ _ _ _ x
def behind (M : Model) (A : Around) (R : GenEnd) (Y : Protocol) (c : Code) (fs : List Frame) (env : Env) (rest : List Stmt) (QF : Flow → Nat → Shared → Shared → Prop) : Flow → Nat → Shared → Shared → Prop := fun f n' s₀' s' => match f with
  | .next => SS M A R Y c fs env rest QF n' s₀' s'
  | f => QF f n' s₀' s'
theorem ss_behind {rest : List Stmt} {K : Flow → Sem Fin} {H : Value → Sem Fin} {gd lv} (hg : gd false = false) (hK : ∀ f n' s₀' s', QF f n' s₀' s' → Seg M A R Y n' s₀' c (K f) fs s') :
    ∀ f n' s₀' s', behind M A R Y c fs env rest QF f n' s₀' s' → Seg M A R Y n' s₀' c (match f with | .next => (execs rest env).wrap K H gd lv | f => K f) fs s' := fun f n' s₀' s' x => by
  cases f with
  | next => exact x K H gd lv hg hK
  | cont => exact hK _ _ _ _ x
  | brk => exact hK _ _ _ _ x
  | ret v => exact hK _ _ _ _ x
theorem ss_if {test : Expr} {body orelse rest : List Stmt} {pos : Pos} (h : wpAny M (A.over c fs) (isTrue test env (eval test env)) (fun b s' => if b = true then SS M A R Y c fs env body (behind M A R Y c fs env rest QF) n s₀ s'
      else SS M A R Y c fs env orelse (behind M A R Y c fs env rest QF) n s₀ s') (fun _ _ => False) s) :
    SS M A R Y c fs env (.If test body orelse pos :: rest) QF n s₀ s := fun K H gd lv hg hK => by
  refine seg_execs_cons ?_
  rw [exec_If]
  refine seg_bw (wpAny_standAt (seg_bw (wpAny_mono h (fun b s' x => ?_) fun _ _ x => x)))
  cases b with
  | true => exact x _ H gd lv hg (ss_behind hg hK)
  | false => exact x _ H gd lv hg (ss_behind hg hK)
theorem ss_if1 {test : Expr} {body rest : List Stmt} {pos : Pos} (h : wpAny M (A.over c fs) (isTrue test env (eval test env)) (fun b s' => if b = true then SS M A R Y c fs env body (behind M A R Y c fs env rest QF) n s₀ s'
      else SS M A R Y c fs env rest QF n s₀ s') (fun _ _ => False) s) :
    SS M A R Y c fs env (.If test body [] pos :: rest) QF n s₀ s := ss_if (wpAny_mono h (fun b s' x => by cases b with | true => exact x | false => exact ss_nil x) fun _ _ x => x)
theorem ss_yield {e : Expr} {ypos pos : Pos} {rest : List Stmt} (hF : Fine A c fs k)
    (h : wpAny M (A.over c fs) (eval e env) (fun v s' => ∀ kap : Resume → Shared → Prop, (∀ s'', SS M A R Y c fs env rest QF n s'' s'' → kap (.send .none) s'') → Y n s₀ v s' kap) (fun _ _ => False) s)
    (hco : env.scope.isCoroutine = false := by with_unfolding_all rfl) (hi : interactive env = false := by with_unfolding_all rfl) :
    SS M A R Y c fs env (.Expr (.Yield (some e) ypos) pos :: rest) QF (n + 1) s₀ s := fun K H gd lv hg hK => by
  refine seg_execs_cons (seg_Expr_Yield hF.1 hg hF.2.1 (wpAny_mono h (fun v s' x kap hk => x kap fun s'' z => hk .none s'' ?_) fun _ _ x => x.elim) hco hi)
  exact z K H gd lv hg hK
theorem ss_break {pos : Pos} {rest : List Stmt} (h : QF .brk n s₀ s) : SS M A R Y c fs env (.Break pos :: rest) QF n s₀ s := ss_plain (wpAny_execs_cons (wpAny_Break h))
theorem ss_continue {pos : Pos} {rest : List Stmt} (h : QF .cont n s₀ s) : SS M A R Y c fs env (.Continue pos :: rest) QF n s₀ s := ss_plain (wpAny_execs_cons (wpAny_Continue h))
theorem Fine.down {c' : Code} {kk : Result → Sem Fin} {l : List Value} {p : Pos} (hF : Fine A c fs k) (hw : c'.weight = 0) (hu : c'.cUnits = 0) : Fine A c' (.ret kk none false l c p [] :: fs) k := by
  refine ⟨?_, ?_, ?_⟩
  · have := hF.1
    unfold splitAtGen
    rw [this]; rfl
  · have := hF.2.1
    simp only [List.any_cons, this, Bool.or_false]; rfl
  · have r := hF.2.2
    refine ⟨r.hd, ?_, ?_⟩
    · have := r.dp
      have e1 : (A.over c fs).depth = A.depth + frameCount (fs.map Frame.where_) + c.weight := rfl
      have e2 : (A.over c' (.ret kk none false l c p [] :: fs)).depth = A.depth + frameCount ((c, p) :: fs.map Frame.where_) + c'.weight := rfl
      rw [frameCount_cons] at e2
      have e3 : (c, p).1.weight = c.weight := rfl
      omega
    · have := r.un
      have e1 : (A.over c fs).units = A.units + unitsOf (fs.map Frame.where_) + c.cUnits := rfl
      have e2 : (A.over c' (.ret kk none false l c p [] :: fs)).units = A.units + unitsOf ((c, p) :: fs.map Frame.where_) + c'.cUnits := rfl
      rw [unitsOf_cons] at e2
      omega
end
section
variable {prog : Program} {w : World} {A : Around} {R : GenEnd} {Y : Protocol} {n : Nat} {s₀ : Shared} {c : Code} {fs : List Frame} {s : Shared} {env : Env} {QF : Flow → Nat → Shared → Shared → Prop} {k : Nat}
theorem ss_for {target iter : Expr} {body orelse rest : List Stmt} {pos : Pos} (hF : Fine A c fs k)
    (h : wpAny (model prog w) (A.over c fs) (eval iter env) (fun x s₁ => wpAny (model prog w) (A.over c fs) (pyIter x) (fun it s₂ => ∀ fs', Fine A (.forLoop target it body orelse env) fs' k →
      LP (model prog w) A R Y (.forLoop target it body orelse env) fs' (behind (model prog w) A R Y c fs env rest QF) n s₀ s₂) (fun _ _ => False) s₁) (fun _ _ => False) s)
    (hs : ∀ x, foldedSetIterable iter env x = pure x := by intro _; with_unfolding_all rfl) :
    SS (model prog w) A R Y c fs env (.For target iter body orelse pos :: rest) QF n s₀ s := fun K H gd lv hg hK => by
  refine seg_execs_cons ?_
  rw [exec_For]
  refine seg_bw (wpAny_standAt (seg_bw (wpAny_mono h (fun x s₁ h₁ => seg_bw (wpAny_of_eq (hs x) (seg_bw (wpAny_standAt (seg_bw (wpAny_holding (wpAny_mono h₁ (fun it s₂ h₂ => ?_) fun _ _ x => x))))))) fun _ _ x => x)))
  refine seg_call fun p => ?_
  refine h₂ _ (by rw [hg]; exact hF.down rfl rfl) fun c'' f n' s₀' s' q => ?_
  exact seg_leaf _ (ss_behind hg hK f n' s₀' s' q)
theorem lp_for {target : Expr} {it : Value} {body orelse : List Stmt}
    (h : wpAny (model prog w) (A.over (.forLoop target it body orelse env) fs) (pyNext it) (fun r s₁ => match r with
      | none => SS (model prog w) A R Y (.block orelse env) fs env orelse QF n s₀ s₁
      | some v => wpAny (model prog w) (A.over (.forLoop target it body orelse env) fs) (letOwnedTupleGo target it v) (fun _ s₂ => wpAny (model prog w) (A.over (.forLoop target it body orelse env) fs) (assign target env v)
          (fun _ s₃ => SS (model prog w) A R Y (.forLoop target it body orelse env) fs env body (fun f n' s₀' s' => match f with
            | .next | .cont => LP (model prog w) A R Y (.forLoop target it body orelse env) fs QF n' s₀' s'
            | .brk => QF .next n' s₀' s'
            | .ret v => QF (.ret v) n' s₀' s') n s₀ s₃) (fun _ _ => False) s₂) (fun _ _ => False) s₁) (fun _ _ => False) s) :
    LP (model prog w) A R Y (.forLoop target it body orelse env) fs QF n s₀ s := fun hq => by
  show Seg _ A R Y n s₀ _ ((forTurn target it body orelse env).onRaise (fun x => do noteFrame x env; theTreesLotGoes x)) fs s
  rw [Sem.onRaise_eq_wrap]
  unfold forTurn
  refine seg_bw (wpAny_standAt (seg_bw (wpAny_onRaise (wpAny_mono h (fun r s₁ h₁ => ?_) fun _ _ x => x.elim))))
  cases r with
  | none =>
    refine seg_again rfl ?_
    show Seg _ A R Y n s₀ _ ((execs orelse env).onRaise (fun x => do noteFrame x env; theTreesLotGoes x) >>= fun f => pure (.done f)) fs s₁
    rw [Sem.onRaise_eq_wrap, Sem.bind_eq_wrap', Sem.wrap_wrap]
    exact h₁ _ _ _ _ rfl fun f n' s₀' s' q => hq _ f n' s₀' s' q
  | some v =>
    refine seg_bw (wpAny_mono h₁ (fun _ s₂ h₂ => seg_bw (wpAny_mono h₂ (fun _ s₃ h₃ => ?_) fun _ _ x => x)) fun _ _ x => x)
    rw [Sem.bind_eq_wrap', Sem.wrap_wrap]
    refine h₃ _ _ _ _ rfl fun f n' s₀' s' q => ?_
    cases f with
    | next => exact seg_again rfl (q hq)
    | cont => exact seg_again rfl (q hq)
    | brk => exact hq _ _ _ _ _ q
    | ret v => exact hq _ _ _ _ _ q
theorem ss_while {test : Expr} {body orelse rest : List Stmt} {pos : Pos} (hF : Fine A c fs k)
    (h : ∀ fs', Fine A (.whileLoop test body orelse env) fs' k → LP (model prog w) A R Y (.whileLoop test body orelse env) fs' (behind (model prog w) A R Y c fs env rest QF) n s₀ s) :
    SS (model prog w) A R Y c fs env (.While test body orelse pos :: rest) QF n s₀ s := fun K H gd lv hg hK => by
  refine seg_execs_cons (seg_While fun p => ?_)
  refine h _ (by rw [hg]; exact hF.down rfl rfl) fun c'' f n' s₀' s' q => ?_
  exact seg_leaf _ (ss_behind hg hK f n' s₀' s' q)
theorem lp_while {test : Expr} {body orelse : List Stmt}
    (h : wpAny (model prog w) (A.over (.whileLoop test body orelse env) fs) (isTrue test env (eval test env)) (fun b s' => b = true ∧ SS (model prog w) A R Y (.whileLoop test body orelse env) fs env body (fun f n' s₀' s' => match f with
            | .next | .cont => LP (model prog w) A R Y (.whileLoop test body orelse env) fs QF n' s₀' s'
            | .brk => QF .next n' s₀' s'
            | .ret v => QF (.ret v) n' s₀' s') n s₀ s') (fun _ _ => False) s) :
    LP (model prog w) A R Y (.whileLoop test body orelse env) fs QF n s₀ s := fun hq => by
  refine seg_whileLoop (wpAny_mono h (fun b s' x => ?_) fun _ _ x => x.elim)
  obtain ⟨rfl, x⟩ := x
  rw [if_pos rfl]
  refine x _ _ _ _ rfl fun f n' s₀' s' q => ?_
  cases f with
  | next => exact seg_again rfl (q hq)
  | cont => exact seg_again rfl (q hq)
  | brk => exact hq _ _ _ _ _ q
  | ret v => exact hq _ _ _ _ _ q
theorem ss_func {body : List Stmt} (h : SS (model prog w) A R Y (.func body env) [] env body (fun f n' s₀' s' => R n' s₀' (.ok (.ret (match f with | .ret v => v | _ => .none))) s') n s₀ s) :
    Seg (model prog w) A R Y n s₀ (.func body env) ((model prog w).den (.func body env)) [] s :=
  seg_func (h _ _ _ _ rfl fun f n' s₀' s' q => seg_end _ q)
end
end

-- PART B16 --
section
open PySem PySem.W PySem.Calls PyProof.Rows
section
variable {prog : Program} {w : World} {A : Around} {E : Value → Shared → Prop} {R : Result → Shared → Prop} {s₀ s s' : Shared} {g₀ g g' : Mem} {X : List Addr} {L : Addr} {m : Str → Option Value} {c : List (Addr × Obj)} {env : Env}
theorem St.after1 {a : Addr} {o : Obj} (S : St w s₀ g₀ X L m ((a, o) :: c) g s) (P : Post [a] s g s' g') : St w s₀ g₀ X L m c g' s' := by
  have ha := S.cc (a, o) (List.mem_cons_self ..)
  have hnd := S.nd
  rw [List.map_cons, List.nodup_cons] at hnd
  have k : ∀ b o, b ≠ a → s.heap.get? b = some o → s'.heap.get? b = some o := fun b o hb e => P.keep b o (by simpa using hb) e
  refine ⟨S.base, ?_, fun b o hb e => ?_, S.above, P.gg, fun b o e => P.grow _ _ (S.grow _ _ e), fun b hb => ?_, ?_, fun p hp => ?_, hnd.2, P.gens.trans S.gens, P.os.trans S.os, Nat.le_trans S.size P.size⟩
  · obtain ⟨oL, es, ep, h1, r⟩ := S.ns
    exact ⟨oL, es, ep, k _ _ (Ne.symm ha.2.1) h1, r⟩
  · rcases ha.2.2.2 with h | h
    · exact k _ _ (Nat.ne_of_lt (Nat.lt_of_lt_of_le (Heap.lt_size e) h)) (S.keep b o hb e)
    · exact k _ _ (fun q => hb (q ▸ h)) (S.keep b o hb e)
  · rw [P.low b (Nat.lt_of_lt_of_le hb S.size)]; exact S.low b hb
  · rw [P.low L S.lt]; exact S.gL
  · obtain ⟨h1, h2, h3, h4⟩ := S.cc p (List.mem_cons_of_mem _ hp)
    exact ⟨k _ _ (fun q => hnd.1 (List.mem_map.mpr ⟨p, hp, q⟩)) h1, h2, by rw [P.low _ (Heap.lt_size h1)]; exact h3, h4⟩
theorem St.postL (S : St w s₀ g₀ X L m c g s) (ha : s₀.heap.objs.size ≤ L) {h' : Heap} (hs : Heap.SameBut L s.heap h') : Post X s₀ g₀ { s with heap := h' } g :=
  ⟨fun b o hb e => (hs.2 b (Nat.ne_of_lt (Nat.lt_of_lt_of_le (Heap.lt_size e) ha))).trans (S.keep b o hb e), Nat.le_trans S.size (Nat.le_of_eq hs.1.symm),
   fun b o e => (hs.2 b (fun q => by subst q; rw [S.gL] at e; cases e)).trans (S.gg b o e), S.grow, S.low, S.gens, S.os⟩
abbrev tests (ifs : List Expr) (cenv : Env) : Sem Bool := forIn ifs true fun c r => if r = true then do let ok ← isTrue c cenv (eval c cenv); pure (ForInStep.yield ok) else pure (ForInStep.yield r)
theorem comp_turns {elt target iter : Expr} {ifs : List Expr} {scope : Scope} {pos : Pos} {it acc : Value} {env : Env} (I : Nat → Shared → Prop)
    (turn : ∀ n s E', I n s → wpAny (model prog w) A (pyNext it) (fun r s₁ => match r with
      | none => R (.ok .next) s₁
      | some v => wpAny (model prog w) A (letOwnedTupleGo target it v) (fun _ s₁' => wpAny (model prog w) A (assign target env v) (fun _ s₂ =>
          wpAny (model prog w) A (tests ifs env) (fun ok s₃ =>
            if ok = true then wpAny (model prog w) A (eval elt env) (fun x s₄ =>
              wpAny (model prog w) A (call (.builtin "list.append") [acc, x]) (fun _ s₅ => ∃ m, m < n ∧ I m s₅) E' s₄) E' s₃
            else ∃ m, m < n ∧ I m s₃) E' s₂) E' s₁') E' s₁) E' s)
    (n : Nat) (h : I n s) : codeAny (model prog w) A (.compLoop (.ListComp elt [⟨target, iter, ifs, 0⟩] scope pos) 0 it acc env) R s := by
  refine codeAny_loop rfl I (fun n s hI => ?_) n h
  show wpAny _ A ((compTurn (.ListComp elt [⟨target, iter, ifs, 0⟩] scope pos) 0 it acc env).onRaise (fun x => do noteFrame x env; theTreesLotGoes x)) _ _ s
  refine wpAny_noted ?_
  rw [compTurn_list]
  refine wpAny_bind (wpAny_standAt (wpAny_bind (wpAny_mono (turn n s _ hI) (fun r s₁ h₁ => ?_) fun _ _ h' => h')))
  cases r with
  | none => exact wpAny_pure h₁
  | some v =>
    refine wpAny_bind (wpAny_mono h₁ (fun _ s₁' h₁' => wpAny_bind (wpAny_mono h₁' (fun _ s₂ h₂ => wpAny_bind (wpAny_mono h₂ (fun ok s₃ h₃ => ?_) fun _ _ h' => h')) fun _ _ h' => h')) fun _ _ h' => h')
    cases ok with
    | false => exact wpAny_pure ⟨rfl, h₃⟩
    | true =>
      exact wpAny_bind (wpAny_bind (wpAny_mono h₃ (fun x s₄ h₄ => wpAny_bind (wpAny_mono h₄ (fun _ s₅ h₅ => wpAny_pure (wpAny_pure ⟨rfl, h₅⟩)) fun _ _ h' => h')) fun _ _ h' => h'))
theorem t_nil {cenv : Env} {Q : Bool → Shared → Prop} (h : Q true s) : wpAny (model prog w) A (tests [] cenv) Q E s := wpAny_tests_nil h
theorem t_one {cenv : Env} {e : Expr} {Q : Bool → Shared → Prop} (h : wpAny (model prog w) A (isTrue e cenv (eval e cenv)) Q E s) : wpAny (model prog w) A (tests [e] cenv) Q E s := wpAny_tests_one h
def CompGo (prog : Program) (w : World) (A : Around) (E : Value → Shared → Prop) (env : Env) (elt target iter : Expr) (ifs : List Expr) (scope : Scope) (cl : List (Str × Addr)) (pos : Pos) (Q : Value → Shared → Prop) (it : Value) (s₂ : Shared) : Prop :=
  wpAny (model prog w) A (newList []) (fun acc s₃ => wpAny (model prog w) A (newFunctionEnv scope env.globals cl [] env.qual none .none (some env)) (fun cenv s₄ =>
    codeAny (model prog w) A (.compStart (.ListComp elt [⟨target, iter, ifs, 0⟩] scope pos) 0 it acc { cenv with scope := relabel scope env }) (compPost (model prog w) A E none Q acc cenv.locals) s₄) E s₃) E s₂
theorem e_comp {elt target iter : Expr} {ifs : List Expr} {scope : Scope} {pos : Pos} {Q : Value → Shared → Prop} (cl : List (Str × Addr)) (hclos : closureFor scope env = pure cl)
    (h : wpAny (model prog w) A (eval iter env) (fun x s₁ => wpAny (model prog w) A (pyIter x) (CompGo prog w A E env elt target iter ifs scope cl pos Q) E s₁) E s)
    (hkind : scope.kind = .function := by with_unfolding_all rfl) (hnames : ∀ y ∈ scope.names, y.2 = .local → scope.names.lookup y.1 = some .local := by decide)
    (hs : ∀ x, foldedSetIterable iter env x = pure x := by intro _; with_unfolding_all rfl) :
    wpAny (model prog w) A (eval (.ListComp elt [⟨target, iter, ifs, 0⟩] scope pos) env) Q E s := by
  rw [eval_ListComp]
  exact wpAny_comprehension_free (use := none) rfl hs hclos hkind hnames h
theorem comp_frame {elt target iter : Expr} {ifs : List Expr} {scope : Scope} {cl : List (Str × Addr)} {pos : Pos} {Q : Value → Shared → Prop} {it : Addr} {o : Obj} (S : St w s₀ g₀ X L m ((it, o) :: c) g s)
    (hself : ∀ s' Q' E', s'.heap.get? it = some o → Q' (.ref it) s' → wpAny (model prog w) A (pyIter (.ref it)) Q' E' s')
    (hcell : ∀ y ∈ scope.names, y.2 ≠ .cell) (hkind : scope.kind = .function)
    (h : ∀ C D s₃, s.heap.objs.size ≤ C → s.heap.objs.size ≤ D → St w s g [it] C (fun _ => none) [(D, lst [] 0), (it, o)] g s₃ → codeAny (model prog w) A (.compLoop (.ListComp elt [⟨target, iter, ifs, 0⟩] scope pos) 0 (.ref it) (.ref D) (compEnvC scope cl C env))
      (fun r s' => r = .ok .next ∧ ∃ m' n vs g' s₁, s₁.heap = s.heap ∧ s₁.os = s.os ∧ St w s₁ g [it] C m' [(D, lst vs n)] g' s' ∧ ∀ s'' g'', Le g' g'' → s''.gens = s'.gens → Post [it] s₁ g s'' g'' → LstAt g'' D vs → Q (.ref D) s'') s₃) :
    CompGo prog w A E env elt target iter ifs scope cl pos Q (.ref it) s := by
  unfold CompGo
  refine wpAny_newObj_type (wpAny_newFunctionEnv hcell (by intro y hy; simp at hy) (fun h₁ hns₁ hsb₁ => ?_) hkind)
  have hit := S.cc (it, o) (List.mem_cons_self ..)
  have hitlt := Heap.lt_size hit.1
  have hC : (s.heap.push { cls := .type "list", dict := none, data := .seq ([] : List Value).toArray }).objs.size = s.heap.objs.size + 1 := Heap.size_push ..
  have k : ∀ b o, (s.heap.push { cls := .type "list", dict := none, data := .seq ([] : List Value).toArray }).get? b = some o → h₁.get? b = some o := fun b o e =>
    hsb₁.extBut b o (Nat.ne_of_lt (Heap.lt_size e)) (Heap.get?_push_of_some _ e)
  have k0 : ∀ b o, s.heap.get? b = some o → h₁.get? b = some o := fun b o e => k b o (Heap.get?_push_of_some _ e)
  have SC : St w s g [it] (s.heap.push { cls := .type "list", dict := none, data := .seq ([] : List Value).toArray }).objs.size (fun _ => none) [(s.heap.objs.size, lst [] 0), (it, o)] g { s with heap := h₁, toks := s.toks + ([] : List (Str × Value)).length } := by
    refine ⟨S.baseG, hns₁, fun b o _ e => k0 b o e, .inl (by rw [hC]; exact Nat.le_succ _), fun b o e => k0 b o (S.gg b o e), fun _ _ e => e, fun _ _ => rfl, S.none_at ?_, fun p hp => ?_, ?_, rfl, rfl, ?_⟩
    · cases q : s.heap.get? (s.heap.push { cls := .type "list", dict := none, data := .seq ([] : List Value).toArray }).objs.size with
      | none => rfl
      | some o' => have := Heap.lt_size q; rw [hC] at this; exact absurd this (Nat.not_lt.mpr (Nat.le_succ _))
    · rcases List.mem_cons.mp hp with rfl | hp
      · exact ⟨k _ _ (Heap.get?_push_size _ rfl), by rw [hC]; exact Nat.ne_of_lt (Nat.lt_succ_self _), S.none_at (get_size _), .inl (Nat.le_refl _)⟩
      · rcases List.mem_singleton.mp hp with rfl
        exact ⟨k0 _ _ hit.1, by rw [hC]; exact Nat.ne_of_lt (Nat.lt_succ_of_lt hitlt), hit.2.2.1, .inr (List.mem_singleton.mpr rfl)⟩
    · simp only [List.map_cons, List.map_nil, List.nodup_cons, List.mem_singleton, List.not_mem_nil, not_false_eq_true, List.nodup_nil, and_true]
      exact Nat.ne_of_gt hitlt
    · exact Nat.le_of_lt (Nat.lt_of_lt_of_le (Nat.lt_of_lt_of_le (Nat.lt_succ_self _) (Nat.le_of_eq hC.symm)) (Nat.le_of_lt hns₁.lt))
  have loop := h _ _ _ (by rw [hC]; exact Nat.le_succ _) (Nat.le_refl _) SC
  have fin : codeAny (model prog w) A (.compLoop (.ListComp elt [⟨target, iter, ifs, 0⟩] scope pos) 0 (.ref it) (.ref s.heap.objs.size) (compEnvC scope cl (s.heap.push { cls := .type "list", dict := none, data := .seq ([] : List Value).toArray }).objs.size env))
      (compPost (model prog w) A E none Q (.ref s.heap.objs.size) (s.heap.push { cls := .type "list", dict := none, data := .seq ([] : List Value).toArray }).objs.size) { s with heap := h₁, toks := s.toks + ([] : List (Str × Value)).length } := by
    refine codeAny_mono loop fun r s' hr => ?_
    obtain ⟨rfl, m', n, vs, g', s₁, e1, e2, S', hQ⟩ := hr
    refine ⟨m', S'.ns, fun h' hs' => ?_⟩
    have hn := S'.cc _ (List.mem_cons_self ..)
    have SF := S'.freeze (by simp only [List.mem_singleton]; exact Nat.ne_of_gt hitlt)
    exact hQ _ _ (Mem.le_put hn.2.2.1) rfl (SF.postL (by rw [e1, hC]; exact Nat.le_succ _) hs') ⟨_, Mem.put_self .., lst_is _ _⟩
  exact codeAny_compStart_list fin (hself _ _ _ SC.drop.cell0 fin)
theorem comp_go {elt target iter : Expr} {ifs : List Expr} {scope : Scope} {cl : List (Str × Addr)} {pos : Pos} {Q : Value → Shared → Prop} {it : Addr} {o : Obj} {n : Nat} {O : Nat → Obj → Prop} {V : Nat → Value → Prop} {Fz : Mem} (S : St w s₀ g₀ X L m ((it, o) :: c) g s)
    (hO : O 0 o) (hFz : Le Fz g) (I : Iter prog w A it n Fz O V)
    (hself : ∀ s' Q' E', s'.heap.get? it = some o → Q' (.ref it) s' → wpAny (model prog w) A (pyIter (.ref it)) Q' E' s') (hn : n ≤ 10000)
    (Inv : Nat → Mem → List Value → Prop) (h0 : Inv 0 g [])
    (turn : ∀ i v g' m' vs nD C D s' o' E', i < n → V i v → Le g g' → Inv i g' vs → St w s g [it] C m' [(D, lst vs nD), (it, o')] g' s' → O (i + 1) o' →
      wpAny (model prog w) A (letOwnedTupleGo target (.ref it) v) (fun _ s₁' => wpAny (model prog w) A (assign target (compEnvC scope cl C env) v) (fun _ s₂ =>
        wpAny (model prog w) A (tests ifs (compEnvC scope cl C env)) (fun ok s₃ =>
          if ok = true then wpAny (model prog w) A (eval elt (compEnvC scope cl C env)) (fun x s₄ => ∃ g'' m'', Le g' g'' ∧ St w s g [it] C m'' [(D, lst vs nD), (it, o')] g'' s₄ ∧ Inv (i + 1) g'' (vs ++ [x])) E' s₃
          else ∃ g'' m'', Le g' g'' ∧ St w s g [it] C m'' [(D, lst vs nD), (it, o')] g'' s₃ ∧ Inv (i + 1) g'' vs) E' s₂) E' s₁') E' s')
    (done : ∀ D vs g' s', Inv n g' vs → Le g g' → St w s₀ g₀ X L m c g' s' → LstAt g' D vs → s.heap.objs.size ≤ D → Q (.ref D) s')
    (hInv : ∀ i g' g'' vs, Le g' g'' → Inv i g' vs → Inv i g'' vs)
    (hcell : ∀ y ∈ scope.names, y.2 ≠ .cell := by decide) (hkind : scope.kind = .function := by with_unfolding_all rfl) :
    CompGo prog w A E env elt target iter ifs scope cl pos Q (.ref it) s := by
  refine comp_frame S hself hcell hkind fun C D s₃ hC hD S₃ => ?_
  refine comp_turns (fun k s' => ∃ i g' m' vs nD o', k + i = n ∧ vs.length ≤ i ∧ Le g g' ∧ St w s g [it] C m' [(D, lst vs nD), (it, o')] g' s' ∧ O i o' ∧ Inv i g' vs) ?_ n ⟨0, g, _, [], 0, o, rfl, Nat.le_refl _, Le.refl _, S₃, hO, h0⟩
  rintro k s' E' ⟨i, g', m', vs, nD, o', hk, hvl, hle, S', hO', hI⟩
  by_cases hlt : i < n
  · refine withSize (I.item hlt ((hFz.trans hle).trans S'.gg) S'.drop.cell0 hO' fun v h' tk o'' hv ho'' hO'' hs hz => ?_)
    have S'' : St w s g [it] C m' [(D, lst vs nD), (it, o'')] g' { s' with heap := h', toks := tk } := (S'.swap.upd0 hs ho'' hz).swap
    refine wpAny_mono (turn i v g' m' vs nD C D _ o'' E' hlt hv hle hI S'' hO'') (fun _ s₁ h₁ => wpAny_mono h₁ (fun _ s₂ h₂ => wpAny_mono h₂ (fun ok s₃ h₃ => ?_) fun _ _ x => x) fun _ _ x => x) fun _ _ x => x
    cases ok with
    | false =>
      obtain ⟨g₃, m₃, h1, h2, h3⟩ := h₃
      exact ⟨k - 1, by omega, i + 1, g₃, m₃, vs, nD, o'', by omega, by omega, hle.trans h1, h2, hO'', h3⟩
    | true =>
      refine wpAny_mono h₃ (fun x s₄ h₄ => ?_) fun _ _ x => x
      obtain ⟨g₃, m₃, h1, h2, h3⟩ := h₄
      refine append0 h2 (by omega) fun n₅ s₅ S₅ => ⟨k - 1, by omega, i + 1, g₃, m₃, vs ++ [x], n₅, o'', by omega, by simp; omega, hle.trans h1, S₅, hO'', h3⟩
  · have hin : i = n := by omega
    subst hin
    refine withSize (I.done ((hFz.trans hle).trans S'.gg) S'.drop.cell0 hO' fun h' hs hz => ?_)
    refine ⟨rfl, m', nD, vs, g', s, rfl, rfl, (S'.swap.lose hs hz), fun s'' g'' hle' _ P hl => ?_⟩
    exact done D vs g'' s'' (hInv _ _ _ _ hle' hI) (hle.trans hle') (S.after1 P) hl hD
end
end

-- PART B17 --
section
open PySem PySem.W PySem.Calls PyProof.Rows
section
variable {M : Model} {prog : Program} {w : World} {A : Around} {E : Value → Shared → Prop} {R : Result → Shared → Prop} {s₀ s s' : Shared} {g₀ g g' : Mem} {X : List Addr} {L : Addr} {m : Str → Option Value} {c : List (Addr × Obj)} {env : Env}
theorem iter_tup (hh : A.handled = none) {it l : Addr} {vs : List Value} {Fz : Mem} (hl : TupAt Fz l vs) :
    Iter prog w A it vs.length Fz (fun i o => o.cls = .type "tuple_iterator" ∧ o.data = .fields #[.ref l, .int i 0]) (fun i v => vs[i]? = some v) where
  item := fun {E Q s i o} hi hF ho hO h => by
    refine wpAny_pyNext_tuple_item ⟨o, ho, hO⟩ (hl.mono hF).isTup (x := vs[i]) (by simp [hi]) fun h' hit hs => ?_
    obtain ⟨o', h1, h2⟩ := hit
    exact h _ h' _ o' (by simp [hi]) h1 h2 (fun b x hb e => (hs.2 b hb).trans e)
  done := fun {E Q s o} hF ho hO h => by
    refine wpAny_pyNext_tuple_end hh ⟨o, ho, hO⟩ (hl.mono hF).isTup (by simp) fun h' he => ?_
    exact h h' (fun b x hb e => he b x hb e)
theorem iter_lst (hh : A.handled = none) {it l : Addr} {vs : List Value} {Fz : Mem} (hl : LstAt Fz l vs) :
    Iter prog w A it vs.length Fz (fun i o => o.cls = .type "list_iterator" ∧ o.data = .fields #[.ref l, .int i 0]) (fun i v => vs[i]? = some v) where
  item := fun {E Q s i o} hi hF ho hO h => by
    refine wpAny_pyNext_list_item ⟨o, ho, hO⟩ (hl.mono hF).isList (x := vs[i]) (by simp [hi]) fun h' hit hs => ?_
    obtain ⟨o', h1, h2⟩ := hit
    exact h _ h' _ o' (by simp [hi]) h1 h2 (fun b x hb e => (hs.2 b hb).trans e)
  done := fun {E Q s o} hF ho hO h => by
    refine wpAny_pyNext_list_end hh ⟨o, ho, hO⟩ (hl.mono hF).isList (by simp) fun h' he => ?_
    exact h h' (fun b x hb e => he b x hb e)
theorem it_lst {l : Addr} {vs : List Value} {Q : Value → Shared → Prop} (S : St w s₀ g₀ X L m c g s) (hl : LstAt g l vs) (h : ∀ it o s', St w s₀ g₀ X L m ((it, o) :: c) g s' → (o.cls = .type "list_iterator" ∧ o.data = .fields #[.ref l, .int (0 : Nat) 0]) → Q (.ref it) s') :
    wpAny (model prog w) A (pyIter (.ref l)) Q E s := wpAny_pyIter_list (hl.mono S.gg).isList (h _ _ _ (S.pushC _ s.toks) ⟨rfl, rfl⟩)
theorem it_tup {l : Addr} {vs : List Value} {Q : Value → Shared → Prop} (S : St w s₀ g₀ X L m c g s) (hl : TupAt g l vs) (h : ∀ it o s', St w s₀ g₀ X L m ((it, o) :: c) g s' → (o.cls = .type "tuple_iterator" ∧ o.data = .fields #[.ref l, .int (0 : Nat) 0]) → Q (.ref it) s') :
    wpAny (model prog w) A (pyIter (.ref l)) Q E s := wpAny_pyIter_tuple (hl.mono S.gg).isTup (h _ _ _ (S.pushC _ s.toks) ⟨rfl, rfl⟩)
theorem comp_lst {elt target iter : Expr} {ifs : List Expr} {scope : Scope} {cl : List (Str × Addr)} {pos : Pos} {Q : Value → Shared → Prop} {l : Addr} {us : List Value} (S : St w s₀ g₀ X L m c g s) (hh : A.handled = none) (hl : LstAt g l us) (hn : us.length ≤ 10000)
    (Inv : Nat → Mem → List Value → Prop) (h0 : Inv 0 g [])
    (turn : ∀ i v g' m' vs nD C D s₂ g₂ it o' s' E', us[i]? = some v → Le g g' → Inv i g' vs → St w s₂ g₂ [it] C m' [(D, lst vs nD), (it, o')] g' s' →
      wpAny (model prog w) A (letOwnedTupleGo target (.ref it) v) (fun _ s₁' => wpAny (model prog w) A (assign target (compEnvC scope cl C env) v) (fun _ s₃ =>
        wpAny (model prog w) A (tests ifs (compEnvC scope cl C env)) (fun ok s₄ =>
          if ok = true then wpAny (model prog w) A (eval elt (compEnvC scope cl C env)) (fun x s₅ => ∃ g'' m'', Le g' g'' ∧ St w s₂ g₂ [it] C m'' [(D, lst vs nD), (it, o')] g'' s₅ ∧ Inv (i + 1) g'' (vs ++ [x])) E' s₄
          else ∃ g'' m'', Le g' g'' ∧ St w s₂ g₂ [it] C m'' [(D, lst vs nD), (it, o')] g'' s₄ ∧ Inv (i + 1) g'' vs) E' s₃) E' s₁') E' s')
    (done : ∀ D vs g' s', Inv us.length g' vs → Le g g' → St w s₀ g₀ X L m c g' s' → LstAt g' D vs → Q (.ref D) s')
    (hInv : ∀ i g' g'' vs, Le g' g'' → Inv i g' vs → Inv i g'' vs)
    (hcell : ∀ y ∈ scope.names, y.2 ≠ .cell := by decide) (hkind : scope.kind = .function := by with_unfolding_all rfl) :
    wpAny (model prog w) A (pyIter (.ref l)) (CompGo prog w A E env elt target iter ifs scope cl pos Q) E s := by
  refine it_lst S hl fun it o s₁ S₁ ho => ?_
  exact comp_go S₁ ho (Le.refl _) (iter_lst hh hl) (fun s' Q' E' e q => wpAny_pyIter_listiter ⟨o, e, ho⟩ q) hn Inv h0
    (fun i v g' m' vs nD C D s' o' E' _ hv hle hI S' _ => turn i v g' m' vs nD C D _ _ it o' s' E' hv hle hI S') (fun D vs g' s' hI hle S' hl' _ => done D vs g' s' hI hle S' hl') hInv hcell hkind
theorem comp_tup {elt target iter : Expr} {ifs : List Expr} {scope : Scope} {cl : List (Str × Addr)} {pos : Pos} {Q : Value → Shared → Prop} {l : Addr} {us : List Value} (S : St w s₀ g₀ X L m c g s) (hh : A.handled = none) (hl : TupAt g l us) (hn : us.length ≤ 10000)
    (Inv : Nat → Mem → List Value → Prop) (h0 : Inv 0 g [])
    (turn : ∀ i v g' m' vs nD C D s₂ g₂ it o' s' E', us[i]? = some v → Le g g' → Inv i g' vs → St w s₂ g₂ [it] C m' [(D, lst vs nD), (it, o')] g' s' →
      wpAny (model prog w) A (letOwnedTupleGo target (.ref it) v) (fun _ s₁' => wpAny (model prog w) A (assign target (compEnvC scope cl C env) v) (fun _ s₃ =>
        wpAny (model prog w) A (tests ifs (compEnvC scope cl C env)) (fun ok s₄ =>
          if ok = true then wpAny (model prog w) A (eval elt (compEnvC scope cl C env)) (fun x s₅ => ∃ g'' m'', Le g' g'' ∧ St w s₂ g₂ [it] C m'' [(D, lst vs nD), (it, o')] g'' s₅ ∧ Inv (i + 1) g'' (vs ++ [x])) E' s₄
          else ∃ g'' m'', Le g' g'' ∧ St w s₂ g₂ [it] C m'' [(D, lst vs nD), (it, o')] g'' s₄ ∧ Inv (i + 1) g'' vs) E' s₃) E' s₁') E' s')
    (done : ∀ D vs g' s', Inv us.length g' vs → Le g g' → St w s₀ g₀ X L m c g' s' → LstAt g' D vs → Q (.ref D) s')
    (hInv : ∀ i g' g'' vs, Le g' g'' → Inv i g' vs → Inv i g'' vs)
    (hcell : ∀ y ∈ scope.names, y.2 ≠ .cell := by decide) (hkind : scope.kind = .function := by with_unfolding_all rfl) :
    wpAny (model prog w) A (pyIter (.ref l)) (CompGo prog w A E env elt target iter ifs scope cl pos Q) E s := by
  refine it_tup S hl fun it o s₁ S₁ ho => ?_
  exact comp_go S₁ ho (Le.refl _) (iter_tup hh hl) (fun s' Q' E' e q => wpAny_pyIter_tupleiter ⟨o, e, ho⟩ q) hn Inv h0
    (fun i v g' m' vs nD C D s' o' E' _ hv hle hI S' _ => turn i v g' m' vs nD C D _ _ it o' s' E' hv hle hI S') (fun D vs g' s' hI hle S' hl' _ => done D vs g' s' hI hle S' hl') hInv hcell hkind
theorem as_name {x : Str} {px : Pos} {v : Value} {it : Value} {Q : Unit → Shared → Prop} (S : St w s₀ g₀ X L m c g s) (h : ∀ s', St w s₀ g₀ X L (up m x v) c g s' → Q () s') (hL : env.locals = L := by with_unfolding_all rfl)
    (hk : env.scope.kind = .function := by with_unfolding_all rfl) (hl : env.kindOf x = some .local := by with_unfolding_all rfl) :
    wpAny (model prog w) A (letOwnedTupleGo (.Name x px) it v) (fun _ s₁ => wpAny (model prog w) A (assign (.Name x px) env v) Q E s₁) E s := by
  show wpAny _ _ (pure () : Sem Unit) _ _ _
  exact wpAny_pure (wpAny_assign_Name (stl S h hL hk hl))
theorem e_listF {e : Expr} {elts : List Expr} {pos : Pos} {Q : Value → Shared → Prop}
    (h : wpAny M A (spliced (backTo pos (starEach (e :: elts) env))) (fun vs s₁ => wpAny M A (newList vs) Q E s₁) E s) : wpAny M A (eval (.List (e :: elts) pos) env) Q E s := List_ h
theorem e_listN {pos : Pos} {Q : Value → Shared → Prop} (S : St w s₀ g₀ X L m c g s)
    (h : ∀ r g' s', Le g g' → St w s₀ g₀ X L m c g' s' → LstAt g' r [] → Q (.ref r) s') : wpAny M A (eval (.List [] pos) env) Q E s :=
  List_ (a_nil (wpAny_newObj_type (h _ _ _ (Mem.le_put (S.none_at (get_size _))) (S.pushF _ s.toks) ⟨_, Mem.put_self .., rfl, 0, rfl⟩) (by size_fits)))
theorem newLst {vs : List Value} {Q : Value → Shared → Prop} (S : St w s₀ g₀ X L m c g s) (hsz : vs.length ≤ 1000)
    (h : ∀ r g' s', Le g g' → St w s₀ g₀ X L m c g' s' → LstAt g' r vs → Q (.ref r) s') : wpAny M A (newList vs) Q E s := by
  refine wpAny_newObj_type (h _ _ _ (Mem.le_put (S.none_at (get_size _))) (S.pushF _ s.toks) ⟨_, Mem.put_self .., rfl, 0, rfl⟩) ?_
  show vs.toArray.size ≤ sizeLine
  rw [List.size_toArray, sizeLine_eq]; omega
theorem newLstC {vs : List Value} {Q : Value → Shared → Prop} (S : St w s₀ g₀ X L m c g s) (hsz : vs.length ≤ 1000)
    (h : ∀ r s', St w s₀ g₀ X L m ((r, lst vs 0) :: c) g s' → s₀.heap.objs.size ≤ r → Q (.ref r) s') : wpAny M A (newList vs) Q E s := by
  refine wpAny_newObj_type (h _ _ (S.pushC _ s.toks) S.size) ?_
  show vs.toArray.size ≤ sizeLine
  rw [List.size_toArray, sizeLine_eq]; omega
end
end

section
local macro_rules | `(tactic| walk_at "lk") => `(tactic| first | with_reducible assumption | with_reducible exact up_self _ _ _ | with_reducible exact up_get (by with_unfolding_all decide) (by walk_at "lk") | with_unfolding_all rfl)
local macro_rules | `(tactic| walk_at "g") => `(tactic| with_reducible first
  | refine s_assign ?_
  | refine s_setattr ?_
  | refine s_setitem ?_
  | refine s_assign2 ?_
  | refine s_ret ?_
  | refine s_if1 ?_
  | refine s_if ?_
  | refine s_for ?_
  | refine s_aug ?_
  | refine s_expr ?_
  | refine s_nil ?_
  | refine s_continue ?_
  | refine s_break ?_
  | refine t_cmp ?_
  | refine t_not ?_
  | refine t_or ?_
  | refine t_or1 ?_
  | refine t_and ?_
  | refine t_and1 ?_
  | refine e_or ?_
  | refine e_and ?_
  | refine e_bool1 ?_
  | refine e_attr ?_
  | refine GM.isupper ?_
  | refine GM.split ?_
  | refine GM.join ?_
  | refine GM.endswith ?_
  | refine endswith1 ?_
  | refine e_mcall ?_
  | refine e_call ?_
  | refine e_sub ?_
  | refine e_bin ?_
  | refine e_ite ?_
  | refine s_assert ?_
  | refine e_neg ?_
  | (refine neg_i (by assumption) ?_; intro _ _ _)
  | refine e_cmp ?_
  | refine e_slice_sn ?_
  | refine e_slice_ns ?_
  | refine e_slice_ss ?_
  | refine a_nil ?_
  | refine a_cons ?_
  | refine c_type ?_
  | refine c_builtin ?_
  | refine c_meth ?_
  | refine c_builtin0 ?_
  | (refine cint (by assumption) ?_; intro _ _ _)
  | (refine cstr (by assumption) ?_; intro _ _ _)
  | refine wpAny_Constant_none ?_
  | refine wpAny_Constant_bool ?_
  | refine ldl (by assumption) (by walk_at "lk") ?_
  | refine ldlN (by assumption) (by walk_at "lk") ?_
  | refine ldn (by assumption) (by with_unfolding_all rfl) ?_
  | (refine stl (by assumption) ?_; intro _ _)
  | (refine max2 (by assumption) (by with_unfolding_all assumption) ?_; intro _ _ _)
  | (refine min2 (by assumption) (by with_unfolding_all assumption) ?_; intro _ _ _)
  | (refine Mine.sub_int (by assumption) ?_; intro _ _ _)
  | (refine Mine.add_int (by assumption) ?_; intro _ _ _)
  | (refine Mine.mod_pos (by assumption) (by omega) ?_; intro _ _ _)
  | (refine Mine.div_pos (by assumption) (by omega) (by omega) ?_; intro _ _ _)
  | (refine Mine.len_str (by assumption) (by omega) ?_; intro _ _ _)
  | refine gm_append (by assumption) (by with_unfolding_all k_mem) ?_
  | (refine append0 (by assumption) (by omega) ?_; intro _ _ _)
  | (refine append1 (by assumption) (by omega) ?_; intro _ _ _)
  | (refine append2 (by assumption) (by omega) ?_; intro _ _ _)
  | refine e_tup ?_
  | refine e_listF ?_
  | refine eqI ?_
  | refine geI ?_
  | refine leI ?_
  | refine gtI ?_
  | refine eqS ?_
  | refine isNone ?_
  | refine isntNone ?_
  | refine And.intro rfl ?_
  | refine wpAny_truthy_bool ?_
  | refine t_val ?_)
local macro_rules | `(tactic| walk_at "gg") => `(tactic| repeat' (first | walk_at "g" | dsimp only))
local macro_rules | `(tactic| walk_at "h") => `(tactic| with_reducible first
  | refine s_assign ?_
  | refine s_setattr ?_
  | refine s_setitem ?_
  | refine s_assign2 ?_
  | refine s_ret ?_
  | refine s_if1 ?_
  | refine s_if ?_
  | refine s_for ?_
  | refine s_aug ?_
  | refine s_expr ?_
  | refine s_nil ?_
  | refine s_continue ?_
  | refine s_break ?_
  | refine e_or ?_
  | refine e_and ?_
  | refine e_bool1 ?_
  | refine e_attr ?_
  | refine GM.isupper ?_
  | refine GM.split ?_
  | refine GM.join ?_
  | refine GM.endswith ?_
  | refine endswith1 ?_
  | refine e_mcall ?_
  | refine e_call ?_
  | refine e_sub ?_
  | refine e_bin ?_
  | refine e_ite ?_
  | refine s_assert ?_
  | refine e_neg ?_
  | (refine neg_i (by assumption) ?_; intro _ _ _)
  | refine e_cmp ?_
  | refine e_slice_sn ?_
  | refine e_slice_ns ?_
  | refine e_slice_ss ?_
  | refine a_nil ?_
  | refine a_cons ?_
  | refine c_type ?_
  | refine c_builtin ?_
  | refine c_meth ?_
  | refine c_builtin0 ?_
  | (refine cint (by assumption) ?_; intro _ _ _)
  | (refine cstr (by assumption) ?_; intro _ _ _)
  | refine wpAny_Constant_none ?_
  | refine wpAny_Constant_bool ?_
  | refine ldl (by assumption) (by walk_at "lk") ?_
  | refine ldlN (by assumption) (by walk_at "lk") ?_
  | refine ldn (by assumption) (by with_unfolding_all rfl) ?_
  | (refine stl (by assumption) ?_; intro _ _)
  | (refine max2 (by assumption) (by with_unfolding_all assumption) ?_; intro _ _ _)
  | (refine min2 (by assumption) (by with_unfolding_all assumption) ?_; intro _ _ _)
  | (refine Mine.sub_int (by assumption) ?_; intro _ _ _)
  | (refine Mine.add_int (by assumption) ?_; intro _ _ _)
  | (refine Mine.mod_pos (by assumption) (by omega) ?_; intro _ _ _)
  | (refine Mine.div_pos (by assumption) (by omega) (by omega) ?_; intro _ _ _)
  | (refine Mine.len_str (by assumption) (by omega) ?_; intro _ _ _)
  | refine gm_append (by assumption) (by with_unfolding_all k_mem) ?_
  | (refine append0 (by assumption) (by omega) ?_; intro _ _ _)
  | (refine append1 (by assumption) (by omega) ?_; intro _ _ _)
  | (refine append2 (by assumption) (by omega) ?_; intro _ _ _)
  | refine e_tup ?_
  | refine e_listF ?_
  | refine eqI ?_
  | refine geI ?_
  | refine leI ?_
  | refine gtI ?_
  | refine eqS ?_
  | refine isNone ?_
  | refine isntNone ?_
  | refine And.intro rfl ?_
  | refine wpAny_truthy_bool ?_)
local macro_rules | `(tactic| walk_at "hh") => `(tactic| repeat' (first | walk_at "h" | dsimp only))

-- PART F8 --
section
open PySem PySem.W PySem.Calls PyProof.Rows
theorem Le.tup {g g' : Mem} (k : Le g g') {vs : List Value} {rs : List (List T)} (h : All2 (IsTs g) vs rs) : All2 (IsTs g') vs rs := h.mono fun _ _ x => x.mono k
theorem le_sum : ∀ {l : List T} {x : T}, x ∈ l → x.length ≤ (l.map List.length).sum
  | a :: l, x, h => by
    rcases List.mem_cons.mp h with rfl | h
    · simp
    · have := le_sum h; simp; omega
def IsPlain (g : Mem) (v : Value) (rows : List (List T)) : Prop := ∃ a dx od la vs, v = .ref a ∧ InstG g a 715 dx od ∧ NsO 1 od (up (fun _ => none) "rows" (.ref la)) ∧ LstAt g la vs ∧ All2 (IsTs g) vs rows
theorem IsPlain.mono {g g' : Mem} {v : Value} {rows : List (List T)} (h : IsPlain g v rows) (k : Le g g') : IsPlain g' v rows :=
  let ⟨a, dx, od, la, vs, h1, h2, h3, h4, h5⟩ := h; ⟨a, dx, od, la, vs, h1, h2.mono k, h3, h4.mono k, k.tup h5⟩
def IsPM (g : Mem) (v : Value) (pos : Nat) (ps : List T) : Prop := ∃ a dx od t pv, v = .ref a ∧ InstG g a 688 dx od ∧ NsO 2 od (up (up (fun _ => none) "place" (.int (pos : Int) t)) "pieces" pv) ∧ IsTs g pv ps
theorem IsPM.mono {g g' : Mem} {v : Value} {pos : Nat} {ps : List T} (h : IsPM g v pos ps) (k : Le g g') : IsPM g' v pos ps :=
  let ⟨a, dx, od, t, pv, h1, h2, h3, h4⟩ := h; ⟨a, dx, od, t, pv, h1, h2.mono k, h3, h4.mono k⟩
section
variable {M : Model} {prog : Program} {w : World} {A : Around} {E : Value → Shared → Prop} {s₀ s s' : Shared} {g₀ g g' : Mem} {X : List Addr} {L : Addr} {m : Str → Option Value} {c : List (Addr × Obj)} {env : Env}
theorem plain_new (hr : Room A 1) (B : Base w g) (hg : Le g s.heap.get?) {la : Addr} {vs : List Value} {rows : List (List T)} (hl : LstAt g la vs) (hv : All2 (IsTs g) vs rows)
    {R : Result → Shared → Prop} (h : ∀ v s' g', Post [] s g s' g' → IsPlain g' v rows → R (.ok (.ret v)) s') :
    codeAny (model prog w) A (.call (.ref 715) ⟨[.ref la], []⟩) R s := by
  refine make (fI := 706) (fun x => [("self", x), ("rows", .ref la)]) B hg (by kernel_rfl) (by kernel_rfl) (by kernel_rfl) rfl (by kernel_rfl) (by have := hr.dp; omega) (fun x s' _ => BindsTo.of_eq rfl) (fun x => rfl) (by decide) fun dx t L s₁ hdx hle S₁ => ?_
  have hx : (g.put (dx + 1) (instObj 715 dx)) (dx + 1) = some (instObj 715 dx) := Mem.put_self ..
  walk_at "gg"
  refine set_field (by assumption) (St.gg (by assumption) _ _ hx) .nil (by omega) (by kernel_rfl) (by kernel_rfl) (by kernel_rfl) (by kernel_rfl) ?_; intro od s₃ N S₃
  walk_at "gg"
  obtain ⟨P, I, hle₂⟩ := made_end hg hdx S₃
  exact h _ _ _ P ⟨dx + 1, dx, od, la, vs, rfl, I, N, hl.mono (hle.trans hle₂), (hle.trans hle₂).tup hv⟩
theorem pm_new (hr : Room A 1) (B : Base w g) (hg : Le g s.heap.get?) {pos : Nat} {t : Tok} {pv : Value} {ps : List T} (hp : IsTs g pv ps)
    {R : Result → Shared → Prop} (h : ∀ v s' g', Post [] s g s' g' → IsPM g' v pos ps → R (.ok (.ret v)) s') :
    codeAny (model prog w) A (.call (.ref 688) ⟨[.int (pos : Int) t, pv], []⟩) R s := by
  refine make (fI := 663) (fun x => [("self", x), ("place", .int (pos : Int) t), ("pieces", pv)]) B hg (by kernel_rfl) (by kernel_rfl) (by kernel_rfl) rfl (by kernel_rfl) (by have := hr.dp; omega) (fun x s' _ => BindsTo.of_eq rfl) (fun x => rfl) (by decide) fun dx tk L s₁ hdx hle S₁ => ?_
  have hx : (g.put (dx + 1) (instObj 688 dx)) (dx + 1) = some (instObj 688 dx) := Mem.put_self ..
  walk_at "gg"
  refine set_field (by assumption) (St.gg (by assumption) _ _ hx) .nil (by omega) (by kernel_rfl) (by kernel_rfl) (by kernel_rfl) (by kernel_rfl) ?_; intro od s₃ N S₃
  walk_at "gg"
  refine set_field (by assumption) (St.gg (by assumption) _ _ hx) N (by omega) (by kernel_rfl) (by kernel_rfl) (by kernel_rfl) (by kernel_rfl) ?_; intro od₄ s₄ N₄ S₄
  walk_at "gg"
  obtain ⟨P, I, hle₂⟩ := made_end hg hdx S₄
  exact h _ _ _ P ⟨dx + 1, dx, od₄, t, pv, rfl, I, N₄, hp.mono (hle.trans hle₂)⟩
theorem flat_group (hr : Room A 1) (B : Base w g) (hg : Le g s.heap.get?) {v : Value} {pos : Nat} {ps : List T} (K : IsPM g v pos ps) (hn : ps.length ≤ 10) (hl : (ps.map List.length).sum ≤ 1000)
    {R : Result → Shared → Prop} (h : ∀ t s', Post [] s g s' g → R (.ok (.ret (.str (S ps.flatten) t))) s') :
    codeAny (model prog w) A (.call (.ref 685) ⟨[v], []⟩) R s := by
  obtain ⟨a, dx, od, tk, pv, rfl, I, N, ⟨pa, vs, rfl, ht, hv⟩⟩ := K
  refine callF (g := g) [("self", .ref a), ("arg", .int 0 _)] B hg (f := 685) rfl (by kernel_rfl) hr.lt (binds_K (B.mono hg).K rfl rfl rfl rfl rfl) rfl (by decide) fun L s₁ S₁ => ?_
  have hh := hr.hd
  walk_at "gg"
  refine truthyI ?_
  rw [if_neg (by decide)]
  walk_at "gg"
  rw [str_nil]
  refine e_comp [] rfl ?_
  walk_at "gg"
  refine get_field (v := .ref pa) (by assumption) (I.mono (St.gg (by assumption))) (by kernel_rfl) (by kernel_rfl) (by kernel_rfl) ((N.look "pieces").trans (congrArg some (up_self _ _ _))) rfl ?_; intro s₂ S₂
  have hvl := hv.length
  refine comp_tup (by assumption) hh ht (by omega) (fun i g' us => All2 IsT us (ps.take i)) trivial ?_ ?_ (fun _ _ _ _ _ x => x)
  · intro i v g' m' us nD C D s₂ g₂ it o' s₃ E' hvi hle hI S₃
    obtain ⟨x, hx, tx, rfl⟩ := All2.get hv hvi
    refine as_name S₃ ?_; intro s₄ S₄
    refine t_nil ?_
    rw [if_pos rfl]
    have hpx : ∀ y, IsT y x → All2 IsT (us ++ [y]) (ps.take (i + 1)) := fun y hy => by
      rw [List.take_add_one, hx]; exact hI.snoc hy
    walk_at "gg"
    refine truthyS (by assumption) ?_ ?_
    · have : x.length ≤ (ps.map List.length).sum := le_sum (List.mem_of_getElem? hx)
      omega
    intro s₅ S₅
    split
    · exact ⟨g', _, Le.refl _, S₅, hpx _ ⟨_, rfl⟩⟩
    · rename_i hxe
      walk_at "gg"
      have hxn : x = [] := by simpa using hxe
      exact ⟨g', _, Le.refl _, by assumption, hpx _ ⟨_, by rw [hxn]⟩⟩
  · intro D us g' s₃ hI hle S₃ hD
    walk_at "gg"
    rw [List.take_of_length_le (by omega)] at hI
    refine join_lst (by assumption) (hD.mono S₃.gg) hI (by omega) ?_; intro t₄ s₄ S₄
    exact h _ _ (S₄.post.of_same hg)
end
end

-- PART F9 --
section
open PySem PySem.W PySem.Calls PyProof.Rows
section
variable {prog : Program} {w : World} {A : Around} {s : Shared} {g : Mem}
theorem end_spec (hr : Room A 2) (B : Base w g) (hg : Le g s.heap.get?) {v : Value} {pos : Nat} {ps : List T} (K : IsPM g v pos ps) (hn : ps.length ≤ 10) (hl : (ps.map List.length).sum ≤ 1000)
    {R : Result → Shared → Prop} (h : ∀ t s', Post [] s g s' g → R (.ok (.ret (.int ((pos + ps.flatten.length : Nat) : Int) t))) s') :
    codeAny (model prog w) A (.call (.ref 679) ⟨[v], []⟩) R s := by
  obtain ⟨a, dx, od, tk, pv, rfl, I, N, hp⟩ := id K
  refine callF (g := g) [("self", .ref a), ("arg", .int 0 _)] B hg (f := 679) rfl (by kernel_rfl) hr.lt (binds_K (B.mono hg).K rfl rfl rfl rfl rfl) rfl (by decide) fun L s₁ S₁ => ?_
  have hh := hr.hd
  walk_at "gg"
  refine truthyI ?_
  rw [if_neg (by decide)]
  walk_at "gg"
  refine get_field (v := .int (pos : Int) tk) (by assumption) (I.mono (St.gg (by assumption))) (by kernel_rfl) (by kernel_rfl) (by kernel_rfl) ((N.look "place").trans (congrArg some ((up_ne _ (by decide)).trans (up_self _ _ _)))) rfl ?_; intro s₂ S₂
  walk_at "gg"
  refine get_meth (f := 685) (by assumption) (I.mono (St.gg (by assumption))) (by kernel_rfl) (by kernel_rfl) (by kernel_rfl) (by kernel_rfl) ((N.look "group").trans (congrArg some ((up_ne _ (by decide)).trans (up_ne _ (by decide))))) ?_
  walk_at "gg"
  refine c_fm0 (by assumption) (by kernel_rfl) ?_
  refine wpAny_call (flat_group (hr.deeper _) B (St.gg (by assumption)) K hn hl ?_); intro t₃ s₃ P₃
  have S₃ := St.after (by assumption) P₃
  walk_at "gg"
  have hfl : ps.flatten.length ≤ 1000 := by rw [List.length_flatten]; exact hl
  refine len_str (by assumption) (by omega) ?_; intro t₄ s₄ S₄
  walk_at "gg"
  rename_i t₅ s₅ S₅
  have h' := h t₅ s₅ (S₅.post.of_same hg)
  rw [Int.natCast_add] at h'
  exact h'
def fits (rows : List (List T)) (text : T) (pos : Nat) : Option (List T) := rows.find? fun ps => decide ((text.drop pos).take ps.flatten.length = ps.flatten)
theorem match_spec (hr : Room A 2) (B : Base w g) (hg : Le g s.heap.get?) {v epv : Value} {text : T} {t u : Tok} {pos : Nat} {rows : List (List T)} {args : List Value} (K : IsPlain g v rows)
    (ha : (args = [v, .str (S text) t, .int (pos : Int) u] ∧ epv = .none) ∨ (args = [v, .str (S text) t, .int (pos : Int) u, epv] ∧ ∃ z, epv = .int (text.length : Int) z)) (hpos : pos ≤ text.length) (ht : text.length ≤ 100) (hrw : ∀ ps ∈ rows, ps.length ≤ 10 ∧ (ps.map List.length).sum ≤ 1000) (hrn : rows.length ≤ 10)
    {R : Result → Shared → Prop} (h : ∀ mv s' g', Post [] s g s' g' → (match fits rows text pos with | none => mv = .none | some ps => IsPM g' mv pos ps) → R (.ok (.ret mv)) s') :
    codeAny (model prog w) A (.call (.ref 712) ⟨args, []⟩) R s := by
  obtain ⟨a, dx, od, la, vs, rfl, I, N, hla, hvs⟩ := id K
  refine callF (g := g) [("self", .ref a), ("text", .str (S text) t), ("pos", .int (pos : Int) u), ("endpos", epv)] B hg (f := 712) rfl (by kernel_rfl) hr.lt (by
    rcases ha with ⟨rfl, rfl⟩ | ⟨rfl, _⟩
    · exact binds_K (B.mono hg).K rfl rfl rfl rfl rfl
    · exact binds_K (B.mono hg).K rfl rfl rfl rfl rfl) rfl (by decide) fun L s₁ S₁ => ?_
  have hh := hr.hd
  walk_at "gg"
  refine get_field (v := .ref la) (by assumption) (I.mono (St.gg (by assumption))) (by kernel_rfl) (by kernel_rfl) (by kernel_rfl) ((N.look "rows").trans (congrArg some (up_self _ _ _))) rfl ?_; intro s₂ S₂
  obtain ⟨ol, hol, hc, k, hd⟩ := hla
  have hvl := hvs.length
  refine list_loop S₂ hol hc hd hh (fun i g' m' c' => c' = [] ∧ (m' "self" = some (.ref a) ∧ m' "text" = some (.str (S text) t) ∧ m' "pos" = some (.int (pos : Int) u) ∧ m' "endpos" = some epv) ∧ ∀ j ps, j < i → rows[j]? = some ps → ¬ (text.drop pos).take ps.flatten.length = ps.flatten) ⟨rfl, ⟨by walk_at "lk", by walk_at "lk", by walk_at "lk", by walk_at "lk"⟩, fun j ps hj => by omega⟩ ?_ ?_
  · rintro it o i g' m' c' s₄ v E' hi hle ⟨rfl, ⟨hm1, hm2, hm3, hm4⟩, hno⟩ S₄
    have hi' : vs[i]? = some v := by simpa using hi
    obtain ⟨ps, hps, pa, us, rfl, hpt, hpv⟩ := All2.get hvs hi'
    have hpm := List.mem_of_getElem? hps
    have hb := hrw ps hpm
    have hul := hpv.length
    walk_at "gg"
    rw [str_nil]
    refine e_comp [] rfl ?_
    walk_at "gg"
    refine comp_tup (by assumption) hh (hpt.mono hle) (by omega) (fun i g' us => All2 IsT us (ps.take i)) trivial ?_ ?_ (fun _ _ _ _ _ x => x)
    · intro i₂ v₂ g₂ m₂ us₂ nD C D s₅ g₅ it₂ o₂ s₆ E₂ hvi hle₂ hI S₆
      obtain ⟨x, hx, tx, rfl⟩ := All2.get hpv hvi
      refine as_name S₆ ?_; intro s₇ S₇
      refine t_nil ?_
      rw [if_pos rfl]
      have hpx : ∀ y, IsT y x → All2 IsT (us₂ ++ [y]) (ps.take (i₂ + 1)) := fun y hy => by
        rw [List.take_add_one, hx]; exact hI.snoc hy
      walk_at "gg"
      refine truthyS (by assumption) ?_ ?_
      · have : x.length ≤ (ps.map List.length).sum := le_sum (List.mem_of_getElem? hx)
        omega
      intro s₈ S₈
      split
      · exact ⟨g₂, _, Le.refl _, S₈, hpx _ ⟨_, rfl⟩⟩
      · rename_i hxe
        walk_at "gg"
        have hxn : x = [] := by simpa using hxe
        exact ⟨g₂, _, Le.refl _, by assumption, hpx _ ⟨_, by rw [hxn]⟩⟩
    · intro D us₂ g₂ s₅ hI hle₂ S₅ hD
      walk_at "gg"
      rw [List.take_of_length_le (by omega)] at hI
      refine join_lst (by assumption) (hD.mono S₅.gg) hI (by omega) ?_; intro t₆ s₆ S₆
      have hfl : ps.flatten.length ≤ 1000 := by rw [List.length_flatten]; exact hb.2
      walk_at "hh"
      refine t_is (decide ((text.drop pos).take ps.flatten.length = ps.flatten)) (by assumption) ?_ ?_
      · walk_at "gg"
        refine sub_str_ss (by assumption) (by rw [S_len, sizeLine_eq]; omega) ?_; intro t₇ s₇ S₇
        rw [← Int.natCast_add, slice_ss, show pos + ps.flatten.length - pos = ps.flatten.length by omega]
        walk_at "gg"
        split
        · rename_i heq
          have heq : (text.drop pos).take ps.flatten.length = ps.flatten := of_decide_eq_true heq
          have hlen : pos + ps.flatten.length ≤ text.length := by
            have := congrArg List.length heq
            rw [List.length_take, List.length_drop] at this
            omega
          walk_at "gg"
          rcases ha with ⟨_, rfl⟩ | ⟨_, z, rfl⟩
          · rw [if_pos (by rfl)]
            exact ⟨(decide_eq_true heq).symm, S₇⟩
          · rw [if_neg (by simp)]
            walk_at "gg"
            refine ⟨?_, by assumption⟩
            rw [decide_eq_true heq, decide_eq_true_eq]; omega
        · rename_i heq
          have heq : ¬ (text.drop pos).take ps.flatten.length = ps.flatten := fun q => heq (decide_eq_true q)
          exact ⟨(decide_eq_false heq).symm, S₇⟩
      · intro s₇ S₇
        by_cases heq : (text.drop pos).take ps.flatten.length = ps.flatten
        · rw [if_pos (by rw [decide_eq_true_eq]; exact heq)]
          have key : fits rows text pos = some ps := by
            unfold fits
            rw [List.find?_eq_some_iff_getElem]
            have hlt : i < rows.length := by
              rcases Nat.lt_or_ge i rows.length with q | q
              · exact q
              · rw [List.getElem?_eq_none q] at hps; cases hps
            refine ⟨decide_eq_true heq, i, hlt, ?_, fun j hj => ?_⟩
            · rw [List.getElem?_eq_getElem hlt] at hps; exact Option.some.inj hps
            · have := hno j rows[j] hj (List.getElem?_eq_getElem (by omega))
              rw [decide_eq_false this]; rfl
          walk_at "gg"
          refine c_fn (by assumption) (by kernel_rfl) ?_
          walk_at "gg"
          refine St.kinH (by assumption) ?_
          refine wpAny_call (pm_new ((hr.mono (by omega)).deeper _) (St.baseG (by assumption)) (St.gg (by assumption)) (ps := ps) ⟨pa, us, rfl, hpt.mono (hle.trans hle₂), hpv⟩ ?_)
          intro mv s₈ g₈ P₈ K₈
          have S₈ := St.after (by assumption) P₈
          walk_at "gg"
          exact h mv _ g₈ S₈.post (by rw [key]; exact K₈)
        · rw [if_neg (by rw [decide_eq_true_eq]; exact heq)]
          walk_at "gg"
          refine ⟨g₂, _, _, hle.trans hle₂, S₇, rfl, ⟨by walk_at "lk", by walk_at "lk", by walk_at "lk", by walk_at "lk"⟩, fun j ps' hj hps' => ?_⟩
          rcases Nat.lt_succ_iff_lt_or_eq.mp hj with q | rfl
          · exact hno j ps' q hps'
          · rw [hps] at hps'; cases hps'; exact heq
  · rintro g' m' c' s₄ E' hle ⟨rfl, ⟨hm1, hm2, hm3, hm4⟩, hno⟩ S₄
    walk_at "gg"
    have key : fits rows text pos = none := by
      unfold fits
      rw [List.find?_eq_none]
      intro ps hps
      obtain ⟨j, hj, rfl⟩ := List.mem_iff_getElem.mp hps
      have := hno j rows[j] (by rw [List.size_toArray]; omega) (List.getElem?_eq_getElem hj)
      rw [decide_eq_true_eq]; exact this
    exact h .none _ g' S₄.post (by rw [key])
end
end

end

-- PART B18 --
section
open PySem PySem.W PySem.Calls PyProof.Rows
section
variable {M : Model} {prog : Program} {w : World} {A : Around} {E : Value → Shared → Prop} {R : Result → Shared → Prop} {s₀ s s' : Shared} {g₀ g g' : Mem} {X : List Addr} {L : Addr} {m : Str → Option Value} {c : List (Addr × Obj)} {env : Env}
theorem St.big (S : St w s₀ g₀ X L m c g s) : (s.heap.objs.size == sysModules) = false := by
  obtain ⟨o, _, _, ho, _⟩ := S.baseH.glob
  have := Heap.lt_size ho
  have e : mainGlobals = 3 := rfl
  have e2 : sysModules = 1 := rfl
  rw [e] at this; rw [e2]
  exact beq_eq_false_iff_ne.mpr (Nat.ne_of_gt (Nat.lt_trans (by decide : 1 < 3) this))
theorem e_dict0 {pos : Pos} {Q : Value → Shared → Prop} (S : St w s₀ g₀ X L m c g s) (h : ∀ d od s', St w s₀ g₀ X L m ((d, od) :: c) g s' → DictObj prog w od [] → (d == sysModules) = false → s₀.heap.objs.size ≤ d → Q (.ref d) s') :
    wpAny (model prog w) A (eval (.Dict [] [] pos) env) Q E s := by
  refine wpAny_Dict_empty (h _ _ _ (S.pushC _ s.toks) ?_ S.big S.size)
  obtain ⟨o, e, D⟩ := DictObj.of (Heap.DictOf.new (knd := strKind prog w) s.heap)
  rw [Heap.get?_push_size _ rfl] at e
  cases e; exact D
theorem e_dict1 {ke ve : Expr} {pos : Pos} {Q : Value → Shared → Prop} (S : St w s₀ g₀ X L m c g s)
    (h : ∀ d od s₁, St w s₀ g₀ X L m ((d, od) :: c) g s₁ → (d == sysModules) = false → s₀.heap.objs.size ≤ d →
      wpAny (model prog w) A (eval ke env) (fun kv s₂ => wpAny (model prog w) A (do let x ← eval ve env; standAt pos; pure x) (fun vv s₃ => ∃ k t g₃ m₃ c₃, kv = .str k t ∧ St w s₀ g₀ X L m₃ ((d, od) :: c₃) g₃ s₃ ∧
        ∀ od' s₄, St w s₀ g₀ X L m₃ ((d, od') :: c₃) g₃ s₄ → DictObj prog w od' [(k, vv)] → Q (.ref d) s₄) E s₂) E s₁)
    (hs : (evalEachOpt [some ke] env).zip ((evalEach [ve] env).map fun v => do let x ← v; standAt pos; pure x) = [(eval ke env, do let x ← eval ve env; standAt pos; pure x)].map fun p => (some p.1, p.2) := by with_unfolding_all rfl) :
    wpAny (model prog w) A (eval (.Dict [some ke] [ve] pos) env) Q E s := by
  refine wpAny_Dict_pairs (knd := strKind prog w) hs (by simp) (by simp) (evalPairs_cons ?_)
  have S1 := S.pushC { cls := .type "dict", data := .dict #[] } s.toks
  refine wpAny_mono (h _ _ _ S1 S.big S.size) (fun kv s₂ h₂ => wpAny_mono h₂ (fun vv s₃ h₃ => evalPairs_nil ?_) fun _ _ x => x) fun _ _ x => x
  obtain ⟨k, t, g₃, m₃, c₃, rfl, S₃, hQ⟩ := h₃
  refine ⟨[(k, vv)], ⟨strKind_is prog w k t, rfl, trivial⟩, ?_, fun h' hd hs' => ?_⟩
  · obtain ⟨o, e, D⟩ := DictObj.of (Heap.DictOf.new (knd := strKind prog w) s.heap)
    rw [Heap.get?_push_size _ rfl] at e
    cases e
    exact D.dictOf S₃.cell0
  · obtain ⟨o, e, D⟩ := DictObj.of hd
    exact hQ o _ (S₃.upd0 (fun b x hb e => (hs'.2 b hb).trans e) e (Nat.le_of_eq hs'.1.symm)) D
theorem d_set {d : Addr} {od : Obj} {kvs : List (Str × Value)} {k : Str} {t : Tok} {v : Value} {Q : Unit → Shared → Prop} (S : St w s₀ g₀ X L m ((d, od) :: c) g s) (D : DictObj prog w od kvs) (hn : kvs.length ≤ 1000)
    (h : ∀ od' s', St w s₀ g₀ X L m ((d, od') :: c) g s' → DictObj prog w od' (stored kvs k v) → Q () s') : wpAny (model prog w) A (setItem (.ref d) (.str k t) v) Q E s := by
  refine wpAny_setItem_pairs (knd := strKind prog w) (strKind_is prog w k t) (D.dictOf S.cell0) (fun h' hd hs => ?_) (by rw [sizeLine_eq]; omega)
  obtain ⟨o, e, D'⟩ := DictObj.of hd
  exact h o _ (S.upd0 (fun b x hb e => (hs.2 b hb).trans e) e (Nat.le_of_eq hs.1.symm)) D'
theorem d_set1 {p : Addr × Obj} {d : Addr} {od : Obj} {kvs : List (Str × Value)} {k : Str} {t : Tok} {v : Value} {Q : Unit → Shared → Prop} (S : St w s₀ g₀ X L m (p :: (d, od) :: c) g s) (D : DictObj prog w od kvs) (hn : kvs.length ≤ 1000)
    (h : ∀ od' s', St w s₀ g₀ X L m (p :: (d, od') :: c) g s' → DictObj prog w od' (stored kvs k v) → Q () s') : wpAny (model prog w) A (setItem (.ref d) (.str k t) v) Q E s :=
  d_set S.swap D hn fun od' s' S' D' => h od' s' S'.swap D'
theorem d_setF {r : Addr} {o : Obj} {p : Addr × Obj} {d : Addr} {od : Obj} {kvs : List (Str × Value)} {k : Str} {t : Tok} {v : Value} {Q : Unit → Shared → Prop} (S : St w s₀ g₀ X L m ((r, o) :: p :: (d, od) :: c) g s) (hr : s₀.heap.objs.size ≤ r) (D : DictObj prog w od kvs) (hn : kvs.length ≤ 1000)
    (h : ∀ od' s', g r = none → St w s₀ g₀ X L m (p :: (d, od') :: c) (g.put r o) s' → DictObj prog w od' (stored kvs k v) → Q () s') : wpAny (model prog w) A (setItem (.ref d) (.str k t) v) Q E s :=
  d_set1 (S.freezeN hr) D hn fun od' s' S' D' => h od' s' (S.cc _ (List.mem_cons_self ..)).2.2.1 S' D'
theorem d_get {value slice : Expr} {d : Addr} {od : Obj} {kvs : List (Str × Value)} {k : Str} {t : Tok} {v : Value} {Q : Value → Shared → Prop} (S : St w s₀ g₀ X L m c g s) (hd : s.heap.get? d = some od) (D : DictObj prog w od kvs) (hv : valueAt kvs k = some v)
    (h : ∀ s', St w s₀ g₀ X L m c g s' → Q v s')
    (hs : subscripted slice false (.ref d) (.str k t) = operate [.ref d, .str k t] (getItem (.ref d) (.str k t)) := by with_unfolding_all rfl) :
    wpAny (model prog w) A (subscriptTail value slice (.ref d) (.str k t)) Q E s :=
  tail_any (T := "dict") (D.dictOf hd).typeIs slot_dict_getitem.lookup (wpAny_getItem_of (knd := strKind prog w) (strKind_is prog w k t) (D.dictOf hd).mapOf hv (h _ (S.toks _))) hs
theorem gm_get {d : Addr} {od : Obj} {kvs : List (Str × Value)} {pl : Sem Bool} {Q : Value × List Value → Shared → Prop} (S : St w s₀ g₀ X L m c g s) (hd : s.heap.get? d = some od) (D : DictObj prog w od kvs) (h : Q (.builtin "dict.get", [.ref d]) s) :
    wpAny (model prog w) A (getMethod (.ref d) "get" pl) Q E s :=
  getMethod_builtin (D.dictOf hd).typeIs F.plainAttrs_dict F.slot_dict_get F.type_dict_get (fun a e => by cases e; exact ⟨od, hd, D.1.2.1⟩) h
theorem gm_items {d : Addr} {od : Obj} {kvs : List (Str × Value)} {pl : Sem Bool} {Q : Value × List Value → Shared → Prop} (S : St w s₀ g₀ X L m c g s) (hd : s.heap.get? d = some od) (D : DictObj prog w od kvs) (h : Q (.builtin "dict.items", [.ref d]) s) :
    wpAny (model prog w) A (getMethod (.ref d) "items" pl) Q E s :=
  getMethod_builtin (D.dictOf hd).typeIs F.plainAttrs_dict F.slot_dict_items F.type_dict_items (fun a e => by cases e; exact ⟨od, hd, D.1.2.1⟩) h
theorem d_getm {d : Addr} {od : Obj} {kvs : List (Str × Value)} {k : Str} {t : Tok} {Q : Value → Shared → Prop} (S : St w s₀ g₀ X L m c g s) (hd : s.heap.get? d = some od) (D : DictObj prog w od kvs) (hm : (d == sysModules) = false) (h : ∀ s', St w s₀ g₀ X L m c g s' → Q ((valueAt kvs k).getD .none) s') :
    wpAny (model prog w) A (call (.builtin "dict.get") [.ref d, .str k t]) Q E s :=
  call_meetsIn F.slot_dict_get (D.dictOf hd).typeIs F.entry_dict_get (F.args_dict_get_2 _ _) (meets_dict_get (strKind prog w) d (strKind_is prog w k t) hm) ⟨_, (D.dictOf hd).mapOf, h _ (S.toks _)⟩
theorem getD_getm {d : Addr} {od : Obj} {kvs : List (Str × Value)} {k : Str} {t : Tok} {v : Value} {Q : Value → Shared → Prop} (S : St w s₀ g₀ X L m c g s) (hd : s.heap.get? d = some od) (D : DictObj prog w od kvs) (hm : (d == sysModules) = false) (h : ∀ s', St w s₀ g₀ X L m c g s' → Q ((valueAt kvs k).getD v) s') :
    wpAny (model prog w) A (call (.builtin "dict.get") [.ref d, .str k t, v]) Q E s :=
  call_meetsIn F.slot_dict_get (D.dictOf hd).typeIs F.entry_dict_get (F.args_dict_get_3 _ _ _) (meets_dict_get_default (strKind prog w) d (strKind_is prog w k t) hm v) ⟨_, (D.dictOf hd).mapOf, h _ (S.toks _)⟩
theorem DictObj.at {o : Obj} {kvs : List (Str × Value)} (D : DictObj prog w o kvs) : ∃ es ep, o.data = .dict es ep ∧ ∀ (h : Heap) (d : Addr), h.get? d = some o → h.DictAt (strKind prog w) d kvs ep :=
  let ⟨h1, es, ep, h2, h3, h4, h5⟩ := D; ⟨es, ep, h2, fun h d e => ⟨o, es, e, h1, h2, h3, h4, h5⟩⟩
theorem it_dict {d : Addr} {od : Obj} {kvs : List (Str × Value)} {Q : Value → Shared → Prop} (S : St w s₀ g₀ X L m c g s) (hh : A.handled = none) (hd : g d = some od) (D : DictObj prog w od kvs) (hm : (d == sysModules) = false)
    (h : ∀ it o s' (O : Nat → Obj → Prop), St w s₀ g₀ X L m ((it, o) :: c) g s' → O 0 o → Iter prog w A it kvs.length g O (fun i v => ∃ k t x, kvs[i]? = some (k, x) ∧ v = .str k t) → Q (.ref it) s') :
    wpAny (model prog w) A (pyIter (.ref d)) Q E s := by
  obtain ⟨es, ep, hdat, hat⟩ := D.at
  refine wpAny_pyIter_dict hm (hat _ _ (S.gg _ _ hd)) (h _ _ _ (fun i o => o.cls = .type "dict_keyiterator" ∧ o.data = .fields #[.ref d, .int i 0, .int kvs.length 0, .int ep 0]) (S.pushC _ s.toks) ⟨rfl, rfl⟩ ?_)
  exact {
    item := fun {E Q s i o} hi hF ho hO h => by
      obtain ⟨⟨k, x⟩, hx⟩ : ∃ p, kvs[i]? = some p := ⟨kvs[i], by simp [hi]⟩
      refine wpAny_pyNext_dict_item ⟨o, ho, hO⟩ (hat _ _ (hF _ _ hd)) hx fun key h' hkey hit hs => ?_
      obtain ⟨t, rfl⟩ := Value.isStrOf_shape hkey
      obtain ⟨o', h1, h2⟩ := hit
      exact h _ h' _ o' ⟨k, t, x, hx, rfl⟩ h1 h2 (fun b x hb e => (hs.2 b hb).trans e)
    done := fun {E Q s o} hF ho hO h => by
      refine wpAny_pyNext_dict_end hh ⟨o, ho, hO⟩ (hat _ _ (hF _ _ hd)) (by simp) fun h' he => ?_
      exact h h' (fun b x hb e => he b x hb e) }
theorem all2_of {α β : Type} {P : α → β → Prop} : ∀ {as : List α} {bs : List β}, as.length = bs.length → (∀ (j : Nat) a, as[j]? = some a → ∃ b, bs[j]? = some b ∧ P a b) → All2 P as bs
  | [], [], _, _ => trivial
  | a :: as, b :: bs, hl, h => by
    obtain ⟨b', h1, h2⟩ := h 0 a rfl
    cases h1
    exact ⟨h2, all2_of (by simpa using hl) fun j a e => by simpa using h (j + 1) a (by simpa using e)⟩
theorem list_dict {d : Addr} {od : Obj} {kvs : List (Str × Value)} {Q : Value → Shared → Prop} (S : St w s₀ g₀ X L m c g s) (hh : A.handled = none) (hd : s.heap.get? d = some od) (D : DictObj prog w od kvs) (hm : (d == sysModules) = false) (hn : kvs.length ≤ 1000)
    (h : ∀ r vs g' s', Le g g' → St w s₀ g₀ X L m c g' s' → LstAt g' r vs → All2 (fun v (p : Str × Value) => ∃ t, v = .str p.1 t) vs kvs → Q (.ref r) s') : wpAny (model prog w) A (call (.type "list") [.ref d]) Q E s := by
  obtain ⟨es, ep, hdat, hat⟩ := D.at
  refine withSize (kdl_call (kdl_dict (knd := strKind prog w) (kvs := kvs) (ep := ep) hm) hh (hat _ _ hd) (by rw [sizeLine_eq]; omega) fun h' tk acc' c' hk hD hacc hz => ?_)
  have S1 := S.extK (t := tk) hk hz
  have hnone : g s.heap.objs.size = none := S.none_at (get_size _)
  have S2 : St w s₀ g₀ X L m ((s.heap.objs.size, lst acc'.toList c') :: c) g { s with heap := h', toks := tk } := by
    refine { S1 with cc := fun p hp => ?_, nd := ?_ }
    · rcases List.mem_cons.mp hp with rfl | hp
      · exact ⟨by simpa using hD, Nat.ne_of_gt S.lt, hnone, .inl S.size⟩
      · exact S1.cc p hp
    · rw [List.map_cons, List.nodup_cons]
      refine ⟨fun hmm => ?_, S1.nd⟩
      obtain ⟨p, hp, e⟩ := List.mem_map.mp hmm
      have := Heap.lt_size (S.cc p hp).1
      rw [e] at this
      exact Nat.lt_irrefl _ this
  refine h _ acc'.toList _ _ (Mem.le_put hnone) (S2.freezeN S.size) ⟨_, Mem.put_self .., lst_is _ _⟩ ?_
  refine all2_of (by rw [Array.length_toList]; exact hacc.1) fun j v e => ?_
  obtain ⟨k, x, hx, hk⟩ := hacc.2 j v (by rw [← Array.getElem?_toList]; exact e)
  obtain ⟨t, rfl⟩ := Value.isStrOf_shape hk
  exact ⟨_, hx, t, rfl⟩
end
end

section
local macro_rules | `(tactic| walk_at "lk") => `(tactic| first | with_reducible assumption | with_reducible exact up_self _ _ _ | with_reducible exact up_get (by with_unfolding_all decide) (by walk_at "lk") | with_unfolding_all rfl)
local macro_rules | `(tactic| walk_at "g") => `(tactic| with_reducible first
  | refine s_assign ?_
  | refine s_setattr ?_
  | refine s_setitem ?_
  | refine s_assign2 ?_
  | refine s_ret ?_
  | refine s_if1 ?_
  | refine s_if ?_
  | refine s_for ?_
  | refine s_aug ?_
  | refine s_expr ?_
  | refine s_nil ?_
  | refine s_continue ?_
  | refine s_break ?_
  | refine t_cmp ?_
  | refine t_not ?_
  | refine t_or ?_
  | refine t_or1 ?_
  | refine t_and ?_
  | refine t_and1 ?_
  | refine e_or ?_
  | refine e_and ?_
  | refine e_bool1 ?_
  | refine e_attr ?_
  | refine GM.isupper ?_
  | refine GM.split ?_
  | refine GM.join ?_
  | refine GM.endswith ?_
  | refine endswith1 ?_
  | refine e_mcall ?_
  | refine e_call ?_
  | refine e_sub ?_
  | refine e_bin ?_
  | refine e_ite ?_
  | refine s_assert ?_
  | refine e_neg ?_
  | (refine neg_i (by assumption) ?_; intro _ _ _)
  | refine e_cmp ?_
  | refine e_slice_sn ?_
  | refine e_slice_ns ?_
  | refine e_slice_ss ?_
  | refine a_nil ?_
  | refine a_cons ?_
  | refine c_type ?_
  | refine c_builtin ?_
  | refine c_meth ?_
  | refine c_builtin0 ?_
  | (refine cint (by assumption) ?_; intro _ _ _)
  | (refine cstr (by assumption) ?_; intro _ _ _)
  | refine wpAny_Constant_none ?_
  | refine wpAny_Constant_bool ?_
  | refine ldl (by assumption) (by walk_at "lk") ?_
  | refine ldlN (by assumption) (by walk_at "lk") ?_
  | refine ldn (by assumption) (by with_unfolding_all rfl) ?_
  | (refine stl (by assumption) ?_; intro _ _)
  | (refine max2 (by assumption) (by with_unfolding_all assumption) ?_; intro _ _ _)
  | (refine min2 (by assumption) (by with_unfolding_all assumption) ?_; intro _ _ _)
  | (refine Mine.sub_int (by assumption) ?_; intro _ _ _)
  | (refine Mine.add_int (by assumption) ?_; intro _ _ _)
  | (refine Mine.mod_pos (by assumption) (by omega) ?_; intro _ _ _)
  | (refine Mine.div_pos (by assumption) (by omega) (by omega) ?_; intro _ _ _)
  | (refine Mine.len_str (by assumption) (by omega) ?_; intro _ _ _)
  | refine gm_append (by assumption) (by with_unfolding_all k_mem) ?_
  | (refine append0 (by assumption) (by omega) ?_; intro _ _ _)
  | (refine append1 (by assumption) (by omega) ?_; intro _ _ _)
  | (refine append2 (by assumption) (by omega) ?_; intro _ _ _)
  | refine e_tup ?_
  | refine e_listF ?_
  | refine eqI ?_
  | refine geI ?_
  | refine leI ?_
  | refine gtI ?_
  | refine eqS ?_
  | refine isNone ?_
  | refine isntNone ?_
  | refine And.intro rfl ?_
  | refine wpAny_truthy_bool ?_
  | refine t_val ?_)
local macro_rules | `(tactic| walk_at "gg") => `(tactic| repeat' (first | walk_at "g" | dsimp only))
local macro_rules | `(tactic| walk_at "h") => `(tactic| with_reducible first
  | refine s_assign ?_
  | refine s_setattr ?_
  | refine s_setitem ?_
  | refine s_assign2 ?_
  | refine s_ret ?_
  | refine s_if1 ?_
  | refine s_if ?_
  | refine s_for ?_
  | refine s_aug ?_
  | refine s_expr ?_
  | refine s_nil ?_
  | refine s_continue ?_
  | refine s_break ?_
  | refine e_or ?_
  | refine e_and ?_
  | refine e_bool1 ?_
  | refine e_attr ?_
  | refine GM.isupper ?_
  | refine GM.split ?_
  | refine GM.join ?_
  | refine GM.endswith ?_
  | refine endswith1 ?_
  | refine e_mcall ?_
  | refine e_call ?_
  | refine e_sub ?_
  | refine e_bin ?_
  | refine e_ite ?_
  | refine s_assert ?_
  | refine e_neg ?_
  | (refine neg_i (by assumption) ?_; intro _ _ _)
  | refine e_cmp ?_
  | refine e_slice_sn ?_
  | refine e_slice_ns ?_
  | refine e_slice_ss ?_
  | refine a_nil ?_
  | refine a_cons ?_
  | refine c_type ?_
  | refine c_builtin ?_
  | refine c_meth ?_
  | refine c_builtin0 ?_
  | (refine cint (by assumption) ?_; intro _ _ _)
  | (refine cstr (by assumption) ?_; intro _ _ _)
  | refine wpAny_Constant_none ?_
  | refine wpAny_Constant_bool ?_
  | refine ldl (by assumption) (by walk_at "lk") ?_
  | refine ldlN (by assumption) (by walk_at "lk") ?_
  | refine ldn (by assumption) (by with_unfolding_all rfl) ?_
  | (refine stl (by assumption) ?_; intro _ _)
  | (refine max2 (by assumption) (by with_unfolding_all assumption) ?_; intro _ _ _)
  | (refine min2 (by assumption) (by with_unfolding_all assumption) ?_; intro _ _ _)
  | (refine Mine.sub_int (by assumption) ?_; intro _ _ _)
  | (refine Mine.add_int (by assumption) ?_; intro _ _ _)
  | (refine Mine.mod_pos (by assumption) (by omega) ?_; intro _ _ _)
  | (refine Mine.div_pos (by assumption) (by omega) (by omega) ?_; intro _ _ _)
  | (refine Mine.len_str (by assumption) (by omega) ?_; intro _ _ _)
  | refine gm_append (by assumption) (by with_unfolding_all k_mem) ?_
  | (refine append0 (by assumption) (by omega) ?_; intro _ _ _)
  | (refine append1 (by assumption) (by omega) ?_; intro _ _ _)
  | (refine append2 (by assumption) (by omega) ?_; intro _ _ _)
  | refine e_tup ?_
  | refine e_listF ?_
  | refine eqI ?_
  | refine geI ?_
  | refine leI ?_
  | refine gtI ?_
  | refine eqS ?_
  | refine isNone ?_
  | refine isntNone ?_
  | refine And.intro rfl ?_
  | refine wpAny_truthy_bool ?_)
local macro_rules | `(tactic| walk_at "hh") => `(tactic| repeat' (first | walk_at "h" | dsimp only))

-- PART F10 --
section
open PySem PySem.W PySem.Calls PyProof.Rows
def IsDflt (g : Mem) (v : Value) (sv : Value) : Prop := ∃ a dx od, v = .ref a ∧ InstG g a 461 dx od ∧ NsO 1 od (up (fun _ => none) "state" sv)
theorem IsDflt.mono {g g' : Mem} {v sv : Value} (h : IsDflt g v sv) (k : Le g g') : IsDflt g' v sv := let ⟨a, dx, od, h1, h2, h3⟩ := h; ⟨a, dx, od, h1, h2.mono k, h3⟩
def IsPs (g : Mem) (v : Value) (pos : Nat) : Prop := ∃ a dx od t u, v = .ref a ∧ InstG g a 440 dx od ∧ NsO 2 od (up (up (fun _ => none) "_text" (.str (S []) u)) "_start" (.int (pos : Int) t))
theorem IsPs.mono {g g' : Mem} {v : Value} {pos : Nat} (h : IsPs g v pos) (k : Le g g') : IsPs g' v pos := let ⟨a, dx, od, t, u, h1, h2, h3⟩ := h; ⟨a, dx, od, t, u, h1, h2.mono k, h3⟩
section
variable {prog : Program} {w : World} {A : Around} {s : Shared} {g : Mem}
theorem dflt_new (hr : Room A 1) (B : Base w g) (hg : Le g s.heap.get?) {sv : Value}
    {R : Result → Shared → Prop} (h : ∀ v s' g', Post [] s g s' g' → IsDflt g' v sv → R (.ok (.ret v)) s') :
    codeAny (model prog w) A (.call (.ref 461) ⟨[sv], []⟩) R s := by
  refine make (fI := 458) (fun x => [("self", x), ("state", sv)]) B hg (by kernel_rfl) (by kernel_rfl) (by kernel_rfl) rfl (by kernel_rfl) (by have := hr.dp; omega) (fun x s' _ => BindsTo.of_eq rfl) (fun x => rfl) (by decide) fun dx t L s₁ hdx hle S₁ => ?_
  have hx : (g.put (dx + 1) (instObj 461 dx)) (dx + 1) = some (instObj 461 dx) := Mem.put_self ..
  walk_at "gg"
  refine set_field (by assumption) (St.gg (by assumption) _ _ hx) .nil (by omega) (by kernel_rfl) (by kernel_rfl) (by kernel_rfl) (by kernel_rfl) ?_; intro od s₃ N S₃
  walk_at "gg"
  obtain ⟨P, I, hle₂⟩ := made_end hg hdx S₃
  exact h _ _ _ P ⟨dx + 1, dx, od, rfl, I, N⟩
theorem ps_new (hr : Room A 1) (B : Base w g) (hg : Le g s.heap.get?) {pos : Nat} {t u : Tok}
    {R : Result → Shared → Prop} (h : ∀ v s' g', Post [] s g s' g' → IsPs g' v pos → R (.ok (.ret v)) s') :
    codeAny (model prog w) A (.call (.ref 440) ⟨[.int (pos : Int) t, .str (S []) u], []⟩) R s := by
  refine make (fI := 399) (fun x => [("self", x), ("start", .int (pos : Int) t), ("text", .str (S []) u)]) B hg (by kernel_rfl) (by kernel_rfl) (by kernel_rfl) rfl (by kernel_rfl) (by have := hr.dp; omega) (fun x s' _ => BindsTo.of_eq rfl) (fun x => rfl) (by decide) fun dx tk L s₁ hdx hle S₁ => ?_
  have hx : (g.put (dx + 1) (instObj 440 dx)) (dx + 1) = some (instObj 440 dx) := Mem.put_self ..
  walk_at "gg"
  refine set_field (by assumption) (St.gg (by assumption) _ _ hx) .nil (by omega) (by kernel_rfl) (by kernel_rfl) (by kernel_rfl) (by kernel_rfl) ?_; intro od s₃ N S₃
  walk_at "gg"
  refine set_field (by assumption) (St.gg (by assumption) _ _ hx) N (by omega) (by kernel_rfl) (by kernel_rfl) (by kernel_rfl) (by kernel_rfl) ?_; intro od₄ s₄ N₄ S₄
  walk_at "gg"
  obtain ⟨P, I, hle₂⟩ := made_end hg hdx S₄
  exact h _ _ _ P ⟨dx + 1, dx, od₄, t, u, rfl, I, N₄⟩
theorem nothing_spec (hr : Room A 2) (B : Base w g) (hg : Le g s.heap.get?) {tv epv : Value} {u : Tok} {pos : Nat} {args : List Value}
    (ha : (args = [tv, .int (pos : Int) u] ∧ epv = .none) ∨ args = [tv, .int (pos : Int) u, epv])
    {R : Result → Shared → Prop} (h : ∀ mv s' g', Post [] s g s' g' → IsPs g' mv pos → R (.ok (.ret mv)) s') :
    codeAny (model prog w) A (.call (.ref 502) ⟨args, []⟩) R s := by
  refine callF (g := g) [("text", tv), ("pos", .int (pos : Int) u), ("endpos", epv)] B hg (f := 502) rfl (by kernel_rfl) hr.lt (by
    rcases ha with ⟨rfl, rfl⟩ | rfl
    · exact binds_K (B.mono hg).K rfl rfl rfl rfl rfl
    · exact binds_K (B.mono hg).K rfl rfl rfl rfl rfl) rfl (by decide) fun L s₁ S₁ => ?_
  have hh := hr.hd
  walk_at "gg"
  refine c_fn (by assumption) (by kernel_rfl) ?_
  walk_at "gg"
  refine St.kinH (by assumption) ?_
  rw [str_nil]
  refine wpAny_call (ps_new (hr.deeper _) (St.baseG (by assumption)) (St.gg (by assumption)) ?_)
  intro mv s₂ g₂ P₂ K₂
  have S₂ := St.after (by assumption) P₂
  walk_at "gg"
  exact h mv _ g₂ S₂.post K₂
theorem ps_end (hr : Room A 1) (B : Base w g) (hg : Le g s.heap.get?) {v : Value} {pos : Nat} (K : IsPs g v pos)
    {R : Result → Shared → Prop} (h : ∀ t s', Post [] s g s' g → R (.ok (.ret (.int (pos : Int) t))) s') :
    codeAny (model prog w) A (.call (.ref 415) ⟨[v], []⟩) R s := by
  obtain ⟨a, dx, od, t, u, rfl, I, N⟩ := K
  refine callF (g := g) [("self", .ref a), ("arg", .none)] B hg (f := 415) rfl (by kernel_rfl) hr.lt (binds_K (B.mono hg).K rfl rfl rfl rfl rfl) rfl (by decide) fun L s₁ S₁ => ?_
  have hh := hr.hd
  walk_at "gg"
  refine get_field (v := .int (pos : Int) t) (by assumption) (I.mono (St.gg (by assumption))) (by kernel_rfl) (by kernel_rfl) (by kernel_rfl) ((N.look "_start").trans (congrArg some (up_self _ _ _))) rfl ?_; intro s₂ S₂
  walk_at "gg"
  refine get_field (v := .str (S []) u) (by assumption) (I.mono (St.gg (by assumption))) (by kernel_rfl) (by kernel_rfl) (by kernel_rfl) ((N.look "_text").trans (congrArg some ((up_ne _ (by decide)).trans (up_self _ _ _)))) rfl ?_; intro s₃ S₃
  refine a_nil ?_
  refine len_str (l := []) (by assumption) (by simp) ?_; intro t₄ s₄ S₄
  walk_at "gg"
  rename_i t₅ s₅ S₅
  have h' := h t₅ s₅ (S₅.post.of_same hg)
  have e : ((pos : Int) + (([] : T).length : Nat)) = (pos : Int) := by simp
  rw [e]
  exact h'
end
end

end

-- PART B19 --
section
open PySem PySem.W PySem.Calls PyProof.Rows
section
variable {M : Model} {prog : Program} {w : World} {A : Around} {E : Value → Shared → Prop} {R : Result → Shared → Prop} {s₀ s s' : Shared} {g₀ g g' : Mem} {X : List Addr} {L : Addr} {m : Str → Option Value} {c : List (Addr × Obj)} {env : Env}
theorem it_str {l : T} {t : Tok} {Q : Value → Shared → Prop} (S : St w s₀ g₀ X L m c g s) (hh : A.handled = none) (ha : l.all (· < 128) = true)
    (h : ∀ it o s' (O : Nat → Obj → Prop), St w s₀ g₀ X L m ((it, o) :: c) g s' → O 0 o → Iter prog w A it l.length (fun _ => none) O (fun i v => ∃ ch u, l[i]? = some ch ∧ v = .str (Mine.S [ch]) u) → Q (.ref it) s') :
    wpAny (model prog w) A (pyIter (.str (Mine.S l) t)) Q E s := by
  refine wpAny_pyIter_ascii (by rw [S_cps]; simpa using ha) ?_
  refine h _ _ _ (fun i o => o.cls = .type "str_ascii_iterator" ∧ o.data = .fields #[.str (Mine.S l) t, .int i 0]) (S.pushC _ s.toks) ⟨rfl, rfl⟩ ?_
  exact {
    item := fun {E Q s i o} hi hF ho hO h => by
      refine wpAny_pyNext_ascii_item (c := l[i]) ⟨o, ho, hO⟩ (by rw [S_cps]; simp [hi]) fun h' hit hs => ?_
      obtain ⟨o', h1, h2⟩ := hit
      exact h _ h' _ o' ⟨l[i], _, by simp [hi], rfl⟩ h1 h2 (fun b x hb e => (hs.2 b hb).trans e)
    done := fun {E Q s o} hF ho hO h => by
      refine wpAny_pyNext_ascii_end hh ⟨o, ho, hO⟩ (by rw [S_cps]; simp) fun h' he => ?_
      exact h h' (fun b x hb e => he b x hb e) }
theorem for_iter {x : Str} {px : Pos} {body orelse : List Stmt} {it : Addr} {o : Obj} {n : Nat} {O : Nat → Obj → Prop} {V : Nat → Value → Prop} {Fz : Mem} {Q : Flow → Shared → Prop} {E0 : Value → Shared → Prop}
    (S : St w s₀ g₀ X L m ((it, o) :: c) g s) (hO : O 0 o) (hFz : Le Fz g) (I : Iter prog w A it n Fz O V)
    (Inv : Nat → Mem → (Str → Option Value) → List (Addr × Obj) → Prop) (h0 : Inv 0 g m c)
    (turn : ∀ i g' m' c' s' o v E', i < n → V i v → Le g g' → Inv i g' m' c' → St w s₀ g₀ X L (up m' x v) ((it, o) :: c') g' s' →
      wpAny (model prog w) A (execs body env) (fun f s₃ => match f with
        | .next | .cont => ∃ g'' m'' c'', Le g g'' ∧ St w s₀ g₀ X L m'' ((it, o) :: c'') g'' s₃ ∧ Inv (i + 1) g'' m'' c''
        | .brk => Q .next s₃
        | .ret v => Q (.ret v) s₃) E' s')
    (done : ∀ g' m' c' s' E', Le g g' → Inv n g' m' c' → St w s₀ g₀ X L m' c' g' s' → wpAny (model prog w) A (execs orelse env) Q E' s')
    (hL : env.locals = L := by with_unfolding_all rfl) (hk : env.scope.kind = .function := by with_unfolding_all rfl) (hl : env.kindOf x = some .local := by with_unfolding_all rfl) :
    codeAny (model prog w) A (.forLoop (.Name x px) (.ref it) body orelse env) (fun r s' => match r with | .ok f => Q f s' | .error e => E0 e s') s := by
  refine loopN S hO hFz I Inv h0 (fun i g' m' c' s' o v E' h1 h2 h3 h4 h5 h6 => ?_) done hL hk hl
  refine wpAny_mono (turn i g' m' c' s' o v E' h1 h2 h3 h4 h5) (fun f s₃ h₃ => ?_) fun _ _ x => x
  cases f with
  | next => obtain ⟨g₃, m₃, c₃, a₁, b₁, d₁⟩ := h₃; exact ⟨g₃, m₃, c₃, _, a₁, b₁, h6, d₁⟩
  | cont => obtain ⟨g₃, m₃, c₃, a₁, b₁, d₁⟩ := h₃; exact ⟨g₃, m₃, c₃, _, a₁, b₁, h6, d₁⟩
  | brk => exact h₃
  | ret v => exact h₃
theorem wp_mid {α : Type} {t : Sem α} {Q : α → Shared → Prop} (P : α → Shared → Prop) (h1 : wpAny M A t P E s) (h2 : ∀ v s', P v s' → Q v s') : wpAny M A t Q E s := wpAny_mono h1 h2 fun _ _ x => x
theorem s_setitem {o i value : Expr} {p pos : Pos} {rest : List Stmt} {Q : Flow → Shared → Prop}
    (h : wpAny M A (eval value env) (fun v s₁ => wpAny M A (eval o env) (fun ov s₂ => wpAny M A (eval i env) (fun iv s₃ =>
      wpAny M A (setItem ov iv v) (fun _ s₄ => wpAny M A (execs rest env) Q E s₄) E s₃) E s₂) E s₁) E s)
    (hs : swapsWith value (some (.Subscript o i p)) pos.line env = pure false := by with_unfolding_all rfl) :
    wpAny M A (execs (.Assign [.Subscript o i p] value pos :: rest) env) Q E s := wpAny_execs_cons (wpAny_Assign_Subscript h hs)
end
end

section
local macro_rules | `(tactic| walk_at "lk") => `(tactic| first | with_reducible assumption | with_reducible exact up_self _ _ _ | with_reducible exact up_get (by with_unfolding_all decide) (by walk_at "lk") | with_unfolding_all rfl)
local macro_rules | `(tactic| walk_at "g") => `(tactic| with_reducible first
  | refine s_assign ?_
  | refine s_setattr ?_
  | refine s_setitem ?_
  | refine s_assign2 ?_
  | refine s_ret ?_
  | refine s_if1 ?_
  | refine s_if ?_
  | refine s_for ?_
  | refine s_aug ?_
  | refine s_expr ?_
  | refine s_nil ?_
  | refine s_continue ?_
  | refine s_break ?_
  | refine t_cmp ?_
  | refine t_not ?_
  | refine t_or ?_
  | refine t_or1 ?_
  | refine t_and ?_
  | refine t_and1 ?_
  | refine e_or ?_
  | refine e_and ?_
  | refine e_bool1 ?_
  | refine e_attr ?_
  | refine GM.isupper ?_
  | refine GM.split ?_
  | refine GM.join ?_
  | refine GM.endswith ?_
  | refine endswith1 ?_
  | refine e_mcall ?_
  | refine e_call ?_
  | refine e_sub ?_
  | refine e_bin ?_
  | refine e_ite ?_
  | refine s_assert ?_
  | refine e_neg ?_
  | (refine neg_i (by assumption) ?_; intro _ _ _)
  | refine e_cmp ?_
  | refine e_slice_sn ?_
  | refine e_slice_ns ?_
  | refine e_slice_ss ?_
  | refine a_nil ?_
  | refine a_cons ?_
  | refine c_type ?_
  | refine c_builtin ?_
  | refine c_meth ?_
  | refine c_builtin0 ?_
  | (refine cint (by assumption) ?_; intro _ _ _)
  | (refine cstr (by assumption) ?_; intro _ _ _)
  | refine wpAny_Constant_none ?_
  | refine wpAny_Constant_bool ?_
  | refine ldl (by assumption) (by walk_at "lk") ?_
  | refine ldlN (by assumption) (by walk_at "lk") ?_
  | refine ldn (by assumption) (by with_unfolding_all rfl) ?_
  | (refine stl (by assumption) ?_; intro _ _)
  | (refine max2 (by assumption) (by with_unfolding_all assumption) ?_; intro _ _ _)
  | (refine min2 (by assumption) (by with_unfolding_all assumption) ?_; intro _ _ _)
  | (refine Mine.sub_int (by assumption) ?_; intro _ _ _)
  | (refine Mine.add_int (by assumption) ?_; intro _ _ _)
  | (refine Mine.mod_pos (by assumption) (by omega) ?_; intro _ _ _)
  | (refine Mine.div_pos (by assumption) (by omega) (by omega) ?_; intro _ _ _)
  | (refine Mine.len_str (by assumption) (by omega) ?_; intro _ _ _)
  | refine gm_append (by assumption) (by with_unfolding_all k_mem) ?_
  | (refine append0 (by assumption) (by omega) ?_; intro _ _ _)
  | (refine append1 (by assumption) (by omega) ?_; intro _ _ _)
  | (refine append2 (by assumption) (by omega) ?_; intro _ _ _)
  | refine e_tup ?_
  | refine e_listF ?_
  | refine eqI ?_
  | refine geI ?_
  | refine leI ?_
  | refine gtI ?_
  | refine eqS ?_
  | refine isNone ?_
  | refine isntNone ?_
  | refine And.intro rfl ?_
  | refine wpAny_truthy_bool ?_
  | refine t_val ?_)
local macro_rules | `(tactic| walk_at "gg") => `(tactic| repeat' (first | walk_at "g" | dsimp only))
local macro_rules | `(tactic| walk_at "h") => `(tactic| with_reducible first
  | refine s_assign ?_
  | refine s_setattr ?_
  | refine s_setitem ?_
  | refine s_assign2 ?_
  | refine s_ret ?_
  | refine s_if1 ?_
  | refine s_if ?_
  | refine s_for ?_
  | refine s_aug ?_
  | refine s_expr ?_
  | refine s_nil ?_
  | refine s_continue ?_
  | refine s_break ?_
  | refine e_or ?_
  | refine e_and ?_
  | refine e_bool1 ?_
  | refine e_attr ?_
  | refine GM.isupper ?_
  | refine GM.split ?_
  | refine GM.join ?_
  | refine GM.endswith ?_
  | refine endswith1 ?_
  | refine e_mcall ?_
  | refine e_call ?_
  | refine e_sub ?_
  | refine e_bin ?_
  | refine e_ite ?_
  | refine s_assert ?_
  | refine e_neg ?_
  | (refine neg_i (by assumption) ?_; intro _ _ _)
  | refine e_cmp ?_
  | refine e_slice_sn ?_
  | refine e_slice_ns ?_
  | refine e_slice_ss ?_
  | refine a_nil ?_
  | refine a_cons ?_
  | refine c_type ?_
  | refine c_builtin ?_
  | refine c_meth ?_
  | refine c_builtin0 ?_
  | (refine cint (by assumption) ?_; intro _ _ _)
  | (refine cstr (by assumption) ?_; intro _ _ _)
  | refine wpAny_Constant_none ?_
  | refine wpAny_Constant_bool ?_
  | refine ldl (by assumption) (by walk_at "lk") ?_
  | refine ldlN (by assumption) (by walk_at "lk") ?_
  | refine ldn (by assumption) (by with_unfolding_all rfl) ?_
  | (refine stl (by assumption) ?_; intro _ _)
  | (refine max2 (by assumption) (by with_unfolding_all assumption) ?_; intro _ _ _)
  | (refine min2 (by assumption) (by with_unfolding_all assumption) ?_; intro _ _ _)
  | (refine Mine.sub_int (by assumption) ?_; intro _ _ _)
  | (refine Mine.add_int (by assumption) ?_; intro _ _ _)
  | (refine Mine.mod_pos (by assumption) (by omega) ?_; intro _ _ _)
  | (refine Mine.div_pos (by assumption) (by omega) (by omega) ?_; intro _ _ _)
  | (refine Mine.len_str (by assumption) (by omega) ?_; intro _ _ _)
  | refine gm_append (by assumption) (by with_unfolding_all k_mem) ?_
  | (refine append0 (by assumption) (by omega) ?_; intro _ _ _)
  | (refine append1 (by assumption) (by omega) ?_; intro _ _ _)
  | (refine append2 (by assumption) (by omega) ?_; intro _ _ _)
  | refine e_tup ?_
  | refine e_listF ?_
  | refine eqI ?_
  | refine geI ?_
  | refine leI ?_
  | refine gtI ?_
  | refine eqS ?_
  | refine isNone ?_
  | refine isntNone ?_
  | refine And.intro rfl ?_
  | refine wpAny_truthy_bool ?_)
local macro_rules | `(tactic| walk_at "hh") => `(tactic| repeat' (first | walk_at "h" | dsimp only))

-- PART F11 --
section
open PySem PySem.W PySem.Calls PyProof.Rows
def IsKinds (prog : Program) (w : World) (g : Mem) (kd : Addr) (ks : List (T × List T)) : Prop :=
  ∃ od kvs, g kd = some od ∧ DictObj prog w od kvs ∧ All2 (fun (p : Str × Value) (k : T × List T) => p.1 = S k.1 ∧ IsTok g p.2 k.2) kvs ks ∧ (kd == sysModules) = false
theorem IsKinds.mono {prog : Program} {w : World} {g g' : Mem} {kd : Addr} {ks : List (T × List T)} (h : IsKinds prog w g kd ks) (k : Le g g') : IsKinds prog w g' kd ks :=
  let ⟨od, kvs, h1, h2, h3, h4⟩ := h; ⟨od, kvs, k _ _ h1, h2, h3.mono fun _ _ x => ⟨x.1, x.2.mono k⟩, h4⟩
def nmOf (ks : List (T × List T)) (x : T) : Option (List T) := (ks.find? fun k => k.1 = x).map (·.2)
def hasT (ks : List (T × List T)) (x : T) : Bool := (nmOf ks x).isSome
theorem kinds_get {g : Mem} : ∀ {kvs : List (Str × Value)} {ks : List (T × List T)}, All2 (fun (p : Str × Value) (k : T × List T) => p.1 = S k.1 ∧ IsTok g p.2 k.2) kvs ks → ∀ x : T,
    match nmOf ks x with | some nm => ∃ v, valueAt kvs (S x) = some v ∧ IsTok g v nm | none => valueAt kvs (S x) = none
  | [], [], _, x => rfl
  | p :: kvs, k :: ks, h, x => by
    have ih := kinds_get h.2 x
    unfold nmOf valueAt at *
    by_cases q : k.1 = x
    · have q' : p.1 = S x := by rw [h.1.1, q]
      simp only [List.find?_cons, q, q', decide_true, Option.map_some]
      exact ⟨_, rfl, h.1.2⟩
    · have q' : ¬ p.1 = S x := fun e => q (S_inj.mp (h.1.1.symm.trans e))
      simp only [List.find?_cons, q, q', decide_false]
      exact ih
theorem hasK_T {g : Mem} {kvs : List (Str × Value)} {ks : List (T × List T)} (h : All2 (fun (p : Str × Value) (k : T × List T) => p.1 = S k.1 ∧ IsTok g p.2 k.2) kvs ks) : hasK kvs = hasT ks := by
  funext x
  have := kinds_get h x
  unfold hasK hasT
  cases e : nmOf ks x with
  | none => rw [e] at this; rw [this]; rfl
  | some nm => rw [e] at this; obtain ⟨v, h1, _⟩ := this; rw [h1]; rfl
inductive Rule where
  | step (c : Nat) (x : T) (nm : List T)
  | text
  | fall (lower : T)
def tPop : T := [35, 112, 111, 112]
theorem str_pop : Str.ofString "#pop" = S tPop := by decide +kernel
def IsMove (g : Mem) (v : Value) (lower : T) : Prop := if lower = [] then IsT v tPop else IsTs g v [tPop, 113 :: lower]
def IsRule (g : Mem) : Bool → Value → Rule → Prop
  | _, v, .step c x nm => ∃ a pv tv mv, v = .ref a ∧ TupAt g a [pv, tv, mv] ∧ IsPlain g pv [[[c]]] ∧ IsTok g tv nm ∧ IsTs g mv [tPop, 113 :: x]
  | _, v, .text => ∃ a pv, v = .ref a ∧ TupAt g a [pv, .ref 93] ∧ IsPlain g pv [[[97]], [[98]], [[99]]]
  | true, v, .fall lower => ∃ a pv mv, v = .ref a ∧ TupAt g a [pv, .ref 101, mv] ∧ IsPlain g pv [[[]]] ∧ IsMove g mv lower
  | false, v, .fall lower => ∃ mv, IsDflt g v mv ∧ IsMove g mv lower
theorem IsMove.mono {g g' : Mem} {v : Value} {lower : T} (h : IsMove g v lower) (k : Le g g') : IsMove g' v lower := by
  unfold IsMove at *; split <;> rename_i q
  · rw [if_pos q] at h; exact h
  · rw [if_neg q] at h; exact h.mono k
theorem IsRule.mono {g g' : Mem} {v : Value} (k : Le g g') : ∀ {loud : Bool} {r : Rule}, IsRule g loud v r → IsRule g' loud v r
  | _, .step c x nm, h => by
    obtain ⟨a, pv, tv, mv, h1, h2, h3, h4, h5⟩ := h
    exact ⟨a, pv, tv, mv, h1, h2.mono k, h3.mono k, h4.mono k, h5.mono k⟩
  | _, .text, h => by
    obtain ⟨a, pv, h1, h2, h3⟩ := h
    exact ⟨a, pv, h1, h2.mono k, h3.mono k⟩
  | true, .fall lower, h => by
    obtain ⟨a, pv, mv, h1, h2, h3, h4⟩ := h
    exact ⟨a, pv, mv, h1, h2.mono k, h3.mono k, h4.mono k⟩
  | false, .fall lower, h => by
    obtain ⟨mv, h1, h2⟩ := h
    exact ⟨mv, h1.mono k, h2.mono k⟩
def stepsOf (ks : List (T × List T)) (head : T) (cs : List Nat) : List Rule := cs.filterMap fun c => (nmOf ks (head ++ [c])).map fun nm => .step c (head ++ [c]) nm
def rulesOf (ks : List (T × List T)) (head : T) : List Rule := stepsOf ks head [97, 98, 99] ++ [if head = [] then .text else .fall (longest (hasT ks) (head.drop 1))]
def tRoot : T := [114, 111, 111, 116]
theorem str_root : Str.ofString "root" = S tRoot := by decide +kernel
theorem str_a : Str.ofString "a" = S [97] := by decide +kernel
theorem str_b : Str.ofString "b" = S [98] := by decide +kernel
theorem str_c : Str.ofString "c" = S [99] := by decide +kernel
theorem str_q : Str.ofString "q" = S [113] := by decide +kernel
def IsRules (g : Mem) (loud : Bool) (v : Value) (rs : List Rule) : Prop := ∃ la vs, v = .ref la ∧ LstAt g la vs ∧ All2 (IsRule g loud) vs rs
theorem IsRules.mono {g g' : Mem} {loud : Bool} {v : Value} {rs : List Rule} (h : IsRules g loud v rs) (k : Le g g') : IsRules g' loud v rs :=
  let ⟨la, vs, h1, h2, h3⟩ := h; ⟨la, vs, h1, h2.mono k, h3.mono fun _ _ x => x.mono k⟩
def tableOf (ks : List (T × List T)) (i : Nat) : List (T × List Rule) := (tRoot, if i = 0 then [] else rulesOf ks []) :: ((ks.take i).drop 1).map fun k => (113 :: k.1, rulesOf ks k.1)
def IsTab (prog : Program) (w : World) (g : Mem) (loud : Bool) (td : Addr) (od : Obj) (tb : List (T × List Rule)) : Prop :=
  ∃ kvs, DictObj prog w od kvs ∧ All2 (fun (p : Str × Value) (k : T × List Rule) => p.1 = S k.1 ∧ IsRules g loud p.2 k.2) kvs tb ∧ (td == sysModules) = false
def KsOk (ks : List (T × List T)) : Prop := ks.length ≤ 40 ∧ (ks.map (·.1)).Nodup ∧ (∃ r, ks = ([], [[72, 105, 116]]) :: r) ∧ (∀ k ∈ ks, k.1.length ≤ 4 ∧ (∀ x ∈ k.1, abc x) ∧ 1 ≤ k.2.length ∧ k.2.length ≤ 5) ∧ ∀ k ∈ ks.drop 1, k.1 ≠ []
theorem longest_le (has : T → Bool) (l : T) : (longest has l).length ≤ l.length := by
  unfold longest
  cases e : ((List.range (min 4 l.length)).map fun i => l.drop (l.length - 4 + i)).find? has with
  | none => simp
  | some x =>
    obtain ⟨i, _, rfl⟩ := List.mem_map.mp (List.mem_of_find?_eq_some e)
    simp
theorem table_snoc {ks : List (T × List T)} {i : Nat} {head : T} {nm : List T} (h : ks[i]? = some (head, nm)) (hi : 1 ≤ i) : tableOf ks (i + 1) = tableOf ks i ++ [(113 :: head, rulesOf ks head)] := by
  have hl : i < ks.length := by
    rcases Nat.lt_or_ge i ks.length with q | q
    · exact q
    · rw [List.getElem?_eq_none q] at h; cases h
  unfold tableOf
  rw [if_neg (by omega), if_neg (by omega), List.take_add_one, h, List.drop_append_of_le_length (by rw [List.length_take]; omega)]
  simp
theorem fresh_idx {ks : List (T × List T)} {i j : Nat} {head : T} {nm : List T} {k : T × List T} (hnd : (ks.map (·.1)).Nodup) (h : ks[i]? = some (head, nm)) (hj : j < i) (e : k.1 = head) : ¬ ks[j]? = some k := by
  intro hjk
  have h1 : (ks.map (·.1))[j]? = some head := by rw [List.getElem?_map, hjk]; simp [e]
  have h2 : (ks.map (·.1))[i]? = some head := by rw [List.getElem?_map, h]; rfl
  have hil : i < (ks.map (·.1)).length := by
    rcases Nat.lt_or_ge i (ks.map (·.1)).length with q | q
    · exact q
    · rw [List.getElem?_eq_none q] at h2; cases h2
  have := (List.getElem?_inj (by omega) hnd).mp (h1.trans h2.symm)
  omega
theorem table_fresh {ks : List (T × List T)} {i : Nat} {head : T} {nm : List T} (hnd : (ks.map (·.1)).Nodup) (h : ks[i]? = some (head, nm)) : ∀ p ∈ tableOf ks i, p.1 ≠ 113 :: head := by
  intro p hp
  unfold tableOf at hp
  rcases List.mem_cons.mp hp with rfl | hp
  · simp [tRoot]
  · obtain ⟨k, hk, rfl⟩ := List.mem_map.mp hp
    intro e
    simp only [List.cons.injEq, true_and] at e
    have hk' : k ∈ ks.take i := List.mem_of_mem_drop hk
    obtain ⟨j, hjk⟩ := List.mem_iff_getElem?.mp hk'
    rw [List.getElem?_take] at hjk
    split at hjk
    · rename_i hj
      exact absurd hjk (fresh_idx hnd h hj e)
    · cases hjk
theorem stored_new {kvs : List (Str × Value)} {k : Str} {v : Value} (h : ∀ p ∈ kvs, p.1 ≠ k) : stored kvs k v = kvs ++ [(k, v)] := by
  unfold stored
  rw [if_neg]
  intro q
  obtain ⟨p, hp, e⟩ := List.any_eq_true.mp q
  exact h p hp (by simpa using e)
theorem all2_mem {α β : Type} {P : α → β → Prop} : ∀ {as : List α} {bs : List β}, All2 P as bs → ∀ a ∈ as, ∃ b ∈ bs, P a b
  | a :: as, b :: bs, h, x, hx => by
    rcases List.mem_cons.mp hx with rfl | hx
    · exact ⟨b, List.mem_cons_self .., h.1⟩
    · obtain ⟨y, h1, h2⟩ := all2_mem h.2 x hx; exact ⟨y, List.mem_cons_of_mem _ h1, h2⟩
section
variable {prog : Program} {w : World} {A : Around} {s : Shared} {g : Mem}
theorem table_spec (hr : Room A 4) (B : Base w g) (hg : Le g s.heap.get?) {kd : Addr} {ks : List (T × List T)} {li : Int} {t : Tok} (K : IsKinds prog w g kd ks) (hks : KsOk ks)
    {R : Result → Shared → Prop} (h : ∀ td od s' g', Post [] s g s' g' → g' td = some od → IsTab prog w g' (decide (li ≠ 0)) td od (tableOf ks ks.length) → R (.ok (.ret (.ref td))) s') :
    codeAny (model prog w) A (.call (.ref 792) ⟨[.ref kd, .int li t], []⟩) R s := by
  refine callF (g := g) [("kinds", .ref kd), ("loud", .int li t)] B hg (f := 792) rfl (by kernel_rfl) hr.lt (BindsTo.of_eq rfl) rfl (by decide) fun L s₁ S₁ => ?_
  have hh := hr.hd
  walk_at "gg"
  refine e_dict1 (by assumption) ?_
  intro td od s₂ S₂ htd htl
  walk_at "gg"
  refine wpAny_bind ?_
  walk_at "gg"
  refine e_listN (by assumption) ?_; intro la g₃ s₃ hle₃ S₃ hla
  refine wpAny_bind (wpAny_standAt (wpAny_pure ⟨_, _, g₃, _, [], rfl, S₃, fun od₄ s₄ S₄ D₄ => ?_⟩))
  walk_at "gg"
  obtain ⟨odk, kvs, hkd, Dk, hkv, hkm⟩ := id K
  have hhas := hasK_T hkv
  have hget := kinds_get hkv
  refine it_dict (by assumption) hh (hle₃ _ _ hkd) Dk hkm ?_; intro ith oh s₅ O S₅ hO I
  refine for_iter S₅ hO (Le.refl _) I
    (fun i g' m' c' => (∃ od', c' = [(td, od')] ∧ IsTab prog w g' (decide (li ≠ 0)) td od' (tableOf ks i)) ∧ m' "kinds" = some (.ref kd) ∧ m' "loud" = some (.int li t) ∧ m' "table" = some (.ref td))
    ⟨⟨_, rfl, [(_, .ref la)], D₄, ⟨⟨str_root, la, [], rfl, hla, trivial⟩, by show All2 _ [] (((ks.take 0).drop 1).map _); simp [All2]⟩, htd⟩, by walk_at "lk", by walk_at "lk", by walk_at "lk"⟩ ?_ ?_
  · rintro i g' m' c' s₆ o v E' hi ⟨key, tk, x, hkx, rfl⟩ hle ⟨⟨od', rfl, HT⟩, hm1, hm2, hm3⟩ S₆
    obtain ⟨⟨head, nmh⟩, hks_i, hkey, htok⟩ := All2.get hkv hkx
    dsimp only at hkey htok
    subst hkey
    have hhd : head.length ≤ 4 ∧ (∀ x ∈ head, abc x) ∧ 1 ≤ nmh.length ∧ nmh.length ≤ 5 := hks.2.2.2.1 _ (List.mem_of_getElem? hks_i)
    have hleK := hle₃.trans hle
    walk_at "gg"
    refine e_list0 (by assumption) ?_; intro rl s₇ S₇ hrl
    walk_at "gg"
    rw [str_abc]
    refine it_str (by assumption) hh (by decide) ?_; intro its os s₈ O₈ S₈ hO₈ I₈
    refine for_iter S₈ hO₈ (fun b o e => by simp at e) I₈
      (fun j g'' m'' c'' => Le g' g'' ∧ (∃ us n, c'' = [(rl, lst us n), (ith, o), (td, od')] ∧ All2 (IsRule g'' (decide (li ≠ 0))) us (stepsOf ks head ([97, 98, 99].take j)) ∧ us.length ≤ j) ∧ m'' "kinds" = some (.ref kd) ∧ m'' "loud" = some (.int li t) ∧ m'' "table" = some (.ref td) ∧ m'' "head" = some (.str (S head) tk) ∧ m'' "rules" = some (.ref rl))
      ⟨Le.refl _, ⟨[], 0, rfl, trivial, by simp⟩, by walk_at "lk", by walk_at "lk", by walk_at "lk", by walk_at "lk", by walk_at "lk"⟩ ?_ ?_
    · rintro j g'' m'' c'' s₉ o₉ v E'' hj ⟨ch, uu, hch, rfl⟩ hle₉ ⟨hle', ⟨us, n, rfl, hus, husl⟩, hm1, hm2, hm3, hm4, hm5⟩ S₉
      walk_at "gg"
      refine add_str (by assumption) (by simp; omega) ?_; intro _ s₁₀ S₁₀
      walk_at "gg"
      refine in_dict (by assumption) (St.gg (by assumption) _ _ ((hleK.trans hle') _ _ hkd)) Dk ?_ hkm; intro s₁₁ S₁₁
      walk_at "gg"
      have e1 : (valueAt kvs (S (head ++ [ch]))).isSome = hasT ks (head ++ [ch]) := by rw [← hhas]; rfl
      rw [e1]
      have hg1 := hget (head ++ [ch])
      have hst : ∀ r : Option Rule, r = ((nmOf ks (head ++ [ch])).map fun nm => Rule.step ch (head ++ [ch]) nm) → stepsOf ks head ([97, 98, 99].take (j + 1)) = stepsOf ks head ([97, 98, 99].take j) ++ r.toList := by
        rintro r rfl
        unfold stepsOf
        rw [List.take_add_one, hch, List.filterMap_append]
        cases hq : nmOf ks (head ++ [ch]) <;> simp [hq]
      unfold hasT
      split
      · rename_i hb
        obtain ⟨nm, hnm⟩ := Option.isSome_iff_exists.mp hb
        rw [hnm] at hg1
        obtain ⟨tv, htv, Ktv⟩ := hg1
        walk_at "gg"
        refine c_fn (by assumption) (by kernel_rfl) ?_
        walk_at "gg"
        refine newTup (by assumption) (by simp) ?_; intro pt g₁₂ s₁₂ hle₁₂ S₁₂ hpt
        walk_at "gg"
        refine newLst (by assumption) (by simp) ?_; intro pl g₁₃ s₁₃ hle₁₃ S₁₃ hpl
        walk_at "gg"
        refine St.kinH (by assumption) ?_
        refine wpAny_call (plain_new (rows := [[[ch]]]) ((hr.mono (by omega)).deeper _) (St.baseG (by assumption)) (St.gg (by assumption)) hpl ⟨⟨pt, _, rfl, hpt.mono hle₁₃, ⟨_, rfl⟩, trivial⟩, trivial⟩ ?_)
        intro pv s₁₄ g₁₄ P₁₄ K₁₄
        have S₁₄ := St.after (by assumption) P₁₄
        walk_at "gg"
        refine add_str (by assumption) (by simp; omega) ?_; intro _ s₁₅ S₁₅
        have hle₁₄ := (hle₁₂.trans hle₁₃).trans P₁₄.grow
        refine d_get (by assumption) (St.gg (by assumption) _ _ (((hleK.trans hle').trans hle₁₄) _ _ hkd)) Dk htv ?_; intro s₁₆ S₁₆
        walk_at "gg"
        rw [str_pop, str_q]
        refine add_str (by assumption) (by simp; omega) ?_; intro _ s₁₇ S₁₇
        walk_at "gg"
        refine add_str (by assumption) (by simp; omega) ?_; intro _ s₁₈ S₁₈
        walk_at "gg"
        refine newTup (by assumption) (by simp) ?_; intro mv g₁₉ s₁₉ hle₁₉ S₁₉ hmv
        walk_at "gg"
        refine newTup (by assumption) (by simp) ?_; intro rv g₂₀ s₂₀ hle₂₀ S₂₀ hrv
        walk_at "gg"
        have hj3 : j < 3 := hj
        refine append1 (by assumption) (by omega) ?_; intro n₂₁ s₂₁ S₂₁
        walk_at "gg"
        have hle₂ := (hle₁₄.trans hle₁₉).trans hle₂₀
        refine ⟨g₂₀, _, _, hle₉.trans hle₂, by assumption, hle'.trans hle₂, ⟨us ++ [.ref rv], _, rfl, ?_, by simp; omega⟩, by walk_at "lk", by walk_at "lk", by walk_at "lk", by walk_at "lk", by walk_at "lk"⟩
        rw [hst (some (.step ch (head ++ [ch]) nm)) (by rw [hnm]; rfl)]
        refine All2.snoc ?_ (hus.mono fun _ _ x => x.mono hle₂)
        exact ⟨rv, pv, tv, .ref mv, rfl, hrv, K₁₄.mono (hle₁₉.trans hle₂₀), Ktv.mono (hleK.trans (hle'.trans hle₂)), mv, _, rfl, hmv.mono hle₂₀, ⟨_, rfl⟩, ⟨_, rfl⟩, trivial⟩
      · rename_i hb
        have hnm : nmOf ks (head ++ [ch]) = none := by cases q : nmOf ks (head ++ [ch]) with | none => rfl | some _ => rw [q] at hb; simp at hb
        walk_at "gg"
        refine ⟨g'', _, _, hle₉, S₁₁, hle', ⟨us, n, rfl, ?_, by omega⟩, by walk_at "lk", by walk_at "lk", by walk_at "lk", by walk_at "lk", by walk_at "lk"⟩
        rw [hst none (by rw [hnm]; rfl)]; simpa using hus
    · rintro g'' m'' c'' s₉ E'' hle₉ ⟨_, ⟨us, n, rfl, hus, husl⟩, hm1, hm2, hm3, hm4, hm5⟩ S₉
      have husl3 : us.length ≤ 3 := husl
      have hsteps : All2 (IsRule g'' (decide (li ≠ 0))) us (stepsOf ks head [97, 98, 99]) := hus
      walk_at "gg"
      rw [str_nil]
      refine eqS ?_
      walk_at "gg"
      by_cases hhn : head = []
      · rw [if_pos (by rw [decide_eq_true_eq]; exact hhn)]
        subst hhn
        have hi0 : i = 0 := by
          rcases Nat.eq_zero_or_pos i with q | q
          · exact q
          · exfalso
            refine hks.2.2.2.2 ([], nmh) ?_ rfl
            refine List.mem_of_getElem? (i := i - 1) ?_
            rw [List.getElem?_drop, show 1 + (i - 1) = i by omega]; exact hks_i
        subst hi0
        walk_at "gg"
        refine c_fn (by assumption) (by kernel_rfl) ?_
        walk_at "gg"
        refine newTup (by assumption) (by simp) ?_; intro p₁ g₁ s₁₁ hl₁ S₁₁ hp₁
        walk_at "gg"
        refine newTup (by assumption) (by simp) ?_; intro p₂ g₂ s₁₂ hl₂ S₁₂ hp₂
        walk_at "gg"
        refine newTup (by assumption) (by simp) ?_; intro p₃ g₃' s₁₃ hl₃ S₁₃ hp₃
        walk_at "gg"
        refine newLst (by assumption) (by simp) ?_; intro pl g₄ s₁₄ hl₄ S₁₄ hpl
        walk_at "gg"
        refine St.kinH (by assumption) ?_
        refine wpAny_call (plain_new (rows := [[[97]], [[98]], [[99]]]) ((hr.mono (by omega)).deeper _) (St.baseG (by assumption)) (St.gg (by assumption)) hpl
          ⟨⟨p₁, _, rfl, hp₁.mono ((hl₂.trans hl₃).trans hl₄), ⟨_, by rw [← str_a]⟩, trivial⟩, ⟨p₂, _, rfl, hp₂.mono (hl₃.trans hl₄), ⟨_, by rw [← str_b]⟩, trivial⟩, ⟨p₃, _, rfl, hp₃.mono hl₄, ⟨_, by rw [← str_c]⟩, trivial⟩, trivial⟩ ?_)
        intro pv s₁₅ g₅ P₅ K₅
        have S₁₅ := St.after (by assumption) P₅
        walk_at "gg"
        refine newTup (by assumption) (by simp) ?_; intro rv g₆ s₁₆ hl₆ S₁₆ hrv
        walk_at "gg"
        have hle₂ := ((((hl₁.trans hl₂).trans hl₃).trans hl₄).trans P₅.grow).trans hl₆
        obtain ⟨kvt, Dt, hkt, _⟩ := HT
        refine d_setF (by assumption) hrl Dt (by have : kvt.length = 1 := hkt.length; omega) ?_; intro od₈ s₁₉ hn₇ S₁₉ D₈
        walk_at "gg"
        refine ⟨_, _, _, hle.trans ((hle₉.trans hle₂).trans (Mem.le_put hn₇)), S₁₉, ⟨od₈, rfl, stored kvt (Str.ofString "root") (.ref rl), D₈, ?_, htd⟩, by walk_at "lk", by walk_at "lk", by walk_at "lk"⟩
        obtain ⟨pr, rfl⟩ : ∃ pr, kvt = [pr] := by
          have := hkt.length
          simp [tableOf] at this
          exact List.length_eq_one_iff.mp this
        have hpr : pr.1 = S tRoot := hkt.1.1
        have hst : stored [pr] (Str.ofString "root") (.ref rl) = [(pr.1, .ref rl)] := by
          unfold stored; rw [str_root, ← hpr]; simp
        rw [hst]
        have htb : tableOf ks 1 = [(tRoot, rulesOf ks [])] := by
          obtain ⟨r, hr'⟩ := hks.2.2.1
          unfold tableOf; rw [hr']; simp
        show All2 _ _ (tableOf ks 1)
        rw [htb]
        refine ⟨⟨hpr, rl, _, rfl, ⟨_, Mem.put_self .., lst_is _ _⟩, ?_⟩, trivial⟩
        refine All2.mono (P := IsRule g₆ (decide (li ≠ 0))) (fun _ _ x => x.mono (Mem.le_put hn₇)) ?_
        unfold rulesOf
        rw [if_pos rfl]
        exact All2.snoc ⟨rv, pv, rfl, hrv, K₅.mono hl₆⟩ (hsteps.mono fun _ _ x => x.mono hle₂)
      · rw [if_neg (by rw [decide_eq_true_eq]; exact hhn)]
        walk_at "gg"
        refine c_fn (by assumption) (by kernel_rfl) ?_
        walk_at "gg"
        refine sub_str_sn (by assumption) (by rw [S_len, sizeLine_eq]; omega) ?_; intro t₁ s₁₁ S₁₁
        rw [show ((1 : Int)) = ((1 : Nat) : Int) from rfl, slice_sn]
        walk_at "gg"
        refine St.kinH (by assumption) ?_
        refine wpAny_call (longest_spec ((hr.mono (by omega : 3 ≤ 4)).deeper _) (St.baseG (by assumption)) (St.gg (by assumption)) (by simp; omega) (St.gg (by assumption) _ _ ((hleK.trans hle₉) _ _ hkd)) hkm Dk ?_)
        intro t₂ s₁₂ P₁₂
        have S₁₂ := St.after (by assumption) P₁₂
        rw [hhas] at *
        generalize hlow : longest (hasT ks) (head.drop 1) = low at *
        have hlowl : low.length ≤ 4 := by
          rw [← hlow]
          have := longest_le (hasT ks) (head.drop 1)
          rw [List.length_drop] at this; omega
        walk_at "g"
        walk_at "g"
        refine wp_mid (fun v s' => ∃ g', Le g'' g' ∧ St w s g [] L (up m'' "lower" (.str (S low) t₂)) [(rl, lst us n), (ith, o), (td, od')] g' s' ∧ IsMove g' v low) ?_ ?_
        · walk_at "gg"
          refine truthyS (by assumption) (by omega) ?_; intro s₁₄ S₁₄
          split
          · rename_i hb
            have hb : low ≠ [] := by simpa using hb
            walk_at "gg"
            rw [str_pop, str_q]
            refine add_str (by assumption) (by simp; omega) ?_; intro _ s₁₅ S₁₅
            walk_at "gg"
            refine newTup (by assumption) (by simp) ?_; intro mv g₁₆ s₁₆ hle₁₆ S₁₆ hmv
            refine ⟨g₁₆, hle₁₆, S₁₆, ?_⟩
            unfold IsMove
            rw [if_neg hb]
            exact ⟨mv, _, rfl, hmv, ⟨_, rfl⟩, ⟨_, rfl⟩, trivial⟩
          · rename_i hb
            have hb : low = [] := by simpa using hb
            walk_at "gg"
            refine ⟨_, Le.refl _, by assumption, ?_⟩
            unfold IsMove
            rw [if_pos hb]
            exact ⟨_, by rw [str_pop]⟩
        · rintro mv s₁₄ ⟨g₁₄, hle₁₄, S₁₄, Kmv⟩
          walk_at "g"
          walk_at "g"
          walk_at "g"
          walk_at "g"
          walk_at "g"
          walk_at "g"
          walk_at "g"
          refine wp_mid (fun v s' => ∃ g', Le g₁₄ g' ∧ St w s g [] L (up (up m'' "lower" (.str (S low) t₂)) "move" mv) [(rl, lst us n), (ith, o), (td, od')] g' s' ∧ IsRule g' (decide (li ≠ 0)) v (.fall low)) ?_ ?_
          · walk_at "gg"
            refine truthyI ?_
            by_cases hli : li = 0
            · rw [if_neg (by simp [hli])]
              have hd0 : decide (li ≠ 0) = false := by simp [hli]
              walk_at "gg"
              refine c_fn (by assumption) (by kernel_rfl) ?_
              walk_at "gg"
              refine St.kinH (by assumption) ?_
              refine wpAny_call (dflt_new ((hr.mono (by omega)).deeper _) (St.baseG (by assumption)) (St.gg (by assumption)) ?_)
              intro rv s₁₅ g₁₅ P₁₅ K₁₅
              have S₁₅ := St.after (by assumption) P₁₅
              walk_at "gg"
              refine ⟨g₁₅, P₁₅.grow, S₁₅, ?_⟩
              rw [hd0]
              exact ⟨mv, K₁₅, Kmv.mono P₁₅.grow⟩
            · rw [if_pos (by simp [hli])]
              have hd1 : decide (li ≠ 0) = true := by simp [hli]
              walk_at "gg"
              refine c_fn (by assumption) (by kernel_rfl) ?_
              walk_at "gg"
              refine newTup (by assumption) (by simp) ?_; intro p₁ g₁ s₁₅ hl₁ S₁₅ hp₁
              walk_at "gg"
              refine newLst (by assumption) (by simp) ?_; intro pl g₂ s₁₆ hl₂ S₁₆ hpl
              walk_at "gg"
              refine St.kinH (by assumption) ?_
              refine wpAny_call (plain_new (rows := [[[]]]) ((hr.mono (by omega)).deeper _) (St.baseG (by assumption)) (St.gg (by assumption)) hpl ⟨⟨p₁, _, rfl, hp₁.mono hl₂, ⟨_, by rw [← str_nil]⟩, trivial⟩, trivial⟩ ?_)
              intro pv s₁₇ g₁₇ P₁₇ K₁₇
              have S₁₇ := St.after (by assumption) P₁₇
              walk_at "gg"
              refine newTup (by assumption) (by simp) ?_; intro rv g₁₈ s₁₈ hl₁₈ S₁₈ hrv
              have hl := ((hl₁.trans hl₂).trans P₁₇.grow).trans hl₁₈
              refine ⟨g₁₈, hl, S₁₈, ?_⟩
              rw [hd1]
              exact ⟨rv, pv, mv, rfl, hrv, K₁₇.mono hl₁₈, Kmv.mono hl⟩
          · rintro rv s₁₅ ⟨g₁₅, hle₁₅, S₁₅, Krv⟩
            walk_at "gg"
            rw [str_q]
            refine add_str (by assumption) (by simp; omega) ?_; intro _ s₁₆ S₁₆
            obtain ⟨kvt, Dt, hkt, _⟩ := HT
            have hkl : kvt.length ≤ 41 := by
              have := hkt.length
              have h40 := hks.1
              simp only [tableOf, List.length_cons, List.length_map, List.length_drop, List.length_take] at this
              omega
            have hle₃' := (hle₁₄.trans hle₁₅)
            refine d_setF (by assumption) hrl Dt (by omega) ?_; intro od₈ s₁₉ hn₇ S₁₉ D₈
            walk_at "gg"
            refine ⟨_, _, _, hle.trans ((hle₉.trans hle₃').trans (Mem.le_put hn₇)), S₁₉, ⟨od₈, rfl, _, D₈, ?_, htd⟩, by walk_at "lk", by walk_at "lk", by walk_at "lk"⟩
            have hi1 : 1 ≤ i := by
              rcases Nat.eq_zero_or_pos i with q | q
              · subst q
                obtain ⟨r, hr'⟩ := hks.2.2.1
                rw [hr'] at hks_i
                simp at hks_i
                exact (hhn hks_i.1).elim
              · exact q
            rw [table_snoc hks_i hi1, stored_new (fun p hp => ?_)]
            · refine All2.snoc ⟨rfl, rl, _, rfl, ⟨_, Mem.put_self .., lst_is _ _⟩, ?_⟩ (hkt.mono fun _ _ x => ⟨x.1, x.2.mono ((hle₉.trans hle₃').trans (Mem.le_put hn₇))⟩)
              unfold rulesOf
              rw [if_neg hhn, hlow]
              exact All2.snoc (Krv.mono (Mem.le_put hn₇)) (hsteps.mono fun _ _ x => x.mono (hle₃'.trans (Mem.le_put hn₇)))
            · obtain ⟨b, hb, e1, _⟩ := all2_mem hkt p hp
              rw [e1]
              intro e
              exact table_fresh hks.2.1 hks_i b hb (S_inj.mp e)
  · rintro g' m' c' s₆ E' hle ⟨⟨od', rfl, HT⟩, hm1, hm2, hm3⟩ S₆
    walk_at "gg"
    have hn := (S₆.cc _ (List.mem_cons_self ..)).2.2.1
    have hkl : kvs.length = ks.length := hkv.length
    rw [hkl] at HT
    obtain ⟨kvt, Dt, hkt, hm⟩ := HT
    exact h td od' _ _ (S₆.freezeN htl).post (Mem.put_self ..) ⟨kvt, Dt, hkt.mono (fun _ _ x => ⟨x.1, x.2.mono (Mem.le_put hn)⟩), hm⟩
end
end

-- PART P1 --
section
open PySem PySem.W PySem.Calls PyProof.Rows
def hits (told : T) (p : Nat) : Rule → Bool
  | .step c _ _ => told[p]? == some c
  | .text => told[p]? == some 97 || told[p]? == some 98 || told[p]? == some 99
  | .fall _ => true
def nlOf (wide : Bool) : List T := if wide then [tText] else [tText, tWhite]
def turn (ks : List (T × List T)) (loud wide : Bool) (told q : T) (p : Nat) : Option (List Row × T × Nat) :=
  match (rulesOf ks q).find? (hits told p) with
  | some (.step c x nm) => some ([⟨p, nm, [c]⟩], x, p + 1)
  | some .text => some ([⟨p, [tText], (told.drop p).take 1⟩], q, p + 1)
  | some (.fall l) => some (if loud then [⟨p, [tEsc], []⟩] else [], l, p)
  | none => match told[p]? with
    | none => none
    | some c => if c = 10 then some ([⟨p, nlOf wide, [10]⟩], [], p + 1) else some ([⟨p, [tError], [c]⟩], q, p + 1)
inductive Lex (ks : List (T × List T)) (loud wide : Bool) (told : T) : T → Nat → List Row → Prop
  | done {q p} : turn ks loud wide told q p = none → Lex ks loud wide told q p []
  | step {q p r q' p' rs} : turn ks loud wide told q p = some (r, q', p') → Lex ks loud wide told q' p' rs → Lex ks loud wide told q p (r ++ rs)
theorem suf_drop {s l : T} (h : s <:+ l) : s = l.drop (l.length - s.length) := by
  obtain ⟨a, rfl⟩ := h
  rw [List.length_append, Nat.add_sub_cancel, List.drop_left]
theorem suf_same {a b l : T} (ha : a <:+ l) (hb : b <:+ l) (e : a.length = b.length) : a = b := by
  rw [suf_drop ha, suf_drop hb, e]
theorem suf_le {a b l : T} (ha : a <:+ l) (hb : b <:+ l) (e : a.length ≤ b.length) : a <:+ b := List.suffix_of_suffix_length_le ha hb e
theorem longest_suf (has : T → Bool) (l : T) : longest has l <:+ l := by
  unfold longest
  cases e : ((List.range (min 4 l.length)).map fun i => l.drop (l.length - 4 + i)).find? has with
  | none => exact List.nil_suffix
  | some x =>
    obtain ⟨i, _, rfl⟩ := List.mem_map.mp (List.mem_of_find?_eq_some e)
    exact List.drop_suffix _ _
theorem longest_has (has : T → Bool) (l : T) : longest has l = [] ∨ has (longest has l) = true := by
  unfold longest
  cases e : ((List.range (min 4 l.length)).map fun i => l.drop (l.length - 4 + i)).find? has with
  | none => exact .inl rfl
  | some x => exact .inr (List.find?_some e)
theorem longest_max {has : T → Bool} {l s : T} (hs : s <:+ l) (hn : s ≠ []) (h4 : s.length ≤ 4) (hh : has s = true) : s.length ≤ (longest has l).length := by
  have hl : s.length ≤ l.length := hs.length_le
  have h1 : 1 ≤ s.length := by cases s with
    | nil => exact absurd rfl hn
    | cons _ _ => simp
  unfold longest
  cases e : ((List.range (min 4 l.length)).map fun i => l.drop (l.length - 4 + i)).find? has with
  | none =>
    exfalso
    have := List.find?_eq_none.mp e s (List.mem_map.mpr ⟨l.length - s.length - (l.length - 4), List.mem_range.mpr (by omega), by
      rw [show l.length - 4 + (l.length - s.length - (l.length - 4)) = l.length - s.length by omega]; exact (suf_drop hs).symm⟩)
    exact this hh
  | some x =>
    obtain ⟨h1', as, bs, he, hno⟩ := List.find?_eq_some_iff_append.mp e
    show s.length ≤ x.length
    rw [List.find?_map] at e
    cases e2 : (List.range (min 4 l.length)).find? (has ∘ fun i => l.drop (l.length - 4 + i)) with
    | none => rw [e2] at e; cases e
    | some i =>
      rw [e2] at e
      cases e
      obtain ⟨hi1, hi2, hi3⟩ := List.find?_range_eq_some.mp e2
      have hi4 := List.mem_range.mp hi2
      rw [List.length_drop]
      rcases Nat.lt_or_ge (l.length - s.length - (l.length - 4)) i with q | q
      · have := hi3 _ q
        rw [Function.comp, show l.length - 4 + (l.length - s.length - (l.length - 4)) = l.length - s.length by omega, ← suf_drop hs, hh] at this
        cases this
      · omega
structure Trie (ks : List (T × List T)) : Prop where
  root : nmOf ks [] = some [[72, 105, 116]]
  pre : ∀ x c, hasT ks (x ++ [c]) = true → hasT ks x = true
  abc : ∀ x, hasT ks x = true → x.length ≤ 4 ∧ ∀ c ∈ x, Mine.abc c
  chain : ∀ x nm, x ≠ [] → nmOf ks x = some nm → ∃ nm', nmOf ks (longest (hasT ks) (x.drop 1)) = some nm' ∧ nm = nm' ++ [78 :: x]
theorem Trie.nil {ks : List (T × List T)} (H : Trie ks) : hasT ks [] = true := by unfold hasT; rw [H.root]; rfl
def Lp (ks : List (T × List T)) (told : T) (p : Nat) : T := longest (hasT ks) (told.take p)
def hoped (ks : List (T × List T)) (wide : Bool) (told : T) (p : Nat) : Row :=
  let head := Lp ks told (p + 1)
  ⟨p, if head = [] then (if told[p]? = some 10 then nlOf wide else if told[p]? = some 100 then [tError] else [tText]) else (nmOf ks head).getD [], (told.drop p).take 1⟩
def rowsAt (ks : List (T × List T)) (loud wide : Bool) (told : T) (p : Nat) : List Row := (if loud then falls (hasT ks) p told (Lp ks told (p + 1)).length else []) ++ [hoped ks wide told p]
def rowsFrom (ks : List (T × List T)) (loud wide : Bool) (told : T) (p : Nat) : List Row := ((List.range' p (told.length - p)).flatMap (rowsAt ks loud wide told)) ++ (if loud then falls (hasT ks) told.length told 0 else [])
def cnt (has : T → Bool) (l : T) (lo : Nat) : Nat → Nat
  | 0 => 0
  | n + 1 => cnt has l lo n + if lo ≤ n + 1 ∧ has (l.drop (l.length - (n + 1))) = true then 1 else 0
theorem cnt_zero {has : T → Bool} {l : T} {lo : Nat} : ∀ {n : Nat}, n < lo → cnt has l lo n = 0
  | 0, _ => rfl
  | n + 1, h => by unfold cnt; rw [cnt_zero (by omega), if_neg (by omega)]
theorem cnt_same {has : T → Bool} {l : T} {lo a : Nat} : ∀ {b : Nat}, a ≤ b → (∀ n, a < n → n ≤ b → has (l.drop (l.length - n)) = false) → cnt has l lo b = cnt has l lo a
  | 0, h, _ => by rw [show a = 0 by omega]
  | b + 1, h, k => by
    rcases Nat.lt_or_ge a (b + 1) with q | q
    · show cnt has l lo b + (if _ then 1 else 0) = _
      rw [cnt_same (a := a) (b := b) (by omega) fun n h1 h2 => k n h1 (by omega), if_neg (by rw [k (b + 1) q (Nat.le_refl _)]; simp), Nat.add_zero]
    · rw [show a = b + 1 by omega]
theorem cnt_range {has : T → Bool} {l : T} {lo : Nat} (h1 : 1 ≤ lo) : ∀ {n : Nat}, ((List.range (n + 1 - lo)).filter fun i => has (l.drop (l.length - (lo + i)))).length = cnt has l lo n
  | 0 => by rw [show 0 + 1 - lo = 0 by omega]; rfl
  | n + 1 => by
    unfold cnt
    rw [← cnt_range h1 (n := n)]
    rcases Nat.lt_or_ge (n + 1) lo with q | q
    · rw [show n + 1 + 1 - lo = 0 by omega, show n + 1 - lo = 0 by omega, if_neg (by omega)]; rfl
    · rw [show n + 1 + 1 - lo = (n + 1 - lo) + 1 by omega, List.range_succ, List.filter_append, List.length_append]
      congr 1
      rw [List.filter_cons, List.filter_nil, show lo + (n + 1 - lo) = n + 1 by omega]
      by_cases e : has (l.drop (l.length - (n + 1))) = true
      · rw [if_pos e, if_pos ⟨q, e⟩]; rfl
      · rw [if_neg e, if_neg (fun x => e x.2)]; rfl
theorem falls_cnt {has : T → Bool} {told : T} {p least : Nat} (hp : p ≤ told.length) : falls has p told least = List.replicate (cnt has (told.take p) (max 1 least) (min 4 p)) ⟨p, [tEsc], []⟩ := by
  unfold falls
  rw [List.map_const', ← cnt_range (Nat.le_max_left 1 least)]
  congr 2
  refine List.filter_congr fun i hi => ?_
  have := List.mem_range.mp hi
  congr 1
  rw [List.length_take, List.drop_take, Nat.min_eq_left hp]
  congr 1
  omega
theorem steps_hit {ks : List (T × List T)} {told q : T} {p : Nat} : ∀ cs : List Nat, (stepsOf ks q cs).find? (hits told p) = match told[p]? with | some c => if c ∈ cs then (nmOf ks (q ++ [c])).map fun nm => .step c (q ++ [c]) nm else none | none => none
  | [] => by cases told[p]? <;> simp [stepsOf]
  | d :: cs => by
    have ih := steps_hit (ks := ks) (told := told) (q := q) (p := p) cs
    unfold stepsOf at *
    rw [List.filterMap_cons]
    cases e : nmOf ks (q ++ [d]) with
    | none =>
      simp only [Option.map_none]
      rw [ih]
      cases ht : told[p]? with
      | none => rfl
      | some c =>
        simp only [List.mem_cons]
        by_cases q1 : c = d
        · subst q1; simp [e]
        · simp [q1]
    | some nm =>
      simp only [Option.map_some, List.find?_cons]
      rw [ih]
      cases ht : told[p]? with
      | none => simp [hits, ht]
      | some c =>
        simp only [List.mem_cons, hits, ht]
        by_cases q1 : c = d
        · subst q1; simp [e]
        · have : (some c == some d) = false := by simp [q1]
          simp [this, q1]
theorem abc_mem {c : Nat} : Mine.abc c ↔ c ∈ [97, 98, 99] := by simp [Mine.abc]
theorem hasT_some {ks : List (T × List T)} {x : T} (h : hasT ks x = true) : ∃ nm, nmOf ks x = some nm := Option.isSome_iff_exists.mp h
theorem hasT_false {ks : List (T × List T)} {x : T} (h : ¬ hasT ks x = true) : nmOf ks x = none := by
  unfold hasT at h; cases e : nmOf ks x with
  | none => rfl
  | some _ => rw [e] at h; simp at h
section
variable {ks : List (T × List T)} {loud wide : Bool} {told q : T} {p c : Nat}
theorem turn_step (H : Trie ks) (hc : told[p]? = some c) {nm : List T} (hn : nmOf ks (q ++ [c]) = some nm) : turn ks loud wide told q p = some ([⟨p, nm, [c]⟩], q ++ [c], p + 1) := by
  have hm : c ∈ [97, 98, 99] := abc_mem.mp ((H.abc (q ++ [c]) (by unfold hasT; rw [hn]; rfl)).2 c (by simp))
  unfold turn rulesOf
  rw [List.find?_append, steps_hit]
  simp [hc, hm, hn]
theorem steps_none (hc : ∀ c, told[p]? = some c → hasT ks (q ++ [c]) = false) : (stepsOf ks q [97, 98, 99]).find? (hits told p) = none := by
  rw [steps_hit]
  cases e : told[p]? with
  | none => rfl
  | some c =>
    have := hasT_false (ks := ks) (x := q ++ [c]) (by rw [hc c e]; simp)
    simp [this]
theorem turn_fall (hq : q ≠ []) (hc : ∀ c, told[p]? = some c → hasT ks (q ++ [c]) = false) : turn ks loud wide told q p = some (if loud then [⟨p, [tEsc], []⟩] else [], longest (hasT ks) (q.drop 1), p) := by
  unfold turn rulesOf
  rw [List.find?_append, steps_none hc, if_neg hq]
  rfl
theorem turn_root (hc : ∀ c, told[p]? = some c → hasT ks [c] = false) : turn ks loud wide told [] p = match told[p]? with
    | none => none
    | some c => some ([⟨p, if c = 10 then nlOf wide else if c ∈ [97, 98, 99] then [tText] else [tError], [c]⟩], [], p + 1) := by
  unfold turn rulesOf
  rw [List.find?_append, steps_none (q := []) hc, if_pos rfl]
  cases e : told[p]? with
  | none => simp [hits, e]
  | some c =>
    have hd : List.take 1 (List.drop p told) = [c] := by
      rw [List.take_one, List.head?_drop, e]; rfl
    simp only [List.find?_cons, hits, e, Option.none_or, Option.some_beq_some]
    by_cases q1 : c ∈ [97, 98, 99]
    · have : c ≠ 10 := by rintro rfl; simp at q1
      have hb : (c == 97 || c == 98 || c == 99) = true := by
        simp only [List.mem_cons, List.not_mem_nil, or_false] at q1
        rcases q1 with rfl | rfl | rfl <;> rfl
      simp [hb, hd, this, q1]
    · have hb : (c == 97 || c == 98 || c == 99) = false := by
        simp only [List.mem_cons, List.not_mem_nil, or_false, not_or] at q1
        simp [q1]
      simp only [hb]
      by_cases q2 : c = 10
      · subst q2; simp
      · simp [q2, q1]
end
structure Inv (ks : List (T × List T)) (told q : T) (p : Nat) : Prop where
  has : hasT ks q = true
  suf : q <:+ told.take p
  top : ∀ s c, s <:+ told.take p → hasT ks s = true → q.length < s.length → told[p]? = some c → hasT ks (s ++ [c]) = false
section
variable {ks : List (T × List T)} {loud wide : Bool} {told q : T} {p c : Nat}
theorem Trie.longest_mem (H : Trie ks) (l : T) : hasT ks (longest (hasT ks) l) = true := (longest_has (hasT ks) l).elim (fun e => by rw [e]; exact H.nil) id
theorem inv_Lp (H : Trie ks) (p : Nat) : Inv ks told (Lp ks told p) p := by
  refine ⟨H.longest_mem _, longest_suf _ _, fun s c hs hh hl _ => ?_⟩
  exfalso
  have := longest_max hs (by rintro rfl; simp at hl) (H.abc s hh).1 hh
  exact Nat.lt_irrefl _ (Nat.lt_of_lt_of_le hl this)
theorem take_succ (hc : told[p]? = some c) : told.take (p + 1) = told.take p ++ [c] := by rw [List.take_add_one, hc]; rfl
theorem suf_snoc {s l : T} (h : s <:+ l ++ [c]) (hn : s ≠ []) : ∃ s', s = s' ++ [c] ∧ s' <:+ l := by
  rcases List.suffix_concat_iff.mp h with h | h
  · exact absurd h hn
  · exact h
theorem Lp_step (H : Trie ks) (I : Inv ks told q p) (hc : told[p]? = some c) (hh : hasT ks (q ++ [c]) = true) : Lp ks told (p + 1) = q ++ [c] := by
  have hs : q ++ [c] <:+ told.take (p + 1) := by
    rw [take_succ hc]
    obtain ⟨a, e⟩ := I.suf
    exact ⟨a, by rw [← e, List.append_assoc]⟩
  have h1 := longest_max hs (by simp) (H.abc _ hh).1 hh
  have hL : Lp ks told (p + 1) ≠ [] := by
    intro e
    unfold Lp at e
    rw [e] at h1; simp at h1
  have hLs : Lp ks told (p + 1) <:+ told.take (p + 1) := longest_suf _ _
  rw [take_succ hc] at hLs
  obtain ⟨s, e, hs'⟩ := suf_snoc hLs hL
  have hLh : hasT ks (s ++ [c]) = true := by rw [← e]; exact H.longest_mem _
  have h2 : ¬ q.length < s.length := fun x => by rw [I.top s c hs' (H.pre _ _ hLh) x hc] at hLh; cases hLh
  have h3 : (q ++ [c]).length ≤ (s ++ [c]).length := by rw [← e]; exact h1
  simp only [List.length_append, List.length_cons, List.length_nil] at h3
  rw [e, suf_same I.suf hs' (by omega)]
theorem Lp_le (H : Trie ks) (I : Inv ks told q p) (hc : told[p]? = some c) (hh : hasT ks (q ++ [c]) = false) : (Lp ks told (p + 1)).length ≤ q.length := by
  by_cases hL : Lp ks told (p + 1) = []
  · rw [hL]; exact Nat.zero_le _
  · have hLs : Lp ks told (p + 1) <:+ told.take (p + 1) := longest_suf _ _
    rw [take_succ hc] at hLs
    obtain ⟨s, e, hs'⟩ := suf_snoc hLs hL
    have hLh : hasT ks (s ++ [c]) = true := by rw [← e]; exact H.longest_mem _
    rw [e, List.length_append]
    have h2 : ¬ q.length < s.length := fun x => by rw [I.top s c hs' (H.pre _ _ hLh) x hc] at hLh; cases hLh
    have h3 : s.length ≠ q.length := fun x => by rw [suf_same I.suf hs' x.symm, hLh] at hh; cases hh
    simp only [List.length_cons, List.length_nil]
    omega
theorem inv_fall (H : Trie ks) (I : Inv ks told q p) (hq : q ≠ []) (hh : ∀ c, told[p]? = some c → hasT ks (q ++ [c]) = false) : Inv ks told (longest (hasT ks) (q.drop 1)) p := by
  have hd : q.drop 1 <:+ q := List.drop_suffix _ _
  refine ⟨H.longest_mem _, (longest_suf _ _).trans (hd.trans I.suf), fun s c hs hsh hl hc => ?_⟩
  rcases Nat.lt_trichotomy s.length q.length with h | h | h
  · exfalso
    have hs1 : s <:+ q.drop 1 := suf_le hs (hd.trans I.suf) (by rw [List.length_drop]; omega)
    have := longest_max hs1 (by rintro rfl; simp at hl) (H.abc s hsh).1 hsh
    omega
  · rw [suf_same hs I.suf h]; exact hh c hc
  · exact I.top s c hs hsh h hc
theorem cnt_fall (H : Trie ks) (I : Inv ks told q p) (hq : q ≠ []) {lo : Nat} (h1 : 1 ≤ lo) (hlo : lo ≤ q.length) : cnt (hasT ks) (told.take p) lo q.length = cnt (hasT ks) (told.take p) lo (longest (hasT ks) (q.drop 1)).length + 1 := by
  have hd : q.drop 1 <:+ q := List.drop_suffix _ _
  obtain ⟨n, hn⟩ : ∃ n, q.length = n + 1 := ⟨q.length - 1, by omega⟩
  have hle := (longest_suf (hasT ks) (q.drop 1)).length_le
  rw [List.length_drop] at hle
  rw [hn]
  show cnt (hasT ks) (told.take p) lo n + (if _ then 1 else 0) = _
  rw [if_pos ⟨by omega, by rw [← hn, ← suf_drop I.suf]; exact I.has⟩, cnt_same (a := (longest (hasT ks) (q.drop 1)).length) (b := n) (by omega)]
  intro k hk1 hk2
  have hlt := I.suf.length_le
  have hs : (told.take p).drop ((told.take p).length - k) <:+ told.take p := List.drop_suffix _ _
  have hsl : ((told.take p).drop ((told.take p).length - k)).length = k := by rw [List.length_drop]; omega
  cases e : hasT ks ((told.take p).drop ((told.take p).length - k)) with
  | false => rfl
  | true =>
    exfalso
    have hs1 : (told.take p).drop ((told.take p).length - k) <:+ q.drop 1 := suf_le hs (hd.trans I.suf) (by rw [hsl, List.length_drop]; omega)
    have := longest_max hs1 (by intro x; rw [x] at hsl; simp at hsl; omega) (H.abc _ e).1 e
    omega
theorem cnt_top (H : Trie ks) (hp : p ≤ told.length) (lo : Nat) : cnt (hasT ks) (told.take p) lo (min 4 p) = cnt (hasT ks) (told.take p) lo (Lp ks told p).length := by
  have h1 := (longest_suf (hasT ks) (told.take p)).length_le
  have hl : (told.take p).length = p := by rw [List.length_take]; omega
  have h4 := (H.abc _ (H.longest_mem (told.take p))).1
  refine cnt_same (by unfold Lp; omega) fun n hn1 hn2 => ?_
  cases e : hasT ks ((told.take p).drop ((told.take p).length - n)) with
  | false => rfl
  | true =>
    exfalso
    have hsl : ((told.take p).drop ((told.take p).length - n)).length = n := by rw [List.length_drop]; omega
    have := longest_max (has := hasT ks) (List.drop_suffix ((told.take p).length - n) (told.take p)) (by intro x; rw [x] at hsl; simp at hsl; omega) (by omega) e
    unfold Lp at hn1
    omega
end
section
variable {ks : List (T × List T)} {loud wide : Bool} {told : T}
def restAt (ks : List (T × List T)) (loud wide : Bool) (told q : T) (p : Nat) : List Row :=
  (if loud then List.replicate (cnt (hasT ks) (told.take p) (max 1 (if p < told.length then (Lp ks told (p + 1)).length else 0)) q.length) ⟨p, [tEsc], []⟩ else []) ++
    (if p < told.length then hoped ks wide told p :: rowsFrom ks loud wide told (p + 1) else [])
theorem rest_top (H : Trie ks) {p : Nat} (hp : p ≤ told.length) : restAt ks loud wide told (Lp ks told p) p = rowsFrom ks loud wide told p := by
  unfold restAt rowsFrom
  rcases Nat.lt_or_ge p told.length with q | q
  · rw [if_pos q, if_pos q, show told.length - p = (told.length - (p + 1)) + 1 by omega, List.range'_succ, List.flatMap_cons]
    unfold rowsAt
    rw [falls_cnt hp, cnt_top H hp]
    simp
  · have e : p = told.length := by omega
    subst e
    rw [if_neg (Nat.lt_irrefl _), if_neg (Nat.lt_irrefl _), Nat.sub_self, List.range'_zero, List.flatMap_nil, falls_cnt (Nat.le_refl _), cnt_top H (Nat.le_refl _), List.append_nil, List.nil_append]
theorem lex_fall (H : Trie ks) {p : Nat} {q : T} (I : Inv ks told q p) (hq : q ≠ []) (hh : ∀ c, told[p]? = some c → hasT ks (q ++ [c]) = false) (ih : Lex ks loud wide told (longest (hasT ks) (q.drop 1)) p (restAt ks loud wide told (longest (hasT ks) (q.drop 1)) p)) :
    Lex ks loud wide told q p (restAt ks loud wide told q p) := by
  have hq1 : 1 ≤ q.length := by cases q with
    | nil => exact absurd rfl hq
    | cons _ _ => simp
  have e : restAt ks loud wide told q p = (if loud then [⟨p, [tEsc], []⟩] else []) ++ restAt ks loud wide told (longest (hasT ks) (q.drop 1)) p := by
    unfold restAt
    rw [cnt_fall H I hq (Nat.le_max_left _ _) (by
      split
      · rename_i hp
        have hc : told[p]? = some told[p] := List.getElem?_eq_getElem hp
        have := Lp_le H I hc (hh _ hc)
        omega
      · omega), List.replicate_succ]
    cases loud <;> simp
  rw [e]
  exact .step (turn_fall hq hh) ih
theorem lex_all (H : Trie ks) (hT : ToldOk told) : ∀ (d p : Nat), told.length - p = d → p ≤ told.length → ∀ (k : Nat) (q : T), q.length = k → Inv ks told q p → Lex ks loud wide told q p (restAt ks loud wide told q p) := by
  intro d
  induction d with
  | zero =>
    intro p hd hp k
    have e : p = told.length := by omega
    subst e
    have hn : told[told.length]? = none := List.getElem?_eq_none (Nat.le_refl _)
    induction k using Nat.strongRecOn with
    | _ k ih =>
      intro q hk I
      by_cases hq : q = []
      · subst hq
        unfold restAt
        rw [if_neg (Nat.lt_irrefl _), if_neg (Nat.lt_irrefl _)]
        have h0 : (if loud = true then List.replicate (cnt (hasT ks) (told.take told.length) (max 1 0) ([] : T).length) (⟨told.length, [tEsc], []⟩ : Row) else []) ++ [] = [] := by
          cases loud <;> rfl
        rw [h0]
        exact .done (by rw [turn_root (by rw [hn]; intro c h; cases h), hn])
      · refine lex_fall H I hq (by rw [hn]; intro c h; cases h) (ih _ ?_ _ rfl (inv_fall H I hq (by rw [hn]; intro c h; cases h)))
        have hle := (longest_suf (hasT ks) (q.drop 1)).length_le
        rw [List.length_drop] at hle
        have : 1 ≤ q.length := by cases q with
          | nil => exact absurd rfl hq
          | cons _ _ => simp
        omega
  | succ d ihd =>
    intro p hd hp k
    have hlt : p < told.length := by omega
    have hc : told[p]? = some told[p] := List.getElem?_eq_getElem hlt
    have hnext : ∀ q', Lp ks told (p + 1) = q' → Lex ks loud wide told q' (p + 1) (rowsFrom ks loud wide told (p + 1)) := fun q' e => by
      rw [← rest_top H (by omega), ← e]
      exact ihd (p + 1) (by omega) (by omega) _ _ rfl (inv_Lp H (p + 1))
    have hd1 : List.take 1 (List.drop p told) = [told[p]] := by rw [List.take_one, List.head?_drop, hc]; rfl
    induction k using Nat.strongRecOn with
    | _ k ih =>
      intro q hk I
      cases hh : hasT ks (q ++ [told[p]]) with
      | true =>
        have hL := Lp_step H I hc hh
        obtain ⟨nm, hn⟩ := hasT_some hh
        have e : restAt ks loud wide told q p = [⟨p, nm, [told[p]]⟩] ++ rowsFrom ks loud wide told (p + 1) := by
          unfold restAt
          rw [if_pos hlt, if_pos hlt, hL, cnt_zero (by rw [List.length_append, List.length_singleton]; omega)]
          have : hoped ks wide told p = ⟨p, nm, [told[p]]⟩ := by
            unfold hoped
            rw [hL]
            dsimp only
            rw [if_neg (show ¬ q ++ [told[p]] = [] by simp), hn, hd1]; rfl
          rw [this]
          cases loud <;> simp
        rw [e]
        exact .step (turn_step H hc hn) (hnext _ hL)
      | false =>
        have hh' : ∀ c, told[p]? = some c → hasT ks (q ++ [c]) = false := fun c h => by rw [hc] at h; cases h; exact hh
        by_cases hq : q = []
        · subst hq
          have hL : Lp ks told (p + 1) = [] := by
            have := Lp_le H I hc hh
            exact List.length_eq_zero_iff.mp (by simpa using this)
          have e : restAt ks loud wide told [] p = [⟨p, if told[p] = 10 then nlOf wide else if told[p] ∈ [97, 98, 99] then [tText] else [tError], [told[p]]⟩] ++ rowsFrom ks loud wide told (p + 1) := by
            unfold restAt
            rw [if_pos hlt, if_pos hlt, hL]
            have : hoped ks wide told p = ⟨p, if told[p] = 10 then nlOf wide else if told[p] ∈ [97, 98, 99] then [tText] else [tError], [told[p]]⟩ := by
              unfold hoped
              rw [hL, hd1, hc]
              simp only [if_true, Option.some.injEq]
              congr 1
              rcases hT told[p] (List.getElem_mem hlt) with h | h | h
              · have h' := abc_mem.mp h
                rw [if_neg (by intro x; rw [x] at h'; simp at h'), if_neg (by intro x; rw [x] at h'; simp at h'), if_neg (by intro x; rw [x] at h'; simp at h'), if_pos h']
              · rw [h]; simp
              · rw [h]; simp
            rw [this]
            cases loud <;> simp [cnt]
          rw [e]
          exact .step (by rw [turn_root hh', hc]) (hnext _ hL)
        · refine lex_fall H I hq hh' (ih _ ?_ _ rfl (inv_fall H I hq hh'))
          have hle := (longest_suf (hasT ks) (q.drop 1)).length_le
          rw [List.length_drop] at hle
          have : 1 ≤ q.length := by cases q with
            | nil => exact absurd rfl hq
            | cons _ _ => simp
          omega
theorem lex_law (H : Trie ks) (hT : ToldOk told) : Lex ks loud wide told [] 0 (rowsFrom ks loud wide told 0) := by
  have h0 : Lp ks told 0 = [] := by unfold Lp; rw [List.take_zero]; exact List.suffix_nil.mp (longest_suf _ _)
  have := lex_all (loud := loud) (wide := wide) H hT _ 0 rfl (Nat.zero_le _) _ (Lp ks told 0) rfl (inv_Lp H 0)
  rw [rest_top H (Nat.zero_le _), h0] at this
  exact this
end
end

-- PART P2 --
section
open PySem PySem.W PySem.Calls PyProof.Rows
section
variable {ks : List (T × List T)} {loud wide : Bool} {told : T}
def tHit : T := [72, 105, 116]
theorem Trie.nm_head (H : Trie ks) : ∀ (n : Nat) (x : T), x.length = n → ∀ nm, nmOf ks x = some nm → ∃ r, nm = tHit :: r ∧ ∀ e ∈ r, ∃ s, e = 78 :: s ∧ s ≠ [] ∧ s <:+ x := by
  intro n
  induction n using Nat.strongRecOn with
  | _ n ih =>
    intro x hx nm hn
    by_cases hq : x = []
    · subst hq
      rw [H.root] at hn; cases hn
      exact ⟨[], rfl, by simp⟩
    · obtain ⟨nm', h1, rfl⟩ := H.chain x nm hq hn
      have hle := (longest_suf (hasT ks) (x.drop 1)).length_le
      rw [List.length_drop] at hle
      have hx1 : 1 ≤ x.length := by cases x with
        | nil => exact absurd rfl hq
        | cons _ _ => simp
      obtain ⟨r, rfl, hr⟩ := ih _ (by omega) _ rfl nm' h1
      refine ⟨r ++ [78 :: x], rfl, fun e he => ?_⟩
      rcases List.mem_append.mp he with he | he
      · obtain ⟨s, e1, e2, e3⟩ := hr e he
        exact ⟨s, e1, e2, e3.trans ((longest_suf _ _).trans (List.drop_suffix _ _))⟩
      · rw [List.mem_singleton.mp he]; exact ⟨x, rfl, hq, List.suffix_refl x⟩
theorem Trie.nm_len (H : Trie ks) : ∀ (n : Nat) (x : T), x.length = n → ∀ nm, nmOf ks x = some nm → nm.length ≤ n + 1 ∧ 1 ≤ nm.length := by
  intro n
  induction n using Nat.strongRecOn with
  | _ n ih =>
    intro x hx nm hn
    by_cases hq : x = []
    · subst hq
      rw [H.root] at hn; cases hn
      simp
    · obtain ⟨nm', h1, rfl⟩ := H.chain x nm hq hn
      have hle := (longest_suf (hasT ks) (x.drop 1)).length_le
      rw [List.length_drop] at hle
      have hx1 : 1 ≤ x.length := by cases x with
        | nil => exact absurd rfl hq
        | cons _ _ => simp
      have := ih _ (by omega) _ rfl nm' h1
      simp only [List.length_append, List.length_singleton]
      omega
theorem Trie.nm_of_suf (H : Trie ks) {wd : T} {nw : List T} (hw : wd ≠ []) (hnw : nmOf ks wd = some nw) : ∀ (n : Nat) (x : T), x.length = n → ∀ nm, nmOf ks x = some nm → wd <:+ x → nw <+: nm := by
  intro n
  induction n using Nat.strongRecOn with
  | _ n ih =>
    intro x hx nm hn hs
    by_cases hq : wd = x
    · subst hq; rw [hnw] at hn; cases hn; exact List.prefix_refl _
    · have hx0 : x ≠ [] := by rintro rfl; exact hw (List.suffix_nil.mp hs)
      obtain ⟨nm', h1, rfl⟩ := H.chain x nm hx0 hn
      have hle := (longest_suf (hasT ks) (x.drop 1)).length_le
      rw [List.length_drop] at hle
      have hx1 : 1 ≤ x.length := by cases x with
        | nil => exact absurd rfl hx0
        | cons _ _ => simp
      have hlt : wd.length < x.length := by
        rcases Nat.lt_or_ge wd.length x.length with q | q
        · exact q
        · exact absurd (suf_same hs (List.suffix_refl x) (by have := hs.length_le; omega)) hq
      have hs1 : wd <:+ x.drop 1 := suf_le hs (List.drop_suffix _ _) (by rw [List.length_drop]; omega)
      have hww : hasT ks wd = true := by unfold hasT; rw [hnw]; rfl
      have hm := longest_max hs1 hw (H.abc wd hww).1 hww
      exact (ih _ (by omega) _ rfl nm' h1 (suf_le hs1 (longest_suf _ _) hm)).trans (List.prefix_append _ _)
theorem Trie.suf_of_nm (H : Trie ks) {wd x : T} {nw nm : List T} (hw : wd ≠ []) (hnw : nmOf ks wd = some nw) (hn : nmOf ks x = some nm) (hp : nw <+: nm) : wd <:+ x := by
  obtain ⟨nm', h1, rfl⟩ := H.chain wd nw hw hnw
  obtain ⟨r, rfl, hr⟩ := H.nm_head _ _ rfl nm hn
  obtain ⟨r', rfl, _⟩ := H.nm_head _ _ rfl nm' h1
  have hm : (78 :: wd) ∈ tHit :: r := hp.subset (by simp)
  rcases List.mem_cons.mp hm with hm | hm
  · exact absurd hm (by simp [tHit])
  · obtain ⟨s, e1, _, e3⟩ := hr _ hm
    cases e1; exact e3
theorem prefix_take {α : Type} {a b : List α} : b.take a.length = a ↔ a <+: b := ⟨fun h => h ▸ List.take_prefix _ _, fun h => (List.prefix_iff_eq_take.mp h).symm⟩
theorem within (H : Trie ks) {wd : T} {nw : List T} (hw : wd ≠ []) (hnw : nmOf ks wd = some nw) (p : Nat) : ((hoped ks wide told p).names.take nw.length = nw) ↔ wd <:+ told.take (p + 1) := by
  have hww : hasT ks wd = true := by unfold hasT; rw [hnw]; rfl
  have h4 := (H.abc wd hww).1
  unfold hoped
  dsimp only
  by_cases hL : Lp ks told (p + 1) = []
  · rw [if_pos hL]
    constructor
    · intro h
      exfalso
      obtain ⟨r, hr, _⟩ := H.nm_head _ _ rfl nw hnw
      rw [hr] at h
      revert h
      unfold nlOf
      repeat' split
      all_goals (intro h; simp only [List.length_cons, List.take_succ_cons, List.cons.injEq] at h; exact absurd h.1 (by decide))
    · intro h
      exfalso
      have := longest_max h hw h4 hww
      unfold Lp at hL
      rw [hL] at this
      exact hw (List.length_eq_zero_iff.mp (by simpa using this))
  · rw [if_neg hL]
    obtain ⟨nm, hn⟩ := hasT_some (H.longest_mem (told.take (p + 1)))
    have hn' : nmOf ks (Lp ks told (p + 1)) = some nm := hn
    rw [hn', Option.getD_some, prefix_take]
    constructor
    · intro h
      exact (H.suf_of_nm hw hnw hn' h).trans (longest_suf _ _)
    · intro h
      exact H.nm_of_suf hw hnw _ _ rfl nm hn' (suf_le h (longest_suf _ _) (longest_max h hw h4 hww))
theorem cnt_le {has : T → Bool} {l : T} {lo : Nat} (h1 : 1 ≤ lo) : ∀ n, cnt has l lo n ≤ n + 1 - lo
  | 0 => by unfold cnt; omega
  | n + 1 => by
    have := cnt_le (has := has) (l := l) h1 n
    show cnt has l lo n + (if _ then 1 else 0) ≤ _
    split
    · rename_i q; have := q.1; omega
    · omega
def empties (rs : List Row) : List Row := rs.filter fun r => r.val = []
theorem empties_app (a b : List Row) : empties (a ++ b) = empties a ++ empties b := List.filter_append ..
theorem empties_falls (has : T → Bool) (p l : Nat) : (empties (falls has p told l)).length = (falls has p told l).length := by
  unfold empties falls
  rw [List.filter_map]
  rw [List.length_map, List.length_map]
  congr 1
  exact List.filter_eq_self.mpr fun a _ => by simp
theorem falls_bound (H : Trie ks) {p : Nat} (hp : p ≤ told.length) (l : Nat) : (falls (hasT ks) p told l).length + max 1 l ≤ max ((Lp ks told p).length + 1) (max 1 l) := by
  rw [falls_cnt hp, List.length_replicate, cnt_top H hp]
  have := cnt_le (has := hasT ks) (l := told.take p) (Nat.le_max_left 1 l) (Lp ks told p).length
  omega
theorem Lp_grow (H : Trie ks) {p : Nat} (hp : p < told.length) : (Lp ks told (p + 1)).length ≤ (Lp ks told p).length + 1 := by
  have hc : told[p]? = some told[p] := List.getElem?_eq_getElem hp
  cases hh : hasT ks (Lp ks told p ++ [told[p]]) with
  | true => rw [Lp_step H (inv_Lp H p) hc hh]; simp
  | false => have := Lp_le H (inv_Lp H p) hc hh; omega
theorem hoped_val {p : Nat} (hp : p < told.length) : (hoped ks wide told p).val ≠ [] := by
  unfold hoped
  dsimp only
  rw [List.take_one, List.head?_drop, List.getElem?_eq_getElem hp]
  simp
theorem empties_from (H : Trie ks) : ∀ (d p : Nat), told.length - p = d → p ≤ told.length → (empties (rowsFrom ks true wide told p)).length ≤ d + (Lp ks told p).length
  | 0, p, hd, hp => by
    have e : p = told.length := by omega
    subst e
    unfold rowsFrom
    rw [Nat.sub_self, List.range'_zero, List.flatMap_nil, if_pos rfl, List.nil_append, empties_falls]
    have := falls_bound H (Nat.le_refl told.length) 0
    omega
  | d + 1, p, hd, hp => by
    have hlt : p < told.length := by omega
    have ih := empties_from H d (p + 1) (by omega) (by omega)
    have e : rowsFrom ks true wide told p = rowsAt ks true wide told p ++ rowsFrom ks true wide told (p + 1) := by
      unfold rowsFrom
      rw [show told.length - p = (told.length - (p + 1)) + 1 by omega, List.range'_succ, List.flatMap_cons, List.append_assoc]
    rw [e, empties_app, List.length_append]
    have e2 : (empties (rowsAt ks true wide told p)).length = (falls (hasT ks) p told (Lp ks told (p + 1)).length).length := by
      unfold rowsAt
      rw [empties_app, if_pos rfl, List.length_append, empties_falls]
      have : empties [hoped ks wide told p] = [] := by
        unfold empties
        rw [List.filter_cons, if_neg (by rw [decide_eq_true_eq]; exact hoped_val hlt), List.filter_nil]
      rw [this]; rfl
    rw [e2]
    have h1 := falls_bound H (p := p) (by omega) (Lp ks told (p + 1)).length
    have h2 := Lp_grow H hlt
    omega
theorem empties_law (H : Trie ks) : (empties (rowsFrom ks true wide told 0)).length ≤ told.length := by
  have h0 : Lp ks told 0 = [] := by unfold Lp; rw [List.take_zero]; exact List.suffix_nil.mp (longest_suf _ _)
  have := empties_from (told := told) (wide := wide) H told.length 0 (by omega) (Nat.zero_le _)
  rw [h0] at this
  simpa using this
end
end

-- PART P3 --
section
open PySem PySem.W PySem.Calls PyProof.Rows
def addK (ks : List (T × List T)) (head : T) : List (T × List T) := if hasT ks head then ks else ks ++ [(head, (nmOf ks (longest (hasT ks) (head.drop 1))).getD [] ++ [78 :: head])]
def kw (ws : List T) (ks : List (T × List T)) (size j : Nat) : List (T × List T) := (ws.take j).foldl (fun ks w => addK ks (w.take size)) ks
def kr (ws : List T) (n : Nat) : List (T × List T) := (List.range n).foldl (fun ks i => kw ws ks (i + 1) ws.length) [([], [tHit])]
theorem kr_succ (ws : List T) (n : Nat) : kr ws (n + 1) = kw ws (kr ws n) (n + 1) ws.length := by unfold kr; rw [List.range_succ, List.foldl_append]; rfl
theorem kw_zero (ws : List T) (ks : List (T × List T)) (n : Nat) : kw ws ks n 0 = ks := rfl
theorem kw_succ {ws : List T} {ks : List (T × List T)} {n j : Nat} {wd : T} (h : ws[j]? = some wd) : kw ws ks n (j + 1) = addK (kw ws ks n j) (wd.take n) := by
  unfold kw; rw [List.take_add_one, h, List.foldl_append]; rfl
theorem nmOf_append (ks : List (T × List T)) (h : T) (nm : List T) (x : T) : nmOf (ks ++ [(h, nm)]) x = match nmOf ks x with | some n => some n | none => if h = x then some nm else none := by
  unfold nmOf
  rw [List.find?_append]
  cases e : ks.find? fun k => k.1 = x with
  | some k => rfl
  | none =>
    by_cases q : h = x
    · simp [q]
    · simp [q]
theorem hasT_append (ks : List (T × List T)) (h : T) (nm : List T) (x : T) : hasT (ks ++ [(h, nm)]) x = (hasT ks x || decide (h = x)) := by
  unfold hasT
  rw [nmOf_append]
  cases nmOf ks x with
  | some n => rfl
  | none => by_cases q : h = x <;> simp [q]
theorem longest_congr {has has' : T → Bool} {l : T} (h : ∀ s, s <:+ l → has s = has' s) : longest has l = longest has' l := by
  unfold longest
  congr 1
  generalize List.range (min 4 l.length) = r
  induction r with
  | nil => rfl
  | cons a r ih =>
    rw [List.map_cons, List.find?_cons, List.find?_cons, h _ (List.drop_suffix _ _), ih]
structure KInv (ws : List T) (ks : List (T × List T)) (n : Nat) : Prop where
  root : ∃ r, ks = ([], [tHit]) :: r
  nd : (ks.map (·.1)).Nodup
  len : ∀ x, hasT ks x = true → x.length ≤ n ∧ ∀ c ∈ x, Mine.abc c
  pre : ∀ x c, hasT ks (x ++ [c]) = true → hasT ks x = true
  chain : ∀ x nm, x ≠ [] → nmOf ks x = some nm → ∃ nm', nmOf ks (longest (hasT ks) (x.drop 1)) = some nm' ∧ nm = nm' ++ [78 :: x]
  low : ∀ w ∈ ws, ∀ m, m < n → hasT ks (w.take m) = true
theorem KInv.nil {ws : List T} {ks : List (T × List T)} {n : Nat} (H : KInv ws ks n) : nmOf ks [] = some [tHit] := by obtain ⟨r, rfl⟩ := H.root; rfl
theorem KInv.trie {ws : List T} {ks : List (T × List T)} {n : Nat} (H : KInv ws ks n) (hn : n ≤ 4) : Trie ks := ⟨H.nil, H.pre, fun x h => ⟨Nat.le_trans (H.len x h).1 hn, (H.len x h).2⟩, H.chain⟩
theorem mem_nm {ks : List (T × List T)} : ∀ (_ : (ks.map (·.1)).Nodup) {k : T × List T}, k ∈ ks → nmOf ks k.1 = some k.2 := by
  induction ks with
  | nil => intro _ k h; cases h
  | cons a ks ih =>
    intro hnd k h
    rw [List.map_cons, List.nodup_cons] at hnd
    unfold nmOf
    rw [List.find?_cons]
    rcases List.mem_cons.mp h with rfl | h
    · simp
    · have : a.1 ≠ k.1 := fun e => hnd.1 (e ▸ List.mem_map_of_mem h)
      simp only [this, decide_false]
      exact ih hnd.2 h
theorem nm_mem {ks : List (T × List T)} {x : T} {nm : List T} (h : nmOf ks x = some nm) : (x, nm) ∈ ks := by
  unfold nmOf at h
  cases e : ks.find? fun k => k.1 = x with
  | none => rw [e] at h; cases h
  | some k =>
    rw [e] at h
    have h1 := List.find?_some e
    have h2 := List.mem_of_find?_eq_some e
    simp only [Option.map_some, Option.some.injEq, decide_eq_true_eq] at h h1
    rw [← h1, ← h]; exact h2
theorem KInv.add {ws : List T} {ks : List (T × List T)} {n : Nat} {w : T} (hw : w ∈ ws) (ha : ∀ c ∈ w, Mine.abc c) (H : KInv ws ks (n + 1)) : KInv ws (addK ks (w.take (n + 1))) (n + 1) := by
  unfold addK
  split
  · exact H
  · rename_i hno
    have hno' : hasT ks (w.take (n + 1)) = false := by cases e : hasT ks (w.take (n + 1)) with
      | false => rfl
      | true => exact absurd e hno
    have hlen : n < w.length := by
      rcases Nat.lt_or_ge n w.length with q | q
      · exact q
      · exfalso
        have := H.low w hw n (Nat.lt_succ_self n)
        rw [List.take_of_length_le q] at this
        rw [List.take_of_length_le (by omega), this] at hno'
        cases hno'
    obtain ⟨c, hc⟩ : ∃ c, w[n]? = some c := ⟨_, List.getElem?_eq_getElem hlen⟩
    have he : w.take (n + 1) = w.take n ++ [c] := by rw [List.take_add_one, hc]; rfl
    have hl : (w.take (n + 1)).length = n + 1 := by rw [List.length_take]; omega
    have hmono : ∀ x, hasT ks x = true → hasT (ks ++ [(w.take (n + 1), (nmOf ks (longest (hasT ks) ((w.take (n + 1)).drop 1))).getD [] ++ [78 :: w.take (n + 1)])]) x = true := fun x h => by rw [hasT_append, h]; rfl
    have hlow : ∀ x : T, x.length ≤ n → hasT (ks ++ [(w.take (n + 1), (nmOf ks (longest (hasT ks) ((w.take (n + 1)).drop 1))).getD [] ++ [78 :: w.take (n + 1)])]) x = hasT ks x := fun x h => by
      rw [hasT_append, decide_eq_false (fun e => by rw [← e, hl] at h; omega), Bool.or_false]
    have hlong : ∀ x : T, x.length ≤ n + 1 → longest (hasT (ks ++ [(w.take (n + 1), (nmOf ks (longest (hasT ks) ((w.take (n + 1)).drop 1))).getD [] ++ [78 :: w.take (n + 1)])])) (x.drop 1) = longest (hasT ks) (x.drop 1) := fun x h =>
      longest_congr fun s hs => hlow s (by have := hs.length_le; rw [List.length_drop] at this; omega)
    have hhere : ∀ x : T, x.length ≤ n + 1 → ∃ nm', nmOf ks (longest (hasT ks) (x.drop 1)) = some nm' := fun x _ => by
      rcases longest_has (hasT ks) (x.drop 1) with e | e
      · rw [e]; exact ⟨_, H.nil⟩
      · exact hasT_some e
    refine ⟨?_, ?_, fun x hx => ?_, fun x d hx => ?_, fun x nm hx hn => ?_, fun u hu m hm => hmono _ (H.low u hu m hm)⟩
    · obtain ⟨r, hr⟩ := H.root
      exact ⟨r ++ [_], by rw [hr]; rfl⟩
    · rw [List.map_append, List.nodup_append]
      refine ⟨H.nd, by simp, fun a ha b hb => ?_⟩
      rw [List.map_cons, List.map_nil, List.mem_singleton] at hb
      rintro rfl
      obtain ⟨k, hk, e⟩ := List.mem_map.mp ha
      have := mem_nm H.nd hk
      rw [e, hb] at this
      unfold hasT at hno'
      rw [this] at hno'; cases hno'
    · rw [hasT_append, Bool.or_eq_true, decide_eq_true_eq] at hx
      rcases hx with hx | rfl
      · exact H.len x hx
      · exact ⟨Nat.le_of_eq hl, fun c hc => ha c (List.mem_of_mem_take hc)⟩
    · rw [hasT_append, Bool.or_eq_true, decide_eq_true_eq] at hx
      rcases hx with hx | hx
      · exact hmono _ (H.pre x d hx)
      · rw [he] at hx
        have : x = w.take n := by
          have := congrArg List.dropLast hx
          simpa using this.symm
        rw [this]; exact hmono _ (H.low w hw n (Nat.lt_succ_self n))
    · have hxl : x.length ≤ n + 1 := by
        have : hasT (ks ++ [(w.take (n + 1), (nmOf ks (longest (hasT ks) ((w.take (n + 1)).drop 1))).getD [] ++ [78 :: w.take (n + 1)])]) x = true := Option.isSome_iff_exists.mpr ⟨_, hn⟩
        rw [hasT_append, Bool.or_eq_true, decide_eq_true_eq] at this
        rcases this with h | h
        · exact (H.len x h).1
        · rw [← h, hl]; exact Nat.le_refl _
      rw [hlong x hxl]
      have hold : ∀ y nm', nmOf ks y = some nm' → nmOf (ks ++ [(w.take (n + 1), (nmOf ks (longest (hasT ks) ((w.take (n + 1)).drop 1))).getD [] ++ [78 :: w.take (n + 1)])]) y = some nm' := fun y nm' h => by rw [nmOf_append, h]
      rw [nmOf_append] at hn
      cases e : nmOf ks x with
      | some nm₀ =>
        rw [e] at hn
        cases hn
        obtain ⟨nm', h1, h2⟩ := H.chain x _ hx e
        exact ⟨nm', hold _ _ h1, h2⟩
      | none =>
        rw [e] at hn
        dsimp only at hn
        split at hn
        · rename_i q
          cases hn
          obtain ⟨nm', h1⟩ := hhere x hxl
          refine ⟨nm', hold _ _ h1, ?_⟩
          rw [q, h1]; rfl
        · cases hn
theorem addK_has {ks : List (T × List T)} {h x : T} (hx : hasT ks x = true ∨ x = h) : hasT (addK ks h) x = true := by
  unfold addK
  split
  · rename_i q
    rcases hx with hx | rfl
    · exact hx
    · exact q
  · rw [hasT_append]
    rcases hx with hx | rfl
    · rw [hx]; rfl
    · simp
theorem addK_len (ks : List (T × List T)) (h : T) : (addK ks h).length ≤ ks.length + 1 := by unfold addK; split <;> simp
theorem kw_all {ws : List T} {n : Nat} (hw : ∀ w ∈ ws, ∀ c ∈ w, Mine.abc c) {ks : List (T × List T)} (H : KInv ws ks (n + 1)) : ∀ j, j ≤ ws.length → KInv ws (kw ws ks (n + 1) j) (n + 1) ∧ (kw ws ks (n + 1) j).length ≤ ks.length + j ∧ ∀ w ∈ ws.take j, hasT (kw ws ks (n + 1) j) (w.take (n + 1)) = true
  | 0, _ => ⟨H, Nat.le_refl _, by simp⟩
  | j + 1, hj => by
    obtain ⟨h1, h2, h3⟩ := kw_all hw H j (by omega)
    have hs : ws[j]? = some ws[j] := List.getElem?_eq_getElem (by omega)
    rw [kw_succ hs]
    refine ⟨h1.add (List.getElem_mem _) (hw _ (List.getElem_mem _)), ?_, fun w hwm => ?_⟩
    · have := addK_len (kw ws ks (n + 1) j) (ws[j].take (n + 1)); omega
    · rw [List.take_add_one, hs] at hwm
      rcases List.mem_append.mp hwm with h | h
      · exact addK_has (.inl (h3 w h))
      · have e : w = ws[j] := by simpa using h
        exact addK_has (.inr (by rw [e]))
theorem kr_all {ws : List T} (hw : ∀ w ∈ ws, ∀ c ∈ w, Mine.abc c) : ∀ n, KInv ws (kr ws n) (n + 1) ∧ (kr ws n).length ≤ 1 + n * ws.length
  | 0 => by
    refine ⟨⟨⟨[], rfl⟩, by simp [kr], fun x h => ?_, fun x c h => ?_, fun x nm hx hn => ?_, fun w _ m hm => by rw [show m = 0 by omega, List.take_zero]; rfl⟩, by simp [kr]⟩
    · have : x = [] := by
        unfold hasT nmOf kr at h
        by_cases q : ([] : T) = x
        · exact q.symm
        · simp [q] at h
      rw [this]; simp
    · exfalso
      unfold hasT nmOf kr at h
      simp at h
    · exfalso
      unfold nmOf kr at hn
      have : ¬ ([] : T) = x := fun e => hx e.symm
      simp [this] at hn
  | n + 1 => by
    obtain ⟨h1, h2⟩ := kr_all hw n
    obtain ⟨h3, h4, h5⟩ := kw_all hw h1 ws.length (Nat.le_refl _)
    rw [kr_succ]
    refine ⟨⟨h3.root, h3.nd, fun x hx => ⟨Nat.le_succ_of_le (h3.len x hx).1, (h3.len x hx).2⟩, h3.pre, h3.chain, fun w hwm m hm => ?_⟩, ?_⟩
    · rcases Nat.lt_succ_iff_lt_or_eq.mp hm with h | rfl
      · exact h3.low w hwm m h
      · rw [List.take_length] at h5; exact h5 w hwm
    · have : (n + 1) * ws.length = n * ws.length + ws.length := Nat.succ_mul _ _
      omega
section
variable {ws : List T} (hw : ∀ x ∈ ws, WordOk x)
theorem kr_eq (ws : List T) : kr ws 4 = kw ws (kr ws 3) 4 ws.length := kr_succ ws 3
include hw
theorem words_abc : ∀ w ∈ ws, ∀ c ∈ w, Mine.abc c := fun w h => (hw w h).2.2
theorem kw_trie {n j : Nat} (hn : n < 4) (hj : j ≤ ws.length) : Trie (kw ws (kr ws n) (n + 1) j) := (kw_all (words_abc hw) (kr_all (words_abc hw) n).1 j hj).1.trie (by omega)
theorem kw_len {n j : Nat} (hn : n < 4) (hj : j ≤ ws.length) (h4 : ws.length ≤ 4) : (kw ws (kr ws n) (n + 1) j).length ≤ 17 := by
  have h1 := (kw_all (words_abc hw) (kr_all (words_abc hw) n).1 j hj).2.1
  have h2 := (kr_all (words_abc hw) n).2
  have h3 : n * ws.length ≤ 3 * ws.length := Nat.mul_le_mul_right _ (by omega)
  omega
theorem kr_inv : KInv ws (kr ws 4) 5 := (kr_all (words_abc hw) 4).1
theorem kr_trie : Trie (kr ws 4) := by rw [kr_eq]; exact kw_trie hw (by omega) (Nat.le_refl _)
theorem kr_word {w : T} (h : w ∈ ws) : hasT (kr ws 4) w = true := by
  have := (kr_inv hw).low w h 4 (by omega)
  rwa [List.take_of_length_le (hw w h).2.1] at this
theorem kr_ok (h4 : ws.length ≤ 4) : KsOk (kr ws 4) := by
  have H := kr_inv hw
  have Ht := kr_trie hw
  obtain ⟨r, hr⟩ := H.root
  refine ⟨?_, H.nd, ⟨r, hr⟩, fun k hk => ?_, fun k hk => ?_⟩
  · have := (kr_all (words_abc hw) 4).2; omega
  · have h1 := mem_nm H.nd hk
    have h2 : hasT (kr ws 4) k.1 = true := by unfold hasT; rw [h1]; rfl
    have h3 := Ht.abc _ h2
    have h4 := Ht.nm_len _ _ rfl _ h1
    exact ⟨h3.1, h3.2, h4.2, by omega⟩
  · have hnd := H.nd
    rw [hr] at hnd hk
    rw [List.map_cons, List.nodup_cons] at hnd
    intro e
    exact hnd.1 (by
      have := List.mem_map_of_mem (f := (·.1)) hk
      rw [e] at this; exact this)
end
end

end

-- PART B20 --
section
open PySem PySem.W PySem.Calls PyProof.Rows
section
variable {M : Model} {prog : Program} {w : World} {A : Around} {E : Value → Shared → Prop} {R : Result → Shared → Prop} {s₀ s s' : Shared} {g₀ g g' : Mem} {X : List Addr} {L : Addr} {m : Str → Option Value} {c : List (Addr × Obj)} {env : Env}
theorem St.change {c' : List (Addr × Obj)} (S : St w s₀ g₀ X L m c g s) {h' : Heap} {t : Nat} (hk : ∀ b o, (∀ p ∈ c, p.1 ≠ b) → s.heap.get? b = some o → h'.get? b = some o) (ha : c'.map (·.1) = c.map (·.1))
    (hc : ∀ p ∈ c', h'.get? p.1 = some p.2) (hz : s.heap.objs.size ≤ h'.objs.size) : St w s₀ g₀ X L m c' g { s with heap := h', toks := t } := by
  refine ⟨S.base, ?_, fun b o hb e => ?_, S.above, fun b o e => hk b o (fun p hp q => ?_) (S.gg b o e), S.grow, S.low, S.gL, fun p hp => ?_, ha ▸ S.nd, S.gens, S.os, Nat.le_trans S.size hz⟩
  · obtain ⟨oL, es, ep, h1, r⟩ := S.ns
    exact ⟨oL, es, ep, hk _ _ (fun p hp => (S.cc p hp).2.1) h1, r⟩
  · refine hk b o (fun p hp q => ?_) (S.keep b o hb e)
    rcases (S.cc p hp).2.2.2 with z | z
    · rw [q] at z; exact absurd (Heap.lt_size e) (Nat.not_lt.mpr z)
    · exact hb (q ▸ z)
  · rw [← q, (S.cc p hp).2.2.1] at e; cases e
  · have : p.1 ∈ c.map (·.1) := ha ▸ List.mem_map_of_mem hp
    obtain ⟨q, hq, e⟩ := List.mem_map.mp this
    have z := S.cc q hq
    rw [e] at z
    exact ⟨hc p hp, z.2⟩
theorem St.newCell {m' : Str → Option Value} {c' : List (Addr × Obj)} {a : Addr} {o : Obj} (S : St w s₀ g₀ X L m c g s) (S' : St w s₀ g₀ X L m' c' g s') (ha : s.heap.objs.size ≤ a) (ho : s'.heap.get? a = some o) (hc : ∀ p ∈ c', p.1 ≠ a) : St w s₀ g₀ X L m' ((a, o) :: c') g s' := by
  refine { S' with cc := fun p hp => ?_, nd := ?_ }
  · rcases List.mem_cons.mp hp with rfl | hp
    · refine ⟨ho, Nat.ne_of_gt (Nat.lt_of_lt_of_le S.lt ha), ?_, .inl (Nat.le_trans S.size ha)⟩
      cases q : g a with
      | none => rfl
      | some o' => exact absurd (Heap.lt_size (S.gg _ _ q)) (Nat.not_lt.mpr ha)
    · exact S'.cc p hp
  · rw [List.map_cons, List.nodup_cons]
    exact ⟨fun hm => by obtain ⟨p, hp, e⟩ := List.mem_map.mp hm; exact hc p hp e, S'.nd⟩
theorem St.cne (S : St w s₀ g₀ X L m c g s) {a : Addr} (ha : s.heap.objs.size ≤ a) : ∀ p ∈ c, p.1 ≠ a := fun p hp e => by
  have := Heap.lt_size (S.cc p hp).1
  rw [e] at this
  exact absurd this (Nat.not_lt.mpr ha)
theorem assign_tup {elts : List Expr} {x1} {pos : Pos} {t : Addr} {vs : List Value} {Q : Unit → Shared → Prop} (S : St w s₀ g₀ X L m c g s) (hh : A.handled = none) (ht : TupAt s.heap.get? t vs)
    (hn : (assignEach elts env).length = vs.length) (hstar : (assignEach elts env).findIdx? (·.1) = none)
    (h : ∀ s', St w s₀ g₀ X L m c g s' → wpAny (model prog w) A (assignInOrder ((assignEach elts env).map (·.2)) vs) Q E s') :
    wpAny (model prog w) A (assign (.Tuple elts x1 pos) env (.ref t)) Q E s := by
  rw [arm_assign_Tuple]
  refine wpAny_bind (wpAny_standAt ?_)
  unfold unpack
  rw [hn, hstar]
  have e : vs.length = vs.toArray.size := by simp
  rw [e]
  refine wpAny_bind (wpAny_holding (withSize (wpAny_unpackItems_tuple hh ht.isTup fun h' hx hz => ?_)))
  exact h _ (S.extK (t := s.toks) (fun b o e => hx b o (Nat.ne_of_lt (Heap.lt_size e)) e) hz)
theorem as_pair {x1 x2 : Str} {p1 p2 tp : Pos} {k} {t : Addr} {v1 v2 : Value} {Q : Unit → Shared → Prop} (S : St w s₀ g₀ X L m c g s) (hh : A.handled = none) (ht : TupAt s.heap.get? t [v1, v2]) (h : ∀ s', St w s₀ g₀ X L (up (up m x1 v1) x2 v2) c g s' → Q () s')
    (hL : env.locals = L := by with_unfolding_all rfl) (hk : env.scope.kind = .function := by with_unfolding_all rfl) (hl1 : env.kindOf x1 = some .local := by with_unfolding_all rfl) (hl2 : env.kindOf x2 = some .local := by with_unfolding_all rfl) :
    wpAny (model prog w) A (assign (.Tuple [.Name x1 p1, .Name x2 p2] k tp) env (.ref t)) Q E s := by
  refine assign_tup S hh ht rfl rfl fun s₁ S1 => ?_
  show wpAny _ _ (do holding [v2] (assign (.Name x1 p1) env v1); do holding [] (assign (.Name x2 p2) env v2); pure ()) _ _ _
  exact wpAny_bind (wpAny_holding (wpAny_assign_Name (stl S1 (fun s₂ S₂ => wpAny_bind (wpAny_holding (wpAny_assign_Name (stl S₂ (fun s₃ S₃ => wpAny_pure (h s₃ S₃)) hL hk hl2)))) hL hk hl1)))
theorem as_triple {x1 x2 x3 : Str} {p1 p2 p3 tp : Pos} {k} {t : Addr} {v1 v2 v3 : Value} {Q : Unit → Shared → Prop} (S : St w s₀ g₀ X L m c g s) (hh : A.handled = none) (ht : TupAt s.heap.get? t [v1, v2, v3]) (h : ∀ s', St w s₀ g₀ X L (up (up (up m x1 v1) x2 v2) x3 v3) c g s' → Q () s')
    (hL : env.locals = L := by with_unfolding_all rfl) (hk : env.scope.kind = .function := by with_unfolding_all rfl) (hl1 : env.kindOf x1 = some .local := by with_unfolding_all rfl) (hl2 : env.kindOf x2 = some .local := by with_unfolding_all rfl) (hl3 : env.kindOf x3 = some .local := by with_unfolding_all rfl) :
    wpAny (model prog w) A (assign (.Tuple [.Name x1 p1, .Name x2 p2, .Name x3 p3] k tp) env (.ref t)) Q E s := by
  refine assign_tup S hh ht rfl rfl fun s₁ S1 => ?_
  show wpAny _ _ (do holding [v2, v3] (assign (.Name x1 p1) env v1); do holding [v3] (assign (.Name x2 p2) env v2); do holding [] (assign (.Name x3 p3) env v3); pure ()) _ _ _
  exact wpAny_bind (wpAny_holding (wpAny_assign_Name (stl S1 (fun s₂ S₂ => wpAny_bind (wpAny_holding (wpAny_assign_Name (stl S₂ (fun s₃ S₃ => wpAny_bind (wpAny_holding (wpAny_assign_Name (stl S₃ (fun s₄ S₄ => wpAny_pure (h s₄ S₄)) hL hk hl3)))) hL hk hl2)))) hL hk hl1)))
theorem lo_other {elts : List Expr} {x1} {pos : Pos} {it a : Addr} {o : Obj} {n : String} {vs : Array Value} {Q : Unit → Shared → Prop} (hi : s.heap.get? it = some o) (hc : o.cls = .type n) (hd : o.data = .fields vs)
    (hn : ["enumerate", "zip", "dict_itemiterator", "dict_reverseitemiterator", "odict_iterator", "itertools.zip_longest", "itertools.pairwise"].contains n = false) (h : Q () s) :
    wpAny (model prog w) A (letOwnedTupleGo (.Tuple elts x1 pos) (.ref it) (.ref a)) Q E s := by
  unfold letOwnedTupleGo
  refine wpAny_bind (wpAny_load hi ?_)
  rw [hc, hd]
  show wpAny _ A (if (["enumerate", "zip", "dict_itemiterator", "dict_reverseitemiterator", "odict_iterator", "itertools.zip_longest", "itertools.pairwise"].contains n && vs[0]? == some (rawInt a)) = true then _ else _) Q E s
  rw [hn, Bool.false_and, if_neg Bool.false_ne_true]
  exact wpAny_pure h
theorem enum_loop {xi xv : Str} {pi pv tp : Pos} {k} {body orelse : List Stmt} {l : Addr} {vs : List Value} {Q : Flow → Shared → Prop} {E0 : Value → Shared → Prop} (S : St w s₀ g₀ X L m c g s) (hl : LstAt g l vs) (hh : A.handled = none)
    (Inv : Nat → Mem → (Str → Option Value) → List (Addr × Obj) → Prop) (h0 : Inv 0 g m c)
    (turn : ∀ i v g' m' c' s' tk e oe it oi E', vs[i]? = some v → Le g g' → Inv i g' m' c' → St w s₀ g₀ X L (up (up m' xi (.int i tk)) xv v) ((e, oe) :: (it, oi) :: c') g' s' →
      wpAny (model prog w) A (execs body env) (fun f s₃ => match f with
        | .next | .cont => ∃ g'' m'' c'', Le g g'' ∧ St w s₀ g₀ X L m'' ((e, oe) :: (it, oi) :: c'') g'' s₃ ∧ Inv (i + 1) g'' m'' c''
        | .brk => Q .next s₃
        | .ret v => Q (.ret v) s₃) E' s')
    (done : ∀ g' m' c' s' E', Le g g' → Inv vs.length g' m' c' → St w s₀ g₀ X L m' c' g' s' → wpAny (model prog w) A (execs orelse env) Q E' s')
    (hL : env.locals = L := by with_unfolding_all rfl) (hk : env.scope.kind = .function := by with_unfolding_all rfl) (hl1 : env.kindOf xi = some .local := by with_unfolding_all rfl) (hl2 : env.kindOf xv = some .local := by with_unfolding_all rfl) :
    wpAny (model prog w) A (call (.type "enumerate") [.ref l]) (fun x s₁ => wpAny (model prog w) A (pyIter x) (fun it s₂ =>
      codeAny (model prog w) A (.forLoop (.Tuple [.Name xi pi, .Name xv pv] k tp) it body orelse env) (fun r s' => match r with | .ok f => Q f s' | .error e => E0 e s') s₂) E s₁) E s := by
  refine call_enumerate_list (hl.mono S.gg).isList fun h' he hit hz hk' => ?_
  have hlt : s.heap.objs.size ≤ h'.objs.size := by rw [hz]; exact Nat.le_add_right _ 2
  have S1 := S.extK (t := s.toks) hk' hlt
  obtain ⟨oi, hoi, hoc, hod⟩ := hit
  have S2 := S.newCell S1 (Nat.le_refl _) hoi (S.cne (Nat.le_refl _))
  have S3 := S.newCell (a := s.heap.objs.size + 1) S2 (Nat.le_succ _) he (fun p hp => by
    rcases List.mem_cons.mp hp with rfl | hp
    · exact Nat.ne_of_lt (Nat.lt_succ_self _)
    · exact S.cne (Nat.le_succ _) p hp)
  refine wpAny_pyIter_enum he ?_
  generalize s.heap.objs.size + 1 = e at *
  generalize s.heap.objs.size = it at *
  refine codeAny_forLoop_any (fun k s' => ∃ i g' m' c' oe oi old, k + i = vs.length ∧ Le g g' ∧ St w s₀ g₀ X L m' ((e, oe) :: (it, oi) :: c') g' s' ∧ IsEnum s'.heap e it (i : Int) old ∧ s'.heap.IsListIter it l i ∧ Inv i g' m' c') ?_ vs.length
    ⟨0, g, m, c, _, oi, .none, rfl, Le.refl _, S3, he, ⟨oi, hoi, hoc, hod⟩, h0⟩
  rintro n s' ⟨i, g', m', c', oe, oi', old, hki, hle, S', he', hit', hI⟩
  have hlst := (hl.mono (hle.trans S'.gg)).isList
  have hei : e ≠ it := by
    have := S'.nd
    simp only [List.map_cons, List.nodup_cons, List.mem_cons, not_or] at this
    exact this.1.1
  by_cases hi : i < vs.length
  · obtain ⟨v, hv⟩ : ∃ v, vs[i]? = some v := ⟨_, List.getElem?_eq_getElem hi⟩
    refine wpAny_pyNext_enum_item he' hit' hlst (by simpa using hv) hei fun h₁ heo hit₁ ht₁ hz₁ hk₁ => ?_
    obtain ⟨oi₁, hoi₁, hoc₁⟩ := hit₁
    obtain ⟨oe₁, hoe₁⟩ : ∃ o, h₁.get? e = some o := ⟨_, heo⟩
    have Sa : St w s₀ g₀ X L m' ((e, oe₁) :: (it, oi₁) :: c') g' { s' with heap := h₁, toks := s'.toks + 1 } := S'.change (c' := (e, oe₁) :: (it, oi₁) :: c') (fun b o hb x => hk₁ b o (Ne.symm (hb (e, oe) (List.mem_cons_self ..))) (Ne.symm (hb (it, oi') (List.mem_cons_of_mem _ (List.mem_cons_self ..)))) x) rfl (fun p hp => by
      rcases List.mem_cons.mp hp with rfl | hp
      · exact hoe₁
      rcases List.mem_cons.mp hp with rfl | hp
      · exact hoi₁
      · have z := S'.cc p (List.mem_cons_of_mem _ (List.mem_cons_of_mem _ hp))
        have nd := S'.nd
        simp only [List.map_cons, List.nodup_cons, List.mem_cons, not_or] at nd
        exact hk₁ _ _ (fun q => nd.1.2 (List.mem_map.mpr ⟨p, hp, q⟩)) (fun q => nd.2.1 (List.mem_map.mpr ⟨p, hp, q⟩)) z.1) (by rw [hz₁]; exact Nat.le_succ _)
    refine wpAny_letOwnedTupleGo_enum heo fun h₂ he₂ hs₂ => ?_
    have Sb : St w s₀ g₀ X L m' ((e, _) :: (it, oi₁) :: c') g' { s' with heap := h₂, toks := s'.toks + 1 } := Sa.upd0 (t := s'.toks + 1) (fun b o hb x => (hs₂.2 b hb).trans x) he₂ (Nat.le_of_eq hs₂.1.symm)
    have heH : e < s'.heap.objs.size := Heap.lt_size he'
    have ht₂ : h₂.get? s'.heap.objs.size = some { cls := .type "tuple", data := .seq #[.int (i : Int) s'.toks, v] } := (hs₂.2 _ (Nat.ne_of_gt heH)).trans ht₁
    have hnone : g' s'.heap.objs.size = none := S'.none_at (get_size _)
    refine as_pair Sb hh ⟨_, ht₂, rfl, 0, rfl⟩ (fun s₃ S₃ => ?_) hL hk hl1 hl2
    refine wpAny_mono (turn i v g' m' c' s₃ s'.toks e _ it oi₁ _ hv hle hI S₃) (fun f s₄ h₄ => ?_) fun _ _ x => x
    have fin : ∀ g'' m'' c'', Le g g'' → St w s₀ g₀ X L m'' ((e, _) :: (it, oi₁) :: c'') g'' s₄ → Inv (i + 1) g'' m'' c'' → ∃ m, m < n ∧ ∃ i g' m' c' oe oi old, m + i = vs.length ∧ Le g g' ∧ St w s₀ g₀ X L m' ((e, oe) :: (it, oi) :: c') g' s₄ ∧ IsEnum s₄.heap e it (i : Int) old ∧ s₄.heap.IsListIter it l i ∧ Inv i g' m' c' :=
      fun g'' m'' c'' a b d => ⟨n - 1, by omega, i + 1, g'', m'', c'', _, oi₁, v, by omega, a, b, b.cell0, ⟨oi₁, b.drop.cell0, hoc₁⟩, d⟩
    cases f with
    | next => obtain ⟨g₃, m₃, c₃, a, b, d⟩ := h₄; exact fin g₃ m₃ c₃ a b d
    | cont => obtain ⟨g₃, m₃, c₃, a, b, d⟩ := h₄; exact fin g₃ m₃ c₃ a b d
    | brk => exact h₄
    | ret v => exact h₄
  · have hin : i = vs.length := by omega
    subst hin
    refine withSize (wpAny_pyNext_enum_end hh he' hit' hlst (by simp) fun h₁ hx hz₁ => ?_)
    exact done g' m' c' _ _ hle hI (S'.drop.lose (t := s'.toks) (fun b o hb x => hx b o hb x) hz₁)
theorem items_loop {xi xv : Str} {pi pv tp : Pos} {kk} {body orelse : List Stmt} {d : Addr} {od : Obj} {kvs : List (Str × Value)} {Q : Flow → Shared → Prop} {E0 : Value → Shared → Prop} (S : St w s₀ g₀ X L m c g s) (hd : g d = some od) (D : DictObj prog w od kvs) (hm : (d == sysModules) = false) (hh : A.handled = none)
    (Inv : Nat → Mem → (Str → Option Value) → List (Addr × Obj) → Prop) (h0 : Inv 0 g m c)
    (turn : ∀ i k t v g' m' c' s' it oi E', kvs[i]? = some (k, v) → Le g g' → Inv i g' m' c' → St w s₀ g₀ X L (up (up m' xi (.str k t)) xv v) ((it, oi) :: c') g' s' →
      wpAny (model prog w) A (execs body env) (fun f s₃ => match f with
        | .next | .cont => ∃ g'' m'' c'', Le g g'' ∧ St w s₀ g₀ X L m'' ((it, oi) :: c'') g'' s₃ ∧ Inv (i + 1) g'' m'' c''
        | .brk => Q .next s₃
        | .ret v => Q (.ret v) s₃) E' s')
    (done : ∀ g' m' c' s' E', Le g g' → Inv kvs.length g' m' c' → St w s₀ g₀ X L m' c' g' s' → wpAny (model prog w) A (execs orelse env) Q E' s')
    (hL : env.locals = L := by with_unfolding_all rfl) (hk : env.scope.kind = .function := by with_unfolding_all rfl) (hl1 : env.kindOf xi = some .local := by with_unfolding_all rfl) (hl2 : env.kindOf xv = some .local := by with_unfolding_all rfl) :
    wpAny (model prog w) A (call (.builtin "dict.items") [.ref d]) (fun x s₁ => wpAny (model prog w) A (pyIter x) (fun it s₂ =>
      codeAny (model prog w) A (.forLoop (.Tuple [.Name xi pi, .Name xv pv] kk tp) it body orelse env) (fun r s' => match r with | .ok f => Q f s' | .error e => E0 e s') s₂) E s₁) E s := by
  obtain ⟨es, ep, hdat, hat⟩ := D.at
  have hD := D.dictOf (S.gg _ _ hd)
  refine call_meetsIn F.slot_dict_items hD.typeIs F.entry_dict_items (F.args_dict_items_1 _) (meets_dict_items (strKind prog w) d hm) ⟨⟨kvs, hD⟩, ?_⟩
  have S1 := S.push { cls := .type "dict_items", data := .fields #[.ref d] } s.toks
  refine wpAny_pyIter_items (knd := strKind prog w) (d := d) (kvs := kvs) (ep := ep) ⟨_, Heap.get?_push_size _ rfl, rfl, rfl⟩ (hat _ _ (S1.gg _ _ hd)) ?_
  have S2 := S1.pushC { cls := .type "dict_itemiterator", data := .fields #[.none, .bool false, .ref d, .int 0 0, .int kvs.length 0, .int ep 0, .none, .none] } s.toks
  refine codeAny_forLoop_any (fun n s' => ∃ i g' m' c' oi ok ov, n + i = kvs.length ∧ Le g g' ∧ St w s₀ g₀ X L m' ((_, oi) :: c') g' s' ∧ IsItemIter s'.heap _ d i kvs.length ep ok ov ∧ Inv i g' m' c') ?_ kvs.length
    ⟨0, g, m, c, _, .none, .none, rfl, Le.refl _, S2, S2.cell0, h0⟩
  rintro n s' ⟨i, g', m', c', oi, ok, ov, hki, hle, S', he', hI⟩
  have hdat' := hat s'.heap d (S'.gg _ _ (hle _ _ hd))
  by_cases hi : i < kvs.length
  · obtain ⟨⟨k, v⟩, hv⟩ : ∃ v, kvs[i]? = some v := ⟨_, List.getElem?_eq_getElem hi⟩
    refine wpAny_pyNext_items_item he' hdat' hv fun key h₁ hkey heo ht₁ hz₁ hk₁ => ?_
    obtain ⟨t, rfl⟩ := Value.isStrOf_shape hkey
    obtain ⟨oe₁, hoe₁⟩ : ∃ o, h₁.get? _ = some o := ⟨_, heo⟩
    have Sa := S'.upd0 (t := s'.toks) hk₁ hoe₁ (by rw [hz₁]; exact Nat.le_succ _)
    refine wpAny_letOwnedTupleGo_items heo fun h₂ he₂ hs₂ => ?_
    have Sb := Sa.upd0 (t := s'.toks) (fun b o hb x => (hs₂.2 b hb).trans x) he₂ (Nat.le_of_eq hs₂.1.symm)
    have heH := Heap.lt_size he'
    have ht₂ : h₂.get? s'.heap.objs.size = some { cls := .type "tuple", data := .seq #[.str k t, v] } := (hs₂.2 _ (Nat.ne_of_gt heH)).trans ht₁
    refine as_pair Sb hh ⟨_, ht₂, rfl, 0, rfl⟩ (fun s₃ S₃ => ?_) hL hk hl1 hl2
    refine wpAny_mono (turn i k t v g' m' c' s₃ _ _ _ hv hle hI S₃) (fun f s₄ h₄ => ?_) fun _ _ x => x
    cases f with
    | next => obtain ⟨g₃, m₃, c₃, a, b, dd⟩ := h₄; exact ⟨n - 1, by omega, i + 1, g₃, m₃, c₃, _, _, _, by omega, a, b, b.cell0, dd⟩
    | cont => obtain ⟨g₃, m₃, c₃, a, b, dd⟩ := h₄; exact ⟨n - 1, by omega, i + 1, g₃, m₃, c₃, _, _, _, by omega, a, b, b.cell0, dd⟩
    | brk => exact h₄
    | ret v => exact h₄
  · have hin : i = kvs.length := by omega
    subst hin
    refine withSize (wpAny_pyNext_items_end hh he' hdat' (by simp) fun h₁ hx hz₁ => ?_)
    exact done g' m' c' _ _ hle hI (S'.lose (t := s'.toks) (fun b o hb x => hx b o hb x) hz₁)
theorem list_copy {l : Addr} {vs : List Value} {Q : Value → Shared → Prop} (S : St w s₀ g₀ X L m c g s) (hl : LstAt s.heap.get? l vs) (hn : vs.length ≤ 1000)
    (h : ∀ r g' s', Le g g' → St w s₀ g₀ X L m c g' s' → LstAt g' r vs → Q (.ref r) s') : wpAny (model prog w) A (call (.type "list") [.ref l]) Q E s := by
  obtain ⟨o, ho, hc, n, hd⟩ := hl
  refine withSize (call_list_seq l (.inl rfl) ho hc hd (fun h' c' hk hD hz => ?_) (by rw [List.size_toArray, sizeLine_eq]; omega))
  have S1 := S.extK (t := s.toks) hk hz
  have S2 := S.newCell (o := lst vs c') S1 (Nat.le_refl _) hD (S.cne (Nat.le_refl _))
  exact h _ _ _ (Mem.le_put (S.none_at (get_size _))) (S2.freezeN S.size) ⟨_, Mem.put_self .., lst_is _ _⟩
theorem list_copyC {l : Addr} {vs : List Value} {Q : Value → Shared → Prop} (S : St w s₀ g₀ X L m c g s) (hl : LstAt s.heap.get? l vs ∨ TupAt s.heap.get? l vs) (hn : vs.length ≤ 1000)
    (h : ∀ r n s', s.heap.objs.size ≤ r → St w s₀ g₀ X L m ((r, lst vs n) :: c) g s' → Q (.ref r) s') : wpAny (model prog w) A (call (.type "list") [.ref l]) Q E s := by
  obtain ⟨o, ho, n, hd, T, hT, hc⟩ : ∃ o, s.heap.get? l = some o ∧ ∃ n, o.data = .seq vs.toArray n ∧ ∃ T, (T = "list" ∨ T = "tuple") ∧ o.cls = .type T := by
    rcases hl with ⟨o, ho, hc, n, hd⟩ | ⟨o, ho, hc, n, hd⟩
    · exact ⟨o, ho, n, hd, "list", .inl rfl, hc⟩
    · exact ⟨o, ho, n, hd, "tuple", .inr rfl, hc⟩
  refine withSize (call_list_seq l hT ho hc hd (fun h' c' hk hD hz => ?_) (by rw [List.size_toArray, sizeLine_eq]; omega))
  have S1 := S.extK (t := s.toks) hk hz
  exact h _ c' _ (Nat.le_refl _) (S.newCell (o := lst vs c') S1 (Nat.le_refl _) hD (S.cne (Nat.le_refl _)))
theorem d_set2 {p q : Addr × Obj} {d : Addr} {od : Obj} {kvs : List (Str × Value)} {k : Str} {t : Tok} {v : Value} {Q : Unit → Shared → Prop} (S : St w s₀ g₀ X L m (p :: q :: (d, od) :: c) g s) (D : DictObj prog w od kvs) (hn : kvs.length ≤ 1000)
    (h : ∀ od' s', St w s₀ g₀ X L m (p :: q :: (d, od') :: c) g s' → DictObj prog w od' (stored kvs k v) → Q () s') : wpAny (model prog w) A (setItem (.ref d) (.str k t) v) Q E s :=
  d_set S.rot D hn fun od' s' S' D' => h od' s' S'.unrot D'
end
end

section
local macro_rules | `(tactic| walk_at "lk") => `(tactic| first | with_reducible assumption | with_reducible exact up_self _ _ _ | with_reducible exact up_get (by with_unfolding_all decide) (by walk_at "lk") | with_unfolding_all rfl)
local macro_rules | `(tactic| walk_at "g") => `(tactic| with_reducible first
  | refine s_assign ?_
  | refine s_setattr ?_
  | refine s_setitem ?_
  | refine s_assign2 ?_
  | refine s_ret ?_
  | refine s_if1 ?_
  | refine s_if ?_
  | refine s_for ?_
  | refine s_aug ?_
  | refine s_expr ?_
  | refine s_nil ?_
  | refine s_continue ?_
  | refine s_break ?_
  | refine t_cmp ?_
  | refine t_not ?_
  | refine t_or ?_
  | refine t_or1 ?_
  | refine t_and ?_
  | refine t_and1 ?_
  | refine e_or ?_
  | refine e_and ?_
  | refine e_bool1 ?_
  | refine e_attr ?_
  | refine GM.isupper ?_
  | refine GM.split ?_
  | refine GM.join ?_
  | refine GM.endswith ?_
  | refine endswith1 ?_
  | refine e_mcall ?_
  | refine e_call ?_
  | refine e_sub ?_
  | refine e_bin ?_
  | refine e_ite ?_
  | refine s_assert ?_
  | refine e_neg ?_
  | (refine neg_i (by assumption) ?_; intro _ _ _)
  | refine e_cmp ?_
  | refine e_slice_sn ?_
  | refine e_slice_ns ?_
  | refine e_slice_ss ?_
  | refine a_nil ?_
  | refine a_cons ?_
  | refine c_type ?_
  | refine c_builtin ?_
  | refine c_meth ?_
  | refine c_builtin0 ?_
  | (refine cint (by assumption) ?_; intro _ _ _)
  | (refine cstr (by assumption) ?_; intro _ _ _)
  | refine wpAny_Constant_none ?_
  | refine wpAny_Constant_bool ?_
  | refine ldl (by assumption) (by walk_at "lk") ?_
  | refine ldlN (by assumption) (by walk_at "lk") ?_
  | refine ldn (by assumption) (by with_unfolding_all rfl) ?_
  | (refine stl (by assumption) ?_; intro _ _)
  | (refine max2 (by assumption) (by with_unfolding_all assumption) ?_; intro _ _ _)
  | (refine min2 (by assumption) (by with_unfolding_all assumption) ?_; intro _ _ _)
  | (refine Mine.sub_int (by assumption) ?_; intro _ _ _)
  | (refine Mine.add_int (by assumption) ?_; intro _ _ _)
  | (refine Mine.mod_pos (by assumption) (by omega) ?_; intro _ _ _)
  | (refine Mine.div_pos (by assumption) (by omega) (by omega) ?_; intro _ _ _)
  | (refine Mine.len_str (by assumption) (by omega) ?_; intro _ _ _)
  | refine gm_append (by assumption) (by with_unfolding_all k_mem) ?_
  | (refine append0 (by assumption) (by omega) ?_; intro _ _ _)
  | (refine append1 (by assumption) (by omega) ?_; intro _ _ _)
  | (refine append2 (by assumption) (by omega) ?_; intro _ _ _)
  | refine e_tup ?_
  | refine e_listF ?_
  | refine eqI ?_
  | refine geI ?_
  | refine leI ?_
  | refine gtI ?_
  | refine eqS ?_
  | refine isNone ?_
  | refine isntNone ?_
  | refine And.intro rfl ?_
  | refine wpAny_truthy_bool ?_
  | refine t_val ?_)
local macro_rules | `(tactic| walk_at "gg") => `(tactic| repeat' (first | walk_at "g" | dsimp only))
local macro_rules | `(tactic| walk_at "h") => `(tactic| with_reducible first
  | refine s_assign ?_
  | refine s_setattr ?_
  | refine s_setitem ?_
  | refine s_assign2 ?_
  | refine s_ret ?_
  | refine s_if1 ?_
  | refine s_if ?_
  | refine s_for ?_
  | refine s_aug ?_
  | refine s_expr ?_
  | refine s_nil ?_
  | refine s_continue ?_
  | refine s_break ?_
  | refine e_or ?_
  | refine e_and ?_
  | refine e_bool1 ?_
  | refine e_attr ?_
  | refine GM.isupper ?_
  | refine GM.split ?_
  | refine GM.join ?_
  | refine GM.endswith ?_
  | refine endswith1 ?_
  | refine e_mcall ?_
  | refine e_call ?_
  | refine e_sub ?_
  | refine e_bin ?_
  | refine e_ite ?_
  | refine s_assert ?_
  | refine e_neg ?_
  | (refine neg_i (by assumption) ?_; intro _ _ _)
  | refine e_cmp ?_
  | refine e_slice_sn ?_
  | refine e_slice_ns ?_
  | refine e_slice_ss ?_
  | refine a_nil ?_
  | refine a_cons ?_
  | refine c_type ?_
  | refine c_builtin ?_
  | refine c_meth ?_
  | refine c_builtin0 ?_
  | (refine cint (by assumption) ?_; intro _ _ _)
  | (refine cstr (by assumption) ?_; intro _ _ _)
  | refine wpAny_Constant_none ?_
  | refine wpAny_Constant_bool ?_
  | refine ldl (by assumption) (by walk_at "lk") ?_
  | refine ldlN (by assumption) (by walk_at "lk") ?_
  | refine ldn (by assumption) (by with_unfolding_all rfl) ?_
  | (refine stl (by assumption) ?_; intro _ _)
  | (refine max2 (by assumption) (by with_unfolding_all assumption) ?_; intro _ _ _)
  | (refine min2 (by assumption) (by with_unfolding_all assumption) ?_; intro _ _ _)
  | (refine Mine.sub_int (by assumption) ?_; intro _ _ _)
  | (refine Mine.add_int (by assumption) ?_; intro _ _ _)
  | (refine Mine.mod_pos (by assumption) (by omega) ?_; intro _ _ _)
  | (refine Mine.div_pos (by assumption) (by omega) (by omega) ?_; intro _ _ _)
  | (refine Mine.len_str (by assumption) (by omega) ?_; intro _ _ _)
  | refine gm_append (by assumption) (by with_unfolding_all k_mem) ?_
  | (refine append0 (by assumption) (by omega) ?_; intro _ _ _)
  | (refine append1 (by assumption) (by omega) ?_; intro _ _ _)
  | (refine append2 (by assumption) (by omega) ?_; intro _ _ _)
  | refine e_tup ?_
  | refine e_listF ?_
  | refine eqI ?_
  | refine geI ?_
  | refine leI ?_
  | refine gtI ?_
  | refine eqS ?_
  | refine isNone ?_
  | refine isntNone ?_
  | refine And.intro rfl ?_
  | refine wpAny_truthy_bool ?_)
local macro_rules | `(tactic| walk_at "hh") => `(tactic| repeat' (first | walk_at "h" | dsimp only))

-- PART F12 --
section
open PySem PySem.W PySem.Calls PyProof.Rows
def isD : Bool → Rule → Bool
  | false, .fall _ => true
  | _, _ => false
section
variable {prog : Program} {w : World} {A : Around} {E : Value → Shared → Prop} {s₀ s : Shared} {g₀ g : Mem} {X : List Addr} {L : Addr} {m : Str → Option Value} {c : List (Addr × Obj)}
theorem rule_tup {g : Mem} {v : Value} {loud : Bool} {r : Rule} (h : IsRule g loud v r) (hd : isD loud r = false) : ∃ a vs, v = .ref a ∧ TupAt g a vs := by
  cases r with
  | step c x nm =>
    cases loud with
    | true => obtain ⟨a, pv, tv, mv, h1, h2, _⟩ := h; exact ⟨a, _, h1, h2⟩
    | false => obtain ⟨a, pv, tv, mv, h1, h2, _⟩ := h; exact ⟨a, _, h1, h2⟩
  | text =>
    cases loud with
    | true => obtain ⟨a, pv, h1, h2, _⟩ := h; exact ⟨a, _, h1, h2⟩
    | false => obtain ⟨a, pv, h1, h2, _⟩ := h; exact ⟨a, _, h1, h2⟩
  | fall lower =>
    cases loud with
    | true => obtain ⟨a, pv, mv, h1, h2, _⟩ := h; exact ⟨a, _, h1, h2⟩
    | false => exact nomatch (show true = false from hd)
theorem rule_dflt {g : Mem} {v : Value} {loud : Bool} {r : Rule} (h : IsRule g loud v r) (hd : isD loud r = true) : ∃ mv lower, r = .fall lower ∧ loud = false ∧ IsDflt g v mv ∧ IsMove g mv lower := by
  cases r with
  | step c x nm => cases loud <;> exact nomatch (show false = true from hd)
  | text => cases loud <;> exact nomatch (show false = true from hd)
  | fall lower =>
    cases loud with
    | true => exact nomatch (show false = true from hd)
    | false => obtain ⟨mv, h1, h2⟩ := h; exact ⟨mv, lower, rfl, rfl, h1, h2⟩
theorem isinst_rule {loud : Bool} {v C : Value} {r : Rule} {b1 b2 : Bool} {Q : Value → Shared → Prop} (S : St w s₀ g₀ X L m c g s) (K : IsRule g loud v r) (h1 : kitOne (KK w) (.type "tuple") C = some b1) (h2 : kitOne (KK w) (.ref 461) C = some b2)
    (h : ∀ s', St w s₀ g₀ X L m c g s' → Q (.bool (if isD loud r = true then b2 else b1)) s') : wpAny (model prog w) A (call (.builtin "isinstance") [v, C]) Q E s := by
  cases hd : isD loud r with
  | false =>
    obtain ⟨a, vs, rfl, ht⟩ := rule_tup K hd
    refine isinst_tup S (ht.mono S.gg) h1 fun s' S' => ?_
    have := h s' S'
    rw [hd] at this; exact this
  | true =>
    obtain ⟨mv, lower, _, _, ⟨a, dx, od, rfl, I, _⟩, _⟩ := rule_dflt K hd
    refine isinst_own S (I.mono S.gg) (by kernel_rfl) (by kernel_rfl) (by kernel_rfl) (by kernel_rfl) (by kernel_rfl) (by kernel_rfl) h2 fun s' S' => ?_
    have := h s' S'
    rw [hd] at this; exact this
theorem inherit_spec (hr : Room A 1) (B : Base w g) (hg : Le g s.heap.get?) {la : Addr} {vs : List Value} {rs : List Rule} {loud : Bool} (hl : LstAt g la vs) (hv : All2 (IsRule g loud) vs rs)
    {R : Result → Shared → Prop} (h : ∀ s', Post [] s g s' g → R (.ok (.ret .none)) s') :
    codeAny (model prog w) A (.call (.ref 509) ⟨[.ref la], []⟩) R s := by
  refine callF (g := g) [("items", .ref la)] B hg (f := 509) rfl (by kernel_rfl) hr.lt (BindsTo.of_eq rfl) rfl (by decide) fun L s₁ S₁ => ?_
  have hh := hr.hd
  walk_at "gg"
  refine enum_loop S₁ hl hh (fun i g' m' c' => c' = [] ∧ Le g g') ⟨rfl, Le.refl _⟩ ?_ ?_
  · rintro i v g' m' c' s₂ tk e oe it oi E' hvi hle ⟨rfl, _⟩ S₂
    obtain ⟨r, hri, K⟩ := All2.get hv hvi
    walk_at "gg"
    refine isinst_rule (b1 := false) (b2 := false) (by assumption) (K.mono hle) (by kernel_rfl) (by kernel_rfl) ?_; intro s₃ S₃
    walk_at "gg"
    rw [if_neg (by split <;> decide)]
    walk_at "gg"
    exact ⟨g', _, [], hle, S₃, rfl, hle⟩
  · rintro g' m' c' s₂ E' hle ⟨rfl, _⟩ S₂
    walk_at "gg"
    exact h _ (S₂.post.of_same hg)
end
end

-- PART F13 --
section
open PySem PySem.W PySem.Calls PyProof.Rows
def IsTabD (prog : Program) (w : World) (g : Mem) (loud : Bool) (od : Obj) (tb : List (T × List Rule)) : Prop :=
  ∃ kvs, DictObj prog w od kvs ∧ All2 (fun (p : Str × Value) (k : T × List Rule) => p.1 = S k.1 ∧ IsRules g loud p.2 k.2) kvs tb
section
variable {prog : Program} {w : World} {A : Around} {s : Shared} {g : Mem}
theorem all2_take_succ {α β : Type} {P : α → β → Prop} {as : List α} {bs : List β} {i : Nat} {b : β} {a : α} (h : All2 P as (bs.take i)) (hb : bs[i]? = some b) (p : P a b) : All2 P (as ++ [a]) (bs.take (i + 1)) := by
  rw [List.take_add_one, hb]; exact h.snoc p
theorem take_mem {α : Type} {l : List α} {i : Nat} {k : α} (h : k ∈ l.take i) : ∃ j, j < i ∧ l[j]? = some k := by
  obtain ⟨j, hj⟩ := List.mem_iff_getElem?.mp h
  rw [List.getElem?_take] at hj
  split at hj
  · rename_i q; exact ⟨j, q, hj⟩
  · cases hj
theorem merged_spec (hr : Room A 2) (B : Base w g) (hg : Le g s.heap.get?) {ta td : Addr} {od : Obj} {loud : Bool} {tb : List (T × List Rule)} (ht : TupAt g ta [.ref td]) (hd : g td = some od) (K : IsTab prog w g loud td od tb) (hnd : (tb.map (·.1)).Nodup) (hn : tb.length ≤ 100)
    (hrn : ∀ k ∈ tb, k.2.length ≤ 100)
    {R : Result → Shared → Prop} (h : ∀ td' od' s' g', Post [] s g s' g' → g' td' = some od' → IsTab prog w g' loud td' od' tb → R (.ok (.ret (.ref td'))) s') :
    codeAny (model prog w) A (.call (.ref 516) ⟨[.ref ta], []⟩) R s := by
  refine callF (g := g) [("tables", .ref ta)] B hg (f := 516) rfl (by kernel_rfl) hr.lt (BindsTo.of_eq rfl) rfl (by decide) fun L s₁ S₁ => ?_
  have hh := hr.hd
  obtain ⟨kvs, D, hkv, hm⟩ := K
  walk_at "gg"
  refine e_dict0 (by assumption) ?_; intro tk odt s₂ S₂ Dt htm htl
  walk_at "gg"
  refine e_dict0 (by assumption) ?_; intro ih odi s₃ S₃ Di him hil
  walk_at "gg"
  refine it_tup (by assumption) ht ?_; intro it o s₄ S₄ ho
  have S₅ := S₄.swap.drop
  refine for_iter S₅ ho (Le.refl _) (iter_tup (A := A.deeper _) hh ht)
    (fun i g' m' c' => Le g g' ∧ ∃ odt kvt, c' = [(tk, odt)] ∧ DictObj prog w odt kvt ∧ m' "tokens" = some (.ref tk) ∧ (i = 0 → kvt = []) ∧ (i = 1 → All2 (fun (p : Str × Value) (k : T × List Rule) => p.1 = S k.1 ∧ IsRules g' loud p.2 k.2) kvt tb))
    ⟨Le.refl _, odt, [], rfl, Dt, by walk_at "lk", fun _ => rfl, fun q => by cases q⟩ ?_ ?_
  · rintro i g' m' c' s₆ o₆ v E' hi hv hle ⟨_, odt', kvt, rfl, Dt', hmt, h0, _⟩ S₆
    have hi0 : i = 0 := by simp at hi; omega
    subst hi0
    have e0 := h0 rfl
    subst e0
    simp at hv
    subst hv
    walk_at "gg"
    refine gm_items (by assumption) (St.gg (by assumption) _ _ (hle _ _ hd)) D ?_
    walk_at "gg"
    refine items_loop (by assumption) (hle _ _ hd) D hm hh
      (fun i g'' m'' c'' => Le g' g'' ∧ ∃ odt kvt, c'' = [(it, o₆), (tk, odt)] ∧ DictObj prog w odt kvt ∧ m'' "tokens" = some (.ref tk) ∧ All2 (fun (p : Str × Value) (k : T × List Rule) => p.1 = S k.1 ∧ IsRules g'' loud p.2 k.2) kvt (tb.take i))
      ⟨Le.refl _, odt', [], rfl, Dt', by walk_at "lk", trivial⟩ ?_ ?_
    · rintro j kk tt x g'' m'' c'' s₇ it₂ o₂ E'' hjk hle' ⟨_, odt'', kvt, rfl, Dt'', hmt', hkt⟩ S₇
      obtain ⟨⟨nm, rs⟩, htb, hkey, la, vs, hxe, hla, hvs⟩ := All2.get hkv hjk
      dsimp only at hkey htb hxe hvs
      subst hkey hxe
      have hrs : rs.length ≤ 100 := hrn _ (List.mem_of_getElem? htb)
      have hvl : vs.length = rs.length := hvs.length
      have hleg := hle.trans hle'
      have hfresh : ∀ p ∈ kvt, p.1 ≠ S nm := fun p hp e => by
        obtain ⟨k, hk, e1, _⟩ := all2_mem hkt p hp
        have e2 : k.1 = nm := S_inj.mp (e1.symm.trans e)
        obtain ⟨j', hj', hjk'⟩ := take_mem hk
        have h1 : (tb.map (·.1))[j']? = some nm := by rw [List.getElem?_map, hjk']; simp [e2]
        have h2 : (tb.map (·.1))[j]? = some nm := by rw [List.getElem?_map, htb]; rfl
        have hil : j < (tb.map (·.1)).length := by
          rcases Nat.lt_or_ge j (tb.map (·.1)).length with q | q
          · exact q
          · rw [List.getElem?_eq_none q] at h2; cases h2
        have := (List.getElem?_inj (by omega) hnd).mp (h1.trans h2.symm)
        omega
      have hnone : valueAt kvt (S nm) = none := by
        unfold valueAt
        rw [List.find?_eq_none.mpr (fun p hp => by simpa using hfresh p hp)]; rfl
      walk_at "gg"
      refine gm_get (od := odt'') (by assumption) (St.cell (by assumption) (by with_unfolding_all k_mem)) Dt'' ?_
      walk_at "gg"
      refine d_getm (by assumption) (St.cell (by assumption) (by with_unfolding_all k_mem)) Dt'' htm ?_; intro s₈ S₈
      rw [hnone]
      walk_at "gg"
      rw [if_pos (show ((none : Option Value).getD Value.none == Value.none) = true from rfl)]
      walk_at "gg"
      refine list_copy (by assumption) (hla.mono (hleg.trans (St.gg (by assumption)))) (by omega) ?_; intro lb g₉ s₉ hle₉ S₉ hlb
      walk_at "gg"
      refine d_set2 (by assumption) Dt'' (by have := hkt.length; rw [List.length_take] at this; omega) ?_; intro od₁₀ s₁₀ S₁₀ D₁₀
      walk_at "gg"
      refine c_fn (by assumption) (by kernel_rfl) ?_
      walk_at "gg"
      refine St.kinH (by assumption) ?_
      refine wpAny_call (inherit_spec ((hr.mono (by omega)).deeper _) (St.baseG (by assumption)) (St.gg (by assumption)) (hla.mono (hleg.trans hle₉)) (hvs.mono fun _ _ x => x.mono (hleg.trans hle₉)) ?_)
      intro s₁₁ P₁₁
      have S₁₁ := St.after (by assumption) P₁₁
      walk_at "gg"
      rw [if_pos (show (Value.none == Value.none) = true from rfl)]
      walk_at "gg"
      refine ⟨g₉, _, _, hle'.trans hle₉, by assumption, hle'.trans hle₉, od₁₀, _, rfl, D₁₀, by walk_at "lk", ?_⟩
      rw [stored_new hfresh]
      exact all2_take_succ (hkt.mono fun _ _ x => ⟨x.1, x.2.mono hle₉⟩) htb ⟨rfl, lb, vs, rfl, hlb, hvs.mono fun _ _ x => x.mono (hleg.trans hle₉)⟩
    · rintro g'' m'' c'' s₇ E'' hle' ⟨_, odt'', kvt, rfl, Dt'', hmt', hkt⟩ S₇
      walk_at "gg"
      refine ⟨g'', _, _, hle.trans hle', S₇, hle.trans hle', odt'', kvt, rfl, Dt'', hmt', fun q => by omega, fun _ => ?_⟩
      have hkl : kvs.length = tb.length := hkv.length
      rw [hkl, List.take_length] at hkt
      exact hkt
  · rintro g' m' c' s₆ E' hle ⟨_, odt', kvt, rfl, Dt', hmt, _, h1⟩ S₆
    walk_at "gg"
    have hn := (S₆.cc _ (List.mem_cons_self ..)).2.2.1
    exact h tk odt' _ _ (S₆.freezeN htl).post (Mem.put_self ..) ⟨kvt, Dt', (h1 rfl).mono (fun _ _ x => ⟨x.1, x.2.mono (Mem.le_put hn)⟩), htm⟩
end
end

end

-- PART B21 --
section
open PySem PySem.W PySem.Calls PyProof.Rows
section
variable {M : Model} {prog : Program} {w : World} {A : Around} {E : Value → Shared → Prop} {R : Result → Shared → Prop} {s₀ s s' : Shared} {g₀ g g' : Mem} {X : List Addr} {L : Addr} {m : Str → Option Value} {c : List (Addr × Obj)} {env : Env}
theorem get_bound {x C dx f : Addr} {od : Obj} {name : Str} {expr : Bool} {Q : Value → Shared → Prop} (S : St w s₀ g₀ X L m c g s) (I : InstG s.heap.get? x C dx od) (hg : plainGet (KK w) C name = true) (hh : hasDictIn (KK w) C = true) (ha : findIn (KK w) (.ref C) name = some (some (.ref f))) (hf : isFn (KK w) (.ref f) = true)
    (hgf : specialIn (KK w) (.ref f) "__get__" = some (some (.builtin "function.__get__"))) (ht : takesIn (KK w) (.ref f) = some false) (hc : copiedNames.contains name = false) (hl : lookIn name od = some none)
    (h : ∀ q g' s', Le g g' → St w s₀ g₀ X L m c g' s' → g' q = some (methodObj (.ref f) (.ref x)) → Q (.ref q) s') : wpAny (model prog w) A (getAttr (.ref x) name expr) Q E s := by
  refine get_bind S.kin I.at (plainGet_of hg).1 (findObj_fn hh ha hgf ht hc hl) (plainGet_of hg).2 (wpAny_call (fn_get (s := { s with toks := s.toks + 1 }) (S.toks (s.toks + 1)).kin (beq_iff_eq.mp hf) (handed_on rfl ?_)))
  exact h _ _ _ (Mem.le_put (S.none_at (get_size _))) ((S.toks (s.toks + 1)).pushF _ (s.toks + 1)) (Mem.put_self ..)
theorem get_cls {x C dx : Addr} {od : Obj} {a : Value} {name : Str} {expr : Bool} {Q : Value → Shared → Prop} (S : St w s₀ g₀ X L m c g s) (I : InstG s.heap.get? x C dx od) (hga : findIn (KK w) (.ref C) "__getattribute__" = some (some (.builtin "object.__getattribute__"))) (hh : hasDictIn (KK w) C = true)
    (ha : findIn (KK w) (.ref C) name = some (some a)) (hn : specialIn (KK w) a "__get__" = some none) (hv : handedIn a = true) (hc : copiedNames.contains name = false) (hl : lookIn name od = some none)
    (h : ∀ s', St w s₀ g₀ X L m c g s' → Q a s') : wpAny (model prog w) A (getAttr (.ref x) name expr) Q E s :=
  get_value S.kin I.at hga (findObj_cls hh ha hn hv hc hl) hv (h _ (S.toks _))
theorem c_bound {pos : Pos} {q f : Addr} {self : Value} {e : Expr} {rest : List Expr} {Q : Value → Shared → Prop} (hf : fnIn (KK w) f = true)
    (h : wpAny M A (spliced (backTo pos (starEach (e :: rest) env))) (fun vs s₁ => MethP (KK w) q f self s₁.heap ∧ wpAny M A (call (.ref q) vs) Q E s₁) E s)
    (he : starEach (e :: rest) env = (false, eval e env) :: starEach rest env := by with_unfolding_all rfl) (hplain : (backTo pos (starEach rest env)).any (·.1) = false := by with_unfolding_all rfl) :
    wpAny M A (callWith pos (.ref q) [] (backTo pos (starEach (e :: rest) env)) []) Q E s := by
  rw [he] at h ⊢
  exact callWith_of (by show ((false || (backTo pos (starEach rest env)).any (·.1)) || false) = false; rw [hplain]; rfl) (keeps_M hf) (evalArgs_plain h)
theorem St.meth {q f : Addr} {self : Value} {P : Prop} (S : St w s₀ g₀ X L m c g s) (hq : g q = some (methodObj (.ref f) self)) (h : P) : MethP (KK w) q f self s.heap ∧ P := ⟨⟨S.gg _ _ hq, S.kin⟩, h⟩
theorem call_bound {q f : Addr} {self : Value} {vs : List Value} {Q : Value → Shared → Prop} (S : St w s₀ g₀ X L m c g s) (hq : g q = some (methodObj (.ref f) self))
    (h : codeAny (model prog w) A (.call (.ref f) ⟨self :: vs, []⟩) (fun r s' => match r with | .ok (.ret v) => Q v s' | .ok _ => False | .error e => E e s') s) : wpAny (model prog w) A (call (.ref q) vs) Q E s :=
  wpAny_call (method_call (S.gg _ _ hq) h)
theorem St.afterX {c1 c1' c2 : List (Addr × Obj)} (S : St w s₀ g₀ X L m (c1 ++ c2) g s) (P : Post (c1.map (·.1)) s g s' g') (ha : c1'.map (·.1) = c1.map (·.1)) (hc : ∀ p ∈ c1', s'.heap.get? p.1 = some p.2) : St w s₀ g₀ X L m (c1' ++ c2) g' s' := by
  have hnd := S.nd
  rw [List.map_append] at hnd
  have hnd' := List.nodup_append.mp hnd
  have k : ∀ b o, b ∉ c1.map (·.1) → s.heap.get? b = some o → s'.heap.get? b = some o := P.keep
  have hin : ∀ b, b ∈ c1.map (·.1) → ∃ p ∈ c1 ++ c2, p.1 = b := fun b hb => by
    obtain ⟨p, hp, e⟩ := List.mem_map.mp hb
    exact ⟨p, List.mem_append_left _ hp, e⟩
  refine ⟨S.base, ?_, fun b o hb e => ?_, S.above, P.gg, fun b o e => P.grow _ _ (S.grow _ _ e), fun b hb => ?_, ?_, fun p hp => ?_, by rw [List.map_append, ha, ← List.map_append]; exact S.nd, P.gens.trans S.gens, P.os.trans S.os, Nat.le_trans S.size P.size⟩
  · obtain ⟨oL, es, ep, h1, r⟩ := S.ns
    refine ⟨oL, es, ep, k _ _ (fun hb => ?_) h1, r⟩
    obtain ⟨p, hp, e⟩ := hin _ hb
    exact (S.cc p hp).2.1 e
  · refine k b o (fun hb' => ?_) (S.keep b o hb e)
    obtain ⟨p, hp, q⟩ := hin _ hb'
    rcases (S.cc p hp).2.2.2 with z | z
    · rw [q] at z; exact absurd (Heap.lt_size e) (Nat.not_lt.mpr z)
    · exact hb (q ▸ z)
  · rw [P.low b (Nat.lt_of_lt_of_le hb S.size)]; exact S.low b hb
  · rw [P.low L S.lt]; exact S.gL
  · rcases List.mem_append.mp hp with hp | hp
    · have : p.1 ∈ c1.map (·.1) := ha ▸ List.mem_map_of_mem hp
      obtain ⟨q, hq, e⟩ := hin _ this
      have z := S.cc q hq
      rw [e] at z
      exact ⟨hc p hp, z.2.1, by rw [P.low _ (Heap.lt_size z.1)]; exact z.2.2.1, z.2.2.2⟩
    · have z := S.cc p (List.mem_append_right _ hp)
      refine ⟨k _ _ (fun hb => ?_) z.1, z.2.1, by rw [P.low _ (Heap.lt_size z.1)]; exact z.2.2.1, z.2.2.2⟩
      exact hnd'.2.2 _ hb _ (List.mem_map_of_mem hp) rfl
end
structure LexCls (w : World) (C pr : Addr) : Prop where
  ga : findIn (KK w) (.ref C) "__getattribute__" = some (some (.builtin "object.__getattribute__"))
  gt : findIn (KK w) (.ref C) "__getattr__" = some none
  hd : hasDictIn (KK w) C = true
  sa : findIn (KK w) (.ref C) "__setattr__" = some (some (.builtin "object.__setattr__"))
  po : plainOver (KK w) C = true
  mks : makesIn (KK w) C = true
  ini : findIn (KK w) (.ref C) "__init__" = some (some (.ref 586))
  own : (["options", "stripnl", "stripall", "ensurenl", "filters", "tables", "_all_tokens", "_tmpname", "_tokens"].all fun n => takerIn (KK w) C (Str.ofString n) == some none && findIn (KK w) (.ref C) (Str.ofString n) == some none) = true
  getd : findIn (KK w) (.ref C) "get_tokendefs" = some (some (.ref 566))
  ptd : findIn (KK w) (.ref C) "process_tokendef" = some (some (.ref 559))
  ps : findIn (KK w) (.ref C) "_process_state" = some (some (.ref 551))
  pre : findIn (KK w) (.ref C) "_process_regex" = some (some (.ref pr))
  ptk : findIn (KK w) (.ref C) "_process_token" = some (some (.ref 537))
  pns : findIn (KK w) (.ref C) "_process_new_state" = some (some (.ref 544))
  flg : ∃ t, findIn (KK w) (.ref C) "flags" = some (some (.int 8 t))
theorem lex1 (w : World) : LexCls w 736 733 := ⟨by kernel_rfl, by kernel_rfl, by kernel_rfl, by kernel_rfl, by kernel_rfl, by kernel_rfl, by kernel_rfl, by kernel_rfl, by kernel_rfl, by kernel_rfl, by kernel_rfl, by kernel_rfl, by kernel_rfl, by kernel_rfl, ⟨_, rfl⟩⟩
theorem lex2 (w : World) : LexCls w 755 752 := ⟨by kernel_rfl, by kernel_rfl, by kernel_rfl, by kernel_rfl, by kernel_rfl, by kernel_rfl, by kernel_rfl, by kernel_rfl, by kernel_rfl, by kernel_rfl, by kernel_rfl, by kernel_rfl, by kernel_rfl, by kernel_rfl, ⟨_, rfl⟩⟩
end

-- PART B22 --
section
open PySem PySem.W PySem.Calls PyProof.Rows PySem.SeqAt
section
variable {M : Model} {prog : Program} {w : World} {A : Around} {E : Value → Shared → Prop} {R : Result → Shared → Prop} {s₀ s s' : Shared} {g₀ g g' : Mem} {X : List Addr} {L : Addr} {m : Str → Option Value} {c : List (Addr × Obj)} {env : Env}
theorem s_assert {test : Expr} {msg : Option Expr} {pos : Pos} {rest : List Stmt} {Q : Flow → Shared → Prop}
    (h : wpAny M A (isTrue test env (eval test env)) (fun b s₁ => b = true ∧ wpAny M A (execs rest env) Q E s₁) E s) : wpAny M A (execs (.Assert test msg pos :: rest) env) Q E s :=
  wpAny_execs_cons (wpAny_Assert_holds h)
theorem e_neg {x : Expr} {pos : Pos} {Q : Value → Shared → Prop} (h : wpAny M A (eval x env) (fun v s₁ => wpAny M A (unaryOp .USub v) Q E s₁) E s) : wpAny M A (eval (.UnaryOp .USub x pos) env) Q E s := wpAny_UnaryOp h
theorem neg_i {a : Int} {t : Tok} {Q : Value → Shared → Prop} (S : St w s₀ g₀ X L m c g s) (h : ∀ t s', St w s₀ g₀ X L m c g s' → Q (.int (-a) t) s') : wpAny (model prog w) A (unaryOp .USub (.int a t)) Q E s :=
  PyProof.Rows.neg_int (h _ _ (S.toks _))
theorem in_ts {a : Addr} {vs : List Value} {xs : List T} {l : T} {t : Tok} {Q : Value → Shared → Prop} (S : St w s₀ g₀ X L m c g s) (ht : TupAt s.heap.get? a vs) (hv : All2 IsT vs xs) (h : Q (.bool (decide (l ∈ xs))) s) : wpAny (model prog w) A (compareOp .In (.str (Mine.S l) t) (.ref a)) Q E s := by
  refine in_tupleAt (fun y => match y with | .str x _ => x == Mine.S l | _ => false) ht.isTup (fun y hy => ?_) ?_
  · obtain ⟨x, _, tx, rfl⟩ := all2_m hv y (by simpa using hy)
    exact EqAt.str_str _ _ _ _
  · have e : vs.toArray.any (fun y => match y with | .str x _ => x == Mine.S l | _ => false) = decide (l ∈ xs) := by
      rw [List.any_toArray]
      clear h ht
      induction vs generalizing xs with
      | nil => cases xs with
        | nil => rfl
        | cons x xs => exact hv.elim
      | cons v vs ih => cases xs with
        | nil => exact hv.elim
        | cons x xs =>
          obtain ⟨tx, rfl⟩ := hv.1
          rw [List.any_cons, ih hv.2]
          by_cases q : l = x
          · subst q; simp
          · have : (Mine.S x == Mine.S l) = false := beq_eq_false_iff_ne.mpr fun e => q (S_inj.mp e).symm
            simp [this, q]
    rw [e]; exact h
where
  all2_m {vs : List Value} {xs : List T} (h : All2 IsT vs xs) (v : Value) (hv : v ∈ vs) : ∃ x, x ∈ xs ∧ IsT v x := by
    induction vs generalizing xs with
    | nil => cases hv
    | cons a vs ih => cases xs with
      | nil => exact h.elim
      | cons b xs =>
        rcases List.mem_cons.mp hv with rfl | hv
        · exact ⟨b, List.mem_cons_self .., h.1⟩
        · obtain ⟨x, h1, h2⟩ := ih h.2 hv; exact ⟨x, List.mem_cons_of_mem _ h1, h2⟩
theorem s_assign2 {x : Str} {px pos' pos : Pos} {o i value : Expr} {rest : List Stmt} {Q : Flow → Shared → Prop}
    (h : wpAny M A (eval value env) (fun v s₁ => wpAny M A (storeName env x v) (fun _ s₂ => wpAny M A (eval o env) (fun ov s₃ => wpAny M A (eval i env) (fun iv s₄ => wpAny M A (setItem ov iv v) (fun _ s₅ => wpAny M A (execs rest env) Q E s₅) E s₄) E s₃) E s₂) E s₁) E s)
    (hw : swappedStores [.Name x px, .Subscript o i pos'] value env = pure none := by with_unfolding_all rfl) :
    wpAny M A (execs (.Assign [.Name x px, .Subscript o i pos'] value pos :: rest) env) Q E s := by
  refine wpAny_execs_cons (wpAny_Assign_two (wpAny_mono h (fun v s₁ h₁ => ?_) fun _ _ x => x) rfl hw)
  refine wpAny_assign_Name (wpAny_mono h₁ (fun _ s₂ h₂ => ?_) fun _ _ x => x)
  rw [assign_Subscript]
  refine wpAny_bind (wpAny_holding (wpAny_mono h₂ (fun ov s₃ h₃ => ?_) fun _ _ x => x))
  refine wpAny_bind (wpAny_holding (wpAny_mono h₃ (fun iv s₄ h₄ => ?_) fun _ _ x => x))
  refine wpAny_bind (wpAny_standAt (wpAny_bind (wpAny_holding (wpAny_mono h₄ (fun _ s₅ h₅ => ?_) fun _ _ x => x))))
  exact wpAny_release h₅
theorem neS {a b : T} {t u : Tok} {Q : Value → Shared → Prop} (h : Q (.bool (decide (a ≠ b))) s) : wpAny (model prog w) A (compareOp .NotEq (.str (Mine.S a) t) (.str (Mine.S b) u)) Q E s := by
  refine PyProof.Rows.ne_str ?_
  have : (Mine.S a != Mine.S b) = decide (a ≠ b) := by
    by_cases q : a = b
    · subst q; simp
    · rw [decide_eq_true (by exact q)]; exact bne_iff_ne.mpr fun e => q (S_inj.mp e)
  rw [this]; exact h
theorem s_exprA {e : Expr} {pos : Pos} {rest : List Stmt} {Q : Flow → Shared → Prop} (h : wpAny (model prog w) A (eval e env) (fun v s' => wpAny (model prog w) A (execs rest env) Q E s') E s)
    (hi : interactive env = false := by with_unfolding_all rfl) (hs : swapsWith e none pos.line env = pure false := by with_unfolding_all rfl) :
    wpAny (model prog w) A (execs (.Expr e pos :: rest) env) Q E s := wpAny_execs_cons (wpAny_Expr_any h hi hs)
end
end

section
local macro_rules | `(tactic| walk_at "lk") => `(tactic| first | with_reducible assumption | with_reducible exact up_self _ _ _ | with_reducible exact up_get (by with_unfolding_all decide) (by walk_at "lk") | with_unfolding_all rfl)
local macro_rules | `(tactic| walk_at "g") => `(tactic| with_reducible first
  | refine s_assign ?_
  | refine s_setattr ?_
  | refine s_setitem ?_
  | refine s_assign2 ?_
  | refine s_ret ?_
  | refine s_if1 ?_
  | refine s_if ?_
  | refine s_for ?_
  | refine s_aug ?_
  | refine s_expr ?_
  | refine s_nil ?_
  | refine s_continue ?_
  | refine s_break ?_
  | refine t_cmp ?_
  | refine t_not ?_
  | refine t_or ?_
  | refine t_or1 ?_
  | refine t_and ?_
  | refine t_and1 ?_
  | refine e_or ?_
  | refine e_and ?_
  | refine e_bool1 ?_
  | refine e_attr ?_
  | refine GM.isupper ?_
  | refine GM.split ?_
  | refine GM.join ?_
  | refine GM.endswith ?_
  | refine endswith1 ?_
  | refine e_mcall ?_
  | refine e_call ?_
  | refine e_sub ?_
  | refine e_bin ?_
  | refine e_ite ?_
  | refine s_assert ?_
  | refine e_neg ?_
  | (refine neg_i (by assumption) ?_; intro _ _ _)
  | refine e_cmp ?_
  | refine e_slice_sn ?_
  | refine e_slice_ns ?_
  | refine e_slice_ss ?_
  | refine a_nil ?_
  | refine a_cons ?_
  | refine c_type ?_
  | refine c_builtin ?_
  | refine c_meth ?_
  | refine c_builtin0 ?_
  | (refine cint (by assumption) ?_; intro _ _ _)
  | (refine cstr (by assumption) ?_; intro _ _ _)
  | refine wpAny_Constant_none ?_
  | refine wpAny_Constant_bool ?_
  | refine ldl (by assumption) (by walk_at "lk") ?_
  | refine ldlN (by assumption) (by walk_at "lk") ?_
  | refine ldn (by assumption) (by with_unfolding_all rfl) ?_
  | (refine stl (by assumption) ?_; intro _ _)
  | (refine max2 (by assumption) (by with_unfolding_all assumption) ?_; intro _ _ _)
  | (refine min2 (by assumption) (by with_unfolding_all assumption) ?_; intro _ _ _)
  | (refine Mine.sub_int (by assumption) ?_; intro _ _ _)
  | (refine Mine.add_int (by assumption) ?_; intro _ _ _)
  | (refine Mine.mod_pos (by assumption) (by omega) ?_; intro _ _ _)
  | (refine Mine.div_pos (by assumption) (by omega) (by omega) ?_; intro _ _ _)
  | (refine Mine.len_str (by assumption) (by omega) ?_; intro _ _ _)
  | refine gm_append (by assumption) (by with_unfolding_all k_mem) ?_
  | (refine append0 (by assumption) (by omega) ?_; intro _ _ _)
  | (refine append1 (by assumption) (by omega) ?_; intro _ _ _)
  | (refine append2 (by assumption) (by omega) ?_; intro _ _ _)
  | refine e_tup ?_
  | refine e_listF ?_
  | refine eqI ?_
  | refine geI ?_
  | refine leI ?_
  | refine gtI ?_
  | refine eqS ?_
  | refine isNone ?_
  | refine isntNone ?_
  | refine And.intro rfl ?_
  | refine wpAny_truthy_bool ?_
  | refine t_val ?_)
local macro_rules | `(tactic| walk_at "gg") => `(tactic| repeat' (first | walk_at "g" | dsimp only))
local macro_rules | `(tactic| walk_at "h") => `(tactic| with_reducible first
  | refine s_assign ?_
  | refine s_setattr ?_
  | refine s_setitem ?_
  | refine s_assign2 ?_
  | refine s_ret ?_
  | refine s_if1 ?_
  | refine s_if ?_
  | refine s_for ?_
  | refine s_aug ?_
  | refine s_expr ?_
  | refine s_nil ?_
  | refine s_continue ?_
  | refine s_break ?_
  | refine e_or ?_
  | refine e_and ?_
  | refine e_bool1 ?_
  | refine e_attr ?_
  | refine GM.isupper ?_
  | refine GM.split ?_
  | refine GM.join ?_
  | refine GM.endswith ?_
  | refine endswith1 ?_
  | refine e_mcall ?_
  | refine e_call ?_
  | refine e_sub ?_
  | refine e_bin ?_
  | refine e_ite ?_
  | refine s_assert ?_
  | refine e_neg ?_
  | (refine neg_i (by assumption) ?_; intro _ _ _)
  | refine e_cmp ?_
  | refine e_slice_sn ?_
  | refine e_slice_ns ?_
  | refine e_slice_ss ?_
  | refine a_nil ?_
  | refine a_cons ?_
  | refine c_type ?_
  | refine c_builtin ?_
  | refine c_meth ?_
  | refine c_builtin0 ?_
  | (refine cint (by assumption) ?_; intro _ _ _)
  | (refine cstr (by assumption) ?_; intro _ _ _)
  | refine wpAny_Constant_none ?_
  | refine wpAny_Constant_bool ?_
  | refine ldl (by assumption) (by walk_at "lk") ?_
  | refine ldlN (by assumption) (by walk_at "lk") ?_
  | refine ldn (by assumption) (by with_unfolding_all rfl) ?_
  | (refine stl (by assumption) ?_; intro _ _)
  | (refine max2 (by assumption) (by with_unfolding_all assumption) ?_; intro _ _ _)
  | (refine min2 (by assumption) (by with_unfolding_all assumption) ?_; intro _ _ _)
  | (refine Mine.sub_int (by assumption) ?_; intro _ _ _)
  | (refine Mine.add_int (by assumption) ?_; intro _ _ _)
  | (refine Mine.mod_pos (by assumption) (by omega) ?_; intro _ _ _)
  | (refine Mine.div_pos (by assumption) (by omega) (by omega) ?_; intro _ _ _)
  | (refine Mine.len_str (by assumption) (by omega) ?_; intro _ _ _)
  | refine gm_append (by assumption) (by with_unfolding_all k_mem) ?_
  | (refine append0 (by assumption) (by omega) ?_; intro _ _ _)
  | (refine append1 (by assumption) (by omega) ?_; intro _ _ _)
  | (refine append2 (by assumption) (by omega) ?_; intro _ _ _)
  | refine e_tup ?_
  | refine e_listF ?_
  | refine eqI ?_
  | refine geI ?_
  | refine leI ?_
  | refine gtI ?_
  | refine eqS ?_
  | refine isNone ?_
  | refine isntNone ?_
  | refine And.intro rfl ?_
  | refine wpAny_truthy_bool ?_)
local macro_rules | `(tactic| walk_at "hh") => `(tactic| repeat' (first | walk_at "h" | dsimp only))

-- PART F14 --
section
open PySem PySem.W PySem.Calls PyProof.Rows
def IsNS (g : Mem) (v : Value) (lower : T) : Prop := if lower = [] then IsInt v (-1) else IsTs g v [tPop, 113 :: lower]
theorem IsNS.mono {g g' : Mem} {v : Value} {lower : T} (h : IsNS g v lower) (k : Le g g') : IsNS g' v lower := by
  unfold IsNS at *; split <;> rename_i q
  · rw [if_pos q] at h; exact h
  · rw [if_neg q] at h; exact h.mono k
def tPush : T := [35, 112, 117, 115, 104]
theorem str_push : Str.ofString "#push" = S tPush := by decide +kernel
def HasState (prog : Program) (w : World) (g : Mem) (ud : Addr) (tb : List (T × List Rule)) (loud : Bool) : Prop := ∃ od, g ud = some od ∧ IsTab prog w g loud ud od tb
section
variable {prog : Program} {w : World} {A : Around} {s : Shared} {g : Mem}
theorem tab_has {kvs : List (Str × Value)} {tb : List (T × List Rule)} {P : Value → List Rule → Prop} : ∀ (_ : All2 (fun (p : Str × Value) (k : T × List Rule) => p.1 = S k.1 ∧ P p.2 k.2) kvs tb) (x : T), (valueAt kvs (S x)).isSome = decide (x ∈ tb.map (·.1)) := by
  intro h x
  induction kvs generalizing tb with
  | nil => cases tb with
    | nil => rfl
    | cons _ _ => exact h.elim
  | cons p kvs ih => cases tb with
    | nil => exact h.elim
    | cons k tb =>
      have e := ih h.2
      unfold valueAt at *
      by_cases q : p.1 = S x
      · have q' : x = k.1 := S_inj.mp (q.symm.trans h.1.1)
        simp [List.find?_cons, q, q']
      · have q' : ¬ x = k.1 := fun z => q (by rw [h.1.1, z])
        simp only [List.find?_cons, q, decide_false]
        rw [e]; simp [q']
theorem newstate_spec (hr : Room A 1) (B : Base w g) (hg : Le g s.heap.get?) {sv mv ud pv : Value} {uda : Addr} {od : Obj} {kvs : List (Str × Value)} {tb : List (T × List Rule)} {lower : T} {P : Value → List Rule → Prop} (K : IsMove g mv lower) (hud : ud = .ref uda) (hd : s.heap.get? uda = some od) (D : DictObj prog w od kvs)
    (hkv : All2 (fun (p : Str × Value) (k : T × List Rule) => p.1 = S k.1 ∧ P p.2 k.2) kvs tb) (hm : (uda == sysModules) = false) (hin : lower ≠ [] → 113 :: lower ∈ tb.map (·.1)) (hpop : tPop ∉ tb.map (·.1))
    {R : Result → Shared → Prop} (h : ∀ v s', Post [] s g s' g → IsNS g v lower → R (.ok (.ret v)) s') :
    codeAny (model prog w) A (.call (.ref 544) ⟨[sv, mv, ud, pv], []⟩) R s := by
  subst hud
  refine callF (g := s.heap.get?) [("cls", sv), ("new_state", mv), ("unprocessed", .ref uda), ("processed", pv)] (B.mono hg) (Le.refl _) (f := 544) rfl (by kernel_rfl) hr.lt (BindsTo.of_eq rfl) rfl (by decide) fun L s₁ S₁ => ?_
  have hh := hr.hd
  unfold IsMove at K
  by_cases hl : lower = []
  · rw [if_pos hl] at K
    obtain ⟨tk, rfl⟩ := K
    walk_at "gg"
    refine isinst_str (by assumption) (b := true) (by kernel_rfl) ?_; intro _ _
    walk_at "gg"
    rw [if_pos rfl]
    walk_at "gg"
    rw [str_pop]
    refine eqS ?_
    walk_at "gg"
    rw [if_pos (by rw [decide_eq_true rfl])]
    walk_at "gg"
    rename_i t₅ s₅ S₅
    refine h _ _ (S₅.post.shrink hg) ?_
    unfold IsNS
    rw [if_pos hl]
    exact ⟨_, rfl⟩
  · rw [if_neg hl] at K
    obtain ⟨ma, vs, rfl, hma, hvs⟩ := id K
    have hma' := hma.mono hg
    walk_at "gg"
    refine isinst_tup (by assumption) (hma'.mono (St.gg (by assumption))) (b := false) (by kernel_rfl) ?_; intro _ _
    walk_at "gg"
    rw [if_neg (by simp)]
    walk_at "gg"
    refine isinst_tup (by assumption) (hma'.mono (St.gg (by assumption))) (b := false) (by kernel_rfl) ?_; intro _ _
    walk_at "gg"
    rw [if_neg (by simp)]
    walk_at "gg"
    refine isinst_tup (by assumption) (hma'.mono (St.gg (by assumption))) (b := true) (by kernel_rfl) ?_; intro _ _
    walk_at "gg"
    rw [if_pos rfl]
    walk_at "gg"
    refine it_tup (by assumption) hma' ?_; intro it o s₄ S₄ ho
    refine for_iter S₄ ho (Le.refl _) (iter_tup (A := A.deeper _) hh hma') (fun i g' m' c' => c' = [] ∧ m' "new_state" = some (.ref ma) ∧ m' "unprocessed" = some (.ref uda)) ⟨rfl, by walk_at "lk", by walk_at "lk"⟩ ?_ ?_
    · rintro i g' m' c' s₆ o₆ v E' hi hv hle ⟨rfl, hm1, hm2⟩ S₆
      obtain ⟨x, hx, tx, rfl⟩ := All2.get hvs hv
      walk_at "gg"
      refine in_dict (by assumption) (St.gg (by assumption) _ _ (hle _ _ hd)) D ?_ hm; intro s₇ S₇
      rw [tab_has hkv]
      walk_at "gg"
      have hx2 : x = tPop ∨ x = 113 :: lower := by
        rcases i with _ | _ | i
        · left; simpa using hx.symm
        · right; simpa using hx.symm
        · simp at hx
      by_cases hxin : x ∈ tb.map (·.1)
      · rw [if_pos (by rw [decide_eq_true_eq]; exact hxin)]
        walk_at "gg"
        exact ⟨g', _, [], hle, by assumption, rfl, by walk_at "lk", by walk_at "lk"⟩
      · rw [if_neg (by rw [decide_eq_true_eq]; exact hxin)]
        have hxp : x = tPop := by
          rcases hx2 with e | e
          · exact e
          · exact absurd (e ▸ hin hl) hxin
        subst hxp
        walk_at "gg"
        refine newTup (by assumption) (by simp) ?_; intro pt g₈ s₈ hle₈ S₈ hpt
        refine in_ts (xs := [tPop, tPush]) (by assumption) (hpt.mono (St.gg (by assumption))) ⟨⟨_, by rw [str_pop]⟩, ⟨_, by rw [str_push]⟩, trivial⟩ ?_
        walk_at "gg"
        exact ⟨g₈, _, [], hle.trans hle₈, by assumption, rfl, by walk_at "lk", by walk_at "lk"⟩
    · rintro g' m' c' s₆ E' hle ⟨rfl, hm1, hm2⟩ S₆
      walk_at "gg"
      refine h _ _ (S₆.post.shrink hg) ?_
      unfold IsNS
      rw [if_neg hl]
      exact K
end
end

-- PART F15 --
section
open PySem PySem.W PySem.Calls PyProof.Rows
section
variable {prog : Program} {w : World} {A : Around} {s : Shared} {g : Mem}
theorem token_spec (hr : Room A 1) (B : Base w g) (hg : Le g s.heap.get?) {sv tv : Value} {names : List T} (K : IsTok g tv names)
    {R : Result → Shared → Prop} (h : ∀ s', Post [] s g s' g → R (.ok (.ret tv)) s') :
    codeAny (model prog w) A (.call (.ref 537) ⟨[sv, tv], []⟩) R s := by
  refine callF (g := g) [("cls", sv), ("token", tv)] B hg (f := 537) rfl (by kernel_rfl) hr.lt (BindsTo.of_eq rfl) rfl (by decide) fun L s₁ S₁ => ?_
  have hh := hr.hd
  obtain ⟨a, dx, od, nv, rfl, I, N, _⟩ := id K
  walk_at "gg"
  refine type_own (I.mono (St.gg (by assumption))) ?_
  walk_at "gg"
  refine wpAny_is_ref_self ?_
  walk_at "gg"
  rw [if_pos rfl]
  walk_at "gg"
  exact h _ (S₁.post.of_same hg)
def IsBM (g : Mem) (v : Value) (rows : List (List T)) : Prop := ∃ q pa, v = .ref q ∧ g q = some (methodObj (.ref 712) (.ref pa)) ∧ IsPlain g (.ref pa) rows
theorem IsBM.mono {g g' : Mem} {v : Value} {rows : List (List T)} (h : IsBM g v rows) (k : Le g g') : IsBM g' v rows := let ⟨q, pa, h1, h2, h3⟩ := h; ⟨q, pa, h1, k _ _ h2, h3.mono k⟩
theorem regex_spec1 (hr : Room A 1) (B : Base w g) (hg : Le g s.heap.get?) {sv pv fv stv : Value} {rows : List (List T)} (K : IsPlain g pv rows)
    {R : Result → Shared → Prop} (h : ∀ v s' g', Post [] s g s' g' → IsBM g' v rows → R (.ok (.ret v)) s') :
    codeAny (model prog w) A (.call (.ref 733) ⟨[sv, pv, fv, stv], []⟩) R s := by
  refine callF (g := g) [("cls", sv), ("regex", pv), ("rflags", fv), ("state", stv)] B hg (f := 733) rfl (by kernel_rfl) hr.lt (BindsTo.of_eq rfl) rfl (by decide) fun L s₁ S₁ => ?_
  have hh := hr.hd
  obtain ⟨a, dx, od, la, vs, rfl, I, N, _⟩ := id K
  walk_at "gg"
  refine get_bound (f := 712) (by assumption) (I.mono (St.gg (by assumption))) (by kernel_rfl) (by kernel_rfl) (by kernel_rfl) (by kernel_rfl) (by kernel_rfl) (by kernel_rfl) (by decide) ((N.look "match").trans (congrArg some (up_ne _ (by decide)))) ?_
  intro q g₂ s₂ hle₂ S₂ hq
  exact h _ _ g₂ S₂.post ⟨q, a, rfl, hq, K.mono hle₂⟩
theorem regex_spec2 (hr : Room A 1) (B : Base w g) (hg : Le g s.heap.get?) {sv pv fv stv : Value} {rows : List (List T)} (K : IsPlain g pv rows)
    {R : Result → Shared → Prop} (h : ∀ v s' g', Post [] s g s' g' → IsBM g' v rows → R (.ok (.ret v)) s') :
    codeAny (model prog w) A (.call (.ref 752) ⟨[sv, pv, fv, stv], []⟩) R s := by
  refine callF (g := g) [("cls", sv), ("regex", pv), ("rflags", fv), ("state", stv)] B hg (f := 752) rfl (by kernel_rfl) hr.lt (BindsTo.of_eq rfl) rfl (by decide) fun L s₁ S₁ => ?_
  have hh := hr.hd
  obtain ⟨a, dx, od, la, vs, rfl, I, N, _⟩ := id K
  walk_at "gg"
  refine get_bound (f := 712) (by assumption) (I.mono (St.gg (by assumption))) (by kernel_rfl) (by kernel_rfl) (by kernel_rfl) (by kernel_rfl) (by kernel_rfl) (by kernel_rfl) (by decide) ((N.look "match").trans (congrArg some (up_ne _ (by decide)))) ?_
  intro q g₂ s₂ hle₂ S₂ hq
  exact h _ _ g₂ S₂.post ⟨q, a, rfl, hq, K.mono hle₂⟩
def PrOk (pr : Addr) : Prop := pr = 733 ∨ pr = 752
theorem regex_spec {pr : Addr} (hp : PrOk pr) (hr : Room A 1) (B : Base w g) (hg : Le g s.heap.get?) {sv pv fv stv : Value} {rows : List (List T)} (K : IsPlain g pv rows)
    {R : Result → Shared → Prop} (h : ∀ v s' g', Post [] s g s' g' → IsBM g' v rows → R (.ok (.ret v)) s') :
    codeAny (model prog w) A (.call (.ref pr) ⟨[sv, pv, fv, stv], []⟩) R s := by
  rcases hp with rfl | rfl
  · exact regex_spec1 hr B hg K h
  · exact regex_spec2 hr B hg K h
end
end

-- PART F16 --
section
open PySem PySem.W PySem.Calls PyProof.Rows
def IsPRow (g : Mem) : Bool → Value → Rule → Prop
  | _, v, .step c x nm => ∃ a bv tv mv, v = .ref a ∧ TupAt g a [bv, tv, mv] ∧ IsBM g bv [[[c]]] ∧ IsTok g tv nm ∧ IsTs g mv [tPop, 113 :: x]
  | _, v, .text => ∃ a bv, v = .ref a ∧ TupAt g a [bv, .ref 93, .none] ∧ IsBM g bv [[[97]], [[98]], [[99]]]
  | true, v, .fall lower => ∃ a bv nv, v = .ref a ∧ TupAt g a [bv, .ref 101, nv] ∧ IsBM g bv [[[]]] ∧ IsNS g nv lower
  | false, v, .fall lower => ∃ a nv, v = .ref a ∧ TupAt g a [.ref 502, .none, nv] ∧ IsNS g nv lower
theorem IsPRow.mono {g g' : Mem} {v : Value} (k : Le g g') : ∀ {loud : Bool} {r : Rule}, IsPRow g loud v r → IsPRow g' loud v r
  | _, .step c x nm, h => by
    obtain ⟨a, pv, tv, mv, h1, h2, h3, h4, h5⟩ := h
    exact ⟨a, pv, tv, mv, h1, h2.mono k, h3.mono k, h4.mono k, h5.mono k⟩
  | _, .text, h => by
    obtain ⟨a, pv, h1, h2, h3⟩ := h
    exact ⟨a, pv, h1, h2.mono k, h3.mono k⟩
  | true, .fall lower, h => by
    obtain ⟨a, pv, mv, h1, h2, h3, h4⟩ := h
    exact ⟨a, pv, mv, h1, h2.mono k, h3.mono k, h4.mono k⟩
  | false, .fall lower, h => by
    obtain ⟨a, mv, h1, h2, h3⟩ := h
    exact ⟨a, mv, h1, h2.mono k, h3.mono k⟩
def IsPRows (g : Mem) (loud : Bool) (v : Value) (rs : List Rule) : Prop := ∃ la vs, v = .ref la ∧ LstAt g la vs ∧ All2 (IsPRow g loud) vs rs
theorem IsPRows.mono {g g' : Mem} {loud : Bool} {v : Value} {rs : List Rule} (h : IsPRows g loud v rs) (k : Le g g') : IsPRows g' loud v rs :=
  let ⟨la, vs, h1, h2, h3⟩ := h; ⟨la, vs, h1, h2.mono k, h3.mono fun _ _ x => x.mono k⟩
def RulesIn (tb : List (T × List Rule)) (rs : List Rule) : Prop := ∀ r ∈ rs, match r with
  | .step _ x _ => x ≠ [] ∧ 113 :: x ∈ tb.map (·.1)
  | .text => True
  | .fall lower => lower ≠ [] → 113 :: lower ∈ tb.map (·.1)
theorem str_hash : Str.ofString "#" = S [35] := by decide +kernel
section
variable {prog : Program} {w : World} {A : Around} {s : Shared} {g : Mem}
theorem IsMove.handed {mv : Value} {lower : T} (K : IsMove g mv lower) : handedIn mv = true := by
  unfold IsMove at K
  split at K
  · obtain ⟨tk, rfl⟩ := K; rfl
  · obtain ⟨a, vs, rfl, _⟩ := K; rfl
theorem PrOk.ty {pr : Addr} (h : PrOk pr) : typeIn (KK w) (.ref pr) = some (.type "function") := by rcases h with rfl | rfl <;> kernel_rfl
theorem PrOk.kp {pr : Addr} (h : PrOk pr) : keepIn (KK w) (.ref pr) = true := by rcases h with rfl | rfl <;> kernel_rfl
theorem rule_parts (B : Base w g) {loud : Bool} {v : Value} {r : Rule} {tb : List (T × List Rule)} (K : IsRule g loud v r) (hd : isD loud r = false) (hin : RulesIn tb [r]) : ∃ a pv tv nm rows, v = .ref a ∧ IsPlain g pv rows ∧ IsTok g tv nm ∧
    ((TupAt g a [pv, tv] ∧ ∀ g' bv a', Le g g' → IsBM g' bv rows → TupAt g' a' [bv, tv, .none] → IsPRow g' loud (.ref a') r) ∨
     (∃ mv lower, TupAt g a [pv, tv, mv] ∧ IsMove g mv lower ∧ (lower ≠ [] → 113 :: lower ∈ tb.map (·.1)) ∧ ∀ g' bv nv a', Le g g' → IsBM g' bv rows → IsNS g' nv lower → TupAt g' a' [bv, tv, nv] → IsPRow g' loud (.ref a') r)) := by
  have hr := hin r (List.mem_cons_self ..)
  cases r with
  | step c x nm =>
    have hK : ∃ a pv tv mv, v = .ref a ∧ TupAt g a [pv, tv, mv] ∧ IsPlain g pv [[[c]]] ∧ IsTok g tv nm ∧ IsTs g mv [tPop, 113 :: x] := by cases loud <;> exact K
    obtain ⟨a, pv, tv, mv, rfl, h1, h2, h3, h4⟩ := hK
    refine ⟨a, pv, tv, nm, _, rfl, h2, h3, .inr ⟨mv, x, h1, ?_, fun _ => hr.2, fun g' bv nv a' hle hb hn ht => ?_⟩⟩
    · unfold IsMove; rw [if_neg hr.1]; exact h4
    · unfold IsNS at hn; rw [if_neg hr.1] at hn
      have : ∃ a bv tv mv, (Value.ref a') = .ref a ∧ TupAt g' a [bv, tv, mv] ∧ IsBM g' bv [[[c]]] ∧ IsTok g' tv nm ∧ IsTs g' mv [tPop, 113 :: x] := ⟨a', bv, tv, nv, rfl, ht, hb, h3.mono hle, hn⟩
      cases loud <;> exact this
  | text =>
    have hK : ∃ a pv, v = .ref a ∧ TupAt g a [pv, .ref 93] ∧ IsPlain g pv [[[97]], [[98]], [[99]]] := by cases loud <;> exact K
    obtain ⟨a, pv, rfl, h1, h2⟩ := hK
    refine ⟨a, pv, .ref 93, _, _, rfl, h2, (kText w).mono B.kg, .inl ⟨h1, fun g' bv a' hle hb ht => ?_⟩⟩
    have : ∃ a bv, (Value.ref a') = .ref a ∧ TupAt g' a [bv, .ref 93, .none] ∧ IsBM g' bv [[[97]], [[98]], [[99]]] := ⟨a', bv, rfl, ht, hb⟩
    cases loud <;> exact this
  | fall lower =>
    cases loud with
    | true =>
      obtain ⟨a, pv, mv, rfl, h1, h2, h3⟩ := K
      refine ⟨a, pv, .ref 101, _, _, rfl, h2, (kEsc w).mono B.kg, .inr ⟨mv, lower, h1, h3, hr, fun g' bv nv a' hle hb hn ht => ?_⟩⟩
      exact ⟨a', bv, nv, rfl, ht, hb, hn⟩
    | false => exact nomatch (show true = false from hd)
theorem tab_get {kvs : List (Str × Value)} {tb : List (T × List Rule)} {P : Value → List Rule → Prop} (h : All2 (fun (p : Str × Value) (k : T × List Rule) => p.1 = S k.1 ∧ P p.2 k.2) kvs tb) (hnd : (tb.map (·.1)).Nodup) {nm : T} {rs : List Rule} (hm : (nm, rs) ∈ tb) : ∃ v, valueAt kvs (S nm) = some v ∧ P v rs := by
  induction kvs generalizing tb with
  | nil => cases tb with
    | nil => cases hm
    | cons _ _ => exact h.elim
  | cons p kvs ih => cases tb with
    | nil => exact h.elim
    | cons k tb =>
      rw [List.map_cons, List.nodup_cons] at hnd
      unfold valueAt at *
      rcases List.mem_cons.mp hm with e | hm'
      · subst e
        exact ⟨p.2, by simp [List.find?_cons, h.1.1], h.1.2⟩
      · have hk : ¬ p.1 = S nm := fun e => hnd.1 (by
          have : k.1 = nm := S_inj.mp (h.1.1.symm.trans e)
          rw [this]; exact List.mem_map.mpr ⟨_, hm', rfl⟩)
        obtain ⟨v, h1, h2⟩ := ih h.2 hnd.2 hm'
        exact ⟨v, by simp only [List.find?_cons, hk, decide_false]; exact h1, h2⟩
theorem pstate_spec (hr : Room A 3) (B : Base w g) (hg : Le g s.heap.get?) {C pr : Addr} (LC : LexCls w C pr) (hp : PrOk pr) {x dx pd uda : Addr} {odx odp odu : Obj} {k : Nat} {mm : Str → Option Value} {loud : Bool} {tb : List (T × List Rule)} {kvp : List (Str × Value)} {nm : T} {ch : Nat} {t : Tok} {rs : List Rule}
    (hx : g x = some (instObj C dx)) (hdx : s.heap.get? dx = some odx) (hdg : g dx = none) (hpd : s.heap.get? pd = some odp) (hpg : g pd = none) (hne : pd ≠ dx) (Nx : NsO k odx mm) (hmm : (["_process_regex", "_process_token", "_process_new_state", "flags"].all fun n => (mm (Str.ofString n)).isNone) = true)
    (hu : g uda = some odu) (Ku : IsTab prog w g loud uda odu tb) (hnm : (nm, rs) ∈ tb) (hnd : (tb.map (·.1)).Nodup) (hpop : tPop ∉ tb.map (·.1)) (hc : nm[0]? = some ch) (hch : ch ≠ 35) (hin : RulesIn tb rs) (hrl : rs.length ≤ 100)
    (Dp : DictObj prog w odp kvp) (hkp : ∀ p ∈ kvp, p.1 ≠ S nm) (hpm : (pd == sysModules) = false) (hkl : kvp.length ≤ 100)
    {R : Result → Shared → Prop} (h : ∀ lv s' g' odp', Post [pd, dx] s g s' g' → s'.heap.get? dx = some odx → s'.heap.get? pd = some odp' → DictObj prog w odp' (kvp ++ [(S nm, lv)]) → IsPRows g' loud lv rs → R (.ok (.ret lv)) s') :
    codeAny (model prog w) A (.call (.ref 551) ⟨[.ref x, .ref uda, .ref pd, .str (S nm) t], []⟩) R s := by
  refine enterX (g := g) (c := [(pd, odp), (dx, odx)]) (binds := [("cls", .ref x), ("unprocessed", .ref uda), ("processed", .ref pd), ("state", .str (S nm) t)]) B hg
    (fun p hp' => by rcases List.mem_cons.mp hp' with rfl | hp'; exact ⟨hpd, hpg⟩; rcases List.mem_singleton.mp hp' with rfl; exact ⟨hdx, hdg⟩) (by simp [hne]) (f := 551) rfl (by kernel_rfl) hr.lt (BindsTo.of_eq rfl) (locs rfl) (by decide) fun L s₁ S₁ => ?_
  have hh := hr.hd
  obtain ⟨kvu, Du, hku, hum⟩ := id Ku
  have hnone : valueAt kvp (S nm) = none := by
    unfold valueAt
    rw [List.find?_eq_none.mpr (fun p hp => by simpa using hkp p hp)]; rfl
  walk_at "gg"
  refine isinst_str (by assumption) (b := true) (by kernel_rfl) ?_; intro _ _
  walk_at "gg"
  refine item_str (ch := ch) (by assumption) (by omega) (by omega) (by simpa using hc) ?_; intro _ _ _
  walk_at "gg"
  rw [str_hash]
  refine neS ?_
  walk_at "gg"
  refine ⟨by simp; exact hch, ?_⟩
  walk_at "gg"
  refine in_dict (by assumption) (St.cell (by assumption) (by with_unfolding_all k_mem)) Dp ?_ hpm; intro s₂ S₂
  rw [hnone]
  walk_at "gg"
  rw [if_neg (by simp)]
  walk_at "gg"
  refine e_list0 (by assumption) ?_; intro tl s₃ S₃ htl
  walk_at "gg"
  refine d_set1 (by assumption) Dp (by omega) ?_; intro odp₄ s₄ S₄ D₄
  walk_at "gg"
  obtain ⟨tf, hfl⟩ := LC.flg
  have hmp : ∀ n, n ∈ ["_process_regex", "_process_token", "_process_new_state", "flags"] → lookIn (Str.ofString n) odx = some none := fun n hn => by
    rw [Nx.look]
    have := List.all_eq_true.mp hmm n hn
    rw [Option.isNone_iff_eq_none.mp this]
  refine get_cls (a := .int 8 tf) (by assumption) ⟨St.gg (by assumption) _ _ hx, St.cell (by assumption) (by with_unfolding_all k_mem)⟩ LC.ga LC.hd hfl (by rfl) rfl (by decide) (hmp "flags" (by simp)) ?_; intro s₅ S₅
  walk_at "gg"
  obtain ⟨lv, hlv, ⟨lu, vs, rfl, hlu, hvs⟩⟩ := tab_get hku hnd hnm
  refine d_get (by assumption) (St.gg (by assumption) _ _ hu) Du hlv ?_; intro s₆ S₆
  walk_at "gg"
  obtain ⟨ol, hol, hlc, kk, hld⟩ := id hlu
  have hvl := hvs.length
  refine list_loop (by assumption) hol hlc hld hh
    (fun i g' m' c' => (∃ us n, c' = [(tl, lst us n), (pd, odp₄), (dx, odx)] ∧ All2 (IsPRow g' loud) us (rs.take i) ∧ us.length ≤ i) ∧ m' "cls" = some (.ref x) ∧ m' "unprocessed" = some (.ref uda) ∧ m' "processed" = some (.ref pd) ∧ m' "state" = some (.str (S nm) t) ∧ m' "tokens" = some (.ref tl) ∧ m' "rflags" = some (.int 8 tf))
    ⟨⟨[], 0, rfl, trivial, by simp⟩, by walk_at "lk", by walk_at "lk", by walk_at "lk", by walk_at "lk", by walk_at "lk", by walk_at "lk"⟩ ?_ ?_
  · rintro it o i g' m' c' s₇ v E' hi hle ⟨⟨us, n, rfl, hus, husl⟩, hm1, hm2, hm3, hm4, hm5, hm6⟩ S₇
    have hvi : vs[i]? = some v := by simpa using hi
    obtain ⟨r, hri, K⟩ := All2.get hvs hvi
    have K' := K.mono hle
    have hil : i < rs.length := by
      rcases Nat.lt_or_ge i rs.length with q | q
      · exact q
      · rw [List.getElem?_eq_none q] at hri; cases hri
    have hrin : RulesIn tb [r] := fun r' hr' => by
      rcases List.mem_singleton.mp hr' with rfl
      exact hin r' (List.mem_of_getElem? hri)
    have hsnoc : ∀ g'' rv, Le g' g'' → IsPRow g'' loud rv r → All2 (IsPRow g'' loud) (us ++ [rv]) (rs.take (i + 1)) := fun g'' rv hl hrv => by
      rw [List.take_add_one, hri]; exact (hus.mono fun _ _ x => x.mono hl).snoc hrv
    walk_at "gg"
    refine isinst_rule (b1 := false) (b2 := false) (by assumption) K' (by kernel_rfl) (by kernel_rfl) ?_; intro s₈ S₈
    walk_at "gg"
    rw [if_neg (by split <;> decide)]
    walk_at "gg"
    refine isinst_rule (b1 := false) (b2 := false) (by assumption) K' (by kernel_rfl) (by kernel_rfl) ?_; intro s₉ S₉
    walk_at "gg"
    rw [if_neg (by split <;> decide)]
    walk_at "gg"
    refine isinst_rule (b1 := false) (b2 := true) (by assumption) K' (by kernel_rfl) (by kernel_rfl) ?_; intro s₁₀ S₁₀
    walk_at "gg"
    cases hd : isD loud r with
    | true =>
      rw [if_pos (by rfl)]
      obtain ⟨mv, lower, rfl, rfl, ⟨da, ddx, dod, rfl, DI, DN⟩, Km⟩ := rule_dflt K' hd
      walk_at "gg"
      refine get_meth (f := 544) (by assumption) ⟨St.gg (by assumption) _ _ (hle _ _ hx), St.cell (by assumption) (by with_unfolding_all k_mem)⟩ LC.ga LC.gt LC.pns (by kernel_rfl) (hmp "_process_new_state" (by simp)) ?_
      walk_at "gg"
      refine c_fm (by assumption) (by kernel_rfl) ?_
      walk_at "gg"
      refine get_field (v := mv) (by assumption) (DI.mono (St.gg (by assumption))) (by kernel_rfl) (by kernel_rfl) (by kernel_rfl) ((DN.look "state").trans (congrArg some (up_self _ _ _))) Km.handed ?_; intro s₁₁ S₁₁
      walk_at "gg"
      refine St.kinH (by assumption) ?_
      refine wpAny_call (newstate_spec ((hr.mono (by omega)).deeper _) (St.baseG (by assumption)) (St.gg (by assumption)) Km rfl (St.gg (by assumption) _ _ (hle _ _ hu)) Du hku hum (hrin _ (List.mem_cons_self ..)) hpop ?_)
      intro nv s₁₂ P₁₂ Kn
      have S₁₂ := St.after (by assumption) P₁₂
      walk_at "gg"
      refine newTup (by assumption) (by simp) ?_; intro rv g₁₃ s₁₃ hle₁₃ S₁₃ hrv
      walk_at "gg"
      refine ⟨g₁₃, _, _, hle.trans hle₁₃, by assumption, ⟨us ++ [.ref rv], _, rfl, hsnoc g₁₃ _ hle₁₃ ⟨rv, nv, rfl, hrv, Kn.mono hle₁₃⟩, by simp; omega⟩, by walk_at "lk", by walk_at "lk", by walk_at "lk", by walk_at "lk", by walk_at "lk", by walk_at "lk"⟩
    | false =>
      rw [if_neg (by decide)]
      obtain ⟨a, pv, tv, nmm, rows, rfl, Kp, Kt, hcase⟩ := rule_parts (St.baseG S₁₀) K' hd hrin
      obtain ⟨ra, rvs, hre, hrt⟩ := rule_tup K' hd
      cases hre
      walk_at "gg"
      refine kto_cont (T := "tuple") (let ⟨o, h1, h2⟩ := hrt.mono (St.gg (by assumption)); ⟨o, h1, h2.1⟩) (by decide) ?_
      walk_at "gg"
      refine wpAny_is_self (a := .type "tuple") (by rfl) ?_
      walk_at "gg"
      obtain ⟨rest, htr⟩ : ∃ rest, TupAt g' a (pv :: tv :: rest) := by
        rcases hcase with ⟨h1, _⟩ | ⟨mv, lower, h1, _⟩
        · exact ⟨_, h1⟩
        · exact ⟨_, h1⟩
      refine get_meth (f := pr) (by assumption) ⟨St.gg (by assumption) _ _ (hle _ _ hx), St.cell (by assumption) (by with_unfolding_all k_mem)⟩ LC.ga LC.gt LC.pre hp.ty (hmp "_process_regex" (by simp)) ?_
      walk_at "gg"
      refine c_fm (by assumption) hp.kp ?_
      walk_at "gg"
      refine item_tup (by assumption) (htr.mono (St.gg (by assumption))) (by omega) (by omega) rfl ?_
      walk_at "gg"
      refine St.kinH (by assumption) ?_
      refine wpAny_call (regex_spec hp ((hr.mono (by omega)).deeper _) (St.baseG (by assumption)) (St.gg (by assumption)) Kp ?_)
      intro bv s₁₂ g₁₂ P₁₂ Kb
      have S₁₂ := St.after (by assumption) P₁₂
      have hl₁₂ : Le g' g₁₂ := P₁₂.grow
      walk_at "gg"
      refine get_meth (f := 537) (by assumption) ⟨St.gg (by assumption) _ _ (hl₁₂ _ _ (hle _ _ hx)), St.cell (by assumption) (by with_unfolding_all k_mem)⟩ LC.ga LC.gt LC.ptk (by kernel_rfl) (hmp "_process_token" (by simp)) ?_
      walk_at "gg"
      refine c_fm (by assumption) (by kernel_rfl) ?_
      walk_at "gg"
      refine item_tup (by assumption) (htr.mono (hl₁₂.trans (St.gg (by assumption)))) (by omega) (by omega) rfl ?_
      walk_at "gg"
      refine St.kinH (by assumption) ?_
      refine wpAny_call (token_spec ((hr.mono (by omega)).deeper _) (St.baseG (by assumption)) (St.gg (by assumption)) (Kt.mono hl₁₂) ?_)
      intro s₁₃ P₁₃
      have S₁₃ := St.after (by assumption) P₁₃
      walk_at "gg"
      rcases hcase with ⟨h1, hfin⟩ | ⟨mv, lower, h1, Km, hlin, hfin⟩
      · refine len_tup (by assumption) (h1.mono (hl₁₂.trans (St.gg (by assumption)))) (by simp) ?_; intro _ s₁₄ S₁₄
        walk_at "gg"
        rw [if_pos (by rfl)]
        walk_at "gg"
        refine newTup (by assumption) (by simp) ?_; intro rv g₁₅ s₁₅ hl₁₅ S₁₅ hrv
        walk_at "gg"
        have hl := hl₁₂.trans hl₁₅
        exact ⟨g₁₅, _, _, hle.trans hl, by assumption, ⟨us ++ [.ref rv], _, rfl, hsnoc g₁₅ _ hl (hfin g₁₅ bv rv hl (Kb.mono hl₁₅) hrv), by simp; omega⟩, by walk_at "lk", by walk_at "lk", by walk_at "lk", by walk_at "lk", by walk_at "lk", by walk_at "lk"⟩
      · refine len_tup (by assumption) (h1.mono (hl₁₂.trans (St.gg (by assumption)))) (by simp) ?_; intro _ s₁₄ S₁₄
        walk_at "gg"
        rw [if_neg (show ¬ (((([pv, tv, mv] : List Value).length : Nat) : Int) == 2) = true from (by decide : ¬ (((3 : Nat) : Int) == 2) = true))]
        walk_at "gg"
        refine get_meth (f := 544) (by assumption) ⟨St.gg (by assumption) _ _ (hl₁₂ _ _ (hle _ _ hx)), St.cell (by assumption) (by with_unfolding_all k_mem)⟩ LC.ga LC.gt LC.pns (by kernel_rfl) (hmp "_process_new_state" (by simp)) ?_
        walk_at "gg"
        refine c_fm (by assumption) (by kernel_rfl) ?_
        walk_at "gg"
        refine item_tup (by assumption) (h1.mono (hl₁₂.trans (St.gg (by assumption)))) (by omega) (by omega) rfl ?_
        walk_at "gg"
        refine St.kinH (by assumption) ?_
        refine wpAny_call (newstate_spec ((hr.mono (by omega)).deeper _) (St.baseG (by assumption)) (St.gg (by assumption)) (Km.mono hl₁₂) rfl (St.gg (by assumption) _ _ (hl₁₂ _ _ (hle _ _ hu))) Du hku hum hlin hpop ?_)
        intro nv s₁₅ P₁₅ Kn
        have S₁₅ := St.after (by assumption) P₁₅
        walk_at "gg"
        refine newTup (by assumption) (by simp) ?_; intro rv g₁₆ s₁₆ hl₁₆ S₁₆ hrv
        walk_at "gg"
        have hl := hl₁₂.trans hl₁₆
        exact ⟨g₁₆, _, _, hle.trans hl, by assumption, ⟨us ++ [.ref rv], _, rfl, hsnoc g₁₆ _ hl (hfin g₁₆ bv nv rv hl (Kb.mono hl₁₆) (Kn.mono hl₁₆) hrv), by simp; omega⟩, by walk_at "lk", by walk_at "lk", by walk_at "lk", by walk_at "lk", by walk_at "lk", by walk_at "lk"⟩
  · rintro g' m' c' s₇ E' hle ⟨⟨us, n, rfl, hus, husl⟩, hm1, hm2, hm3, hm4, hm5, hm6⟩ S₇
    walk_at "gg"
    have hn := (S₇.cc _ (List.mem_cons_self ..)).2.2.1
    have SF := S₇.freezeN htl
    rw [stored_new hkp] at D₄
    have hsz : vs.toArray.size = rs.length := by rw [List.size_toArray, hvl]
    rw [hsz, List.take_length] at hus
    exact h (.ref tl) _ _ odp₄ SF.post (SF.cell (by simp)) (SF.cell (by simp)) D₄ ⟨tl, us, rfl, ⟨_, Mem.put_self .., lst_is _ _⟩, hus.mono fun _ _ x => x.mono (Mem.le_put hn)⟩
end
end

-- PART F17 --
section
open PySem PySem.W PySem.Calls PyProof.Rows
def TabOk (tb : List (T × List Rule)) : Prop := tb.length ≤ 60 ∧ (tb.map (·.1)).Nodup ∧ tPop ∉ tb.map (·.1) ∧ ∀ k ∈ tb, (∃ ch, k.1[0]? = some ch ∧ ch ≠ 35) ∧ RulesIn tb k.2 ∧ k.2.length ≤ 100
def IsProc (prog : Program) (w : World) (g : Mem) (loud : Bool) (od : Obj) (tb : List (T × List Rule)) : Prop :=
  ∃ kvs, DictObj prog w od kvs ∧ All2 (fun (p : Str × Value) (k : T × List Rule) => p.1 = S k.1 ∧ IsPRows g loud p.2 k.2) kvs tb
theorem idx_ne {tb : List (T × List Rule)} {i j : Nat} {nm : T} {rs : List Rule} {k : T × List Rule} (hnd : (tb.map (·.1)).Nodup) (h : tb[i]? = some (nm, rs)) (hj : j < i) (e : k.1 = nm) : ¬ tb[j]? = some k := by
  intro hjk
  have h1 : (tb.map (·.1))[j]? = some nm := by rw [List.getElem?_map, hjk]; simp [e]
  have h2 : (tb.map (·.1))[i]? = some nm := by rw [List.getElem?_map, h]; rfl
  have hil : i < (tb.map (·.1)).length := by
    rcases Nat.lt_or_ge i (tb.map (·.1)).length with q | q
    · exact q
    · rw [List.getElem?_eq_none q] at h2; cases h2
  have := (List.getElem?_inj (by omega) hnd).mp (h1.trans h2.symm)
  omega
theorem LexCls.own_get {w : World} {C pr : Addr} (LC : LexCls w C pr) {n : String} (hn : n ∈ ["options", "stripnl", "stripall", "ensurenl", "filters", "tables", "_all_tokens", "_tmpname", "_tokens"]) : takerIn (KK w) C (Str.ofString n) = some none ∧ findIn (KK w) (.ref C) (Str.ofString n) = some none := by
  have := List.all_eq_true.mp LC.own n hn
  simpa using this
section
variable {prog : Program} {w : World} {A : Around} {E : Value → Shared → Prop} {s₀ s s' : Shared} {g₀ g : Mem} {X : List Addr} {L : Addr} {m : Str → Option Value} {c : List (Addr × Obj)}
theorem truthy_d {d : Addr} {od : Obj} {kvs : List (Str × Value)} {Q : Bool → Shared → Prop} (S : St w s₀ g₀ X L m c g s) (hd : s.heap.get? d = some od) (D : DictObj prog w od kvs) (hm : (d == sysModules) = false) (hn : kvs.length ≤ 1000)
    (h : ∀ s', St w s₀ g₀ X L m c g s' → Q (!kvs.isEmpty) s') : wpAny (model prog w) A (truthy (.ref d)) Q E s :=
  wpAny_truthy_dict (knd := strKind prog w) hm (D.dictOf hd) (by omega) (h _ (S.toks _))
theorem ptd_spec (hr : Room A 4) (B : Base w g) (hg : Le g s.heap.get?) {C pr : Addr} (LC : LexCls w C pr) (hp : PrOk pr) {x dx atd uda : Addr} {odx oda odu : Obj} {k : Nat} {mm : Str → Option Value} {loud : Bool} {tb : List (T × List Rule)} {kva : List (Str × Value)} {t : Tok}
    (hx : g x = some (instObj C dx)) (hdx : s.heap.get? dx = some odx) (hdg : g dx = none) (hat : s.heap.get? atd = some oda) (hag : g atd = none) (hne : dx ≠ atd) (Nx : NsO k odx mm) (hmm : (["_process_regex", "_process_token", "_process_new_state", "_process_state", "flags"].all fun n => (mm (Str.ofString n)).isNone) = true)
    (hma : mm "_all_tokens" = some (.ref atd)) (hu : g uda = some odu) (Ku : IsTab prog w g loud uda odu tb) (hok : TabOk tb) (htb : tb ≠ []) (Da : DictObj prog w oda kva) (hkl : kva.length ≤ 10)
    {R : Result → Shared → Prop} (h : ∀ pd odp s' g' oda', Post [dx, atd] s g s' g' → s'.heap.get? dx = some odx → s'.heap.get? atd = some oda' → g' pd = some odp → IsProc prog w g' loud odp tb → (pd == sysModules) = false → R (.ok (.ret (.ref pd))) s') :
    codeAny (model prog w) A (.call (.ref 559) ⟨[.ref x, .str (S []) t, .ref uda], []⟩) R s := by
  refine enterX (g := g) (c := [(dx, odx), (atd, oda)]) (binds := [("cls", .ref x), ("name", .str (S []) t), ("tokendefs", .ref uda)]) B hg
    (fun p hp' => by rcases List.mem_cons.mp hp' with rfl | hp'; exact ⟨hdx, hdg⟩; rcases List.mem_singleton.mp hp' with rfl; exact ⟨hat, hag⟩) (by simp [hne]) (f := 559) rfl (by kernel_rfl) hr.lt (binds_K (B.mono hg).K rfl rfl rfl rfl rfl) (locs rfl) (by decide) fun L s₁ S₁ => ?_
  have hh := hr.hd
  obtain ⟨kvu, Du, hku, hum⟩ := id Ku
  have hkul : kvu.length = tb.length := hku.length
  have htl := hok.1
  walk_at "gg"
  refine e_dict0 (by assumption) ?_; intro pd odp s₂ S₂ Dp hpm hpl
  walk_at "gg"
  refine get_field (v := .ref atd) (by assumption) ⟨St.gg (by assumption) _ _ hx, St.cell (by assumption) (by with_unfolding_all k_mem)⟩ LC.ga LC.hd (LC.own_get (by simp)).2 ((Nx.look "_all_tokens").trans (congrArg some hma)) rfl ?_; intro s₃ S₃
  walk_at "gg"
  refine d_set2 (by assumption) Da (by omega) ?_; intro oda₄ s₄ S₄ Da₄
  walk_at "gg"
  refine truthy_d (by assumption) (St.gg (by assumption) _ _ hu) Du hum (by omega) ?_; intro s₅ S₅
  have hkne : (!kvu.isEmpty) = true := by
    cases kvu with
    | cons _ _ => rfl
    | nil =>
      cases tb with
      | nil => exact absurd rfl htb
      | cons _ _ => cases hkul
  rw [if_pos hkne]
  walk_at "gg"
  refine list_dict (by assumption) hh (St.gg (by assumption) _ _ hu) Du hum (by omega) ?_; intro ll vs g₆ s₆ hle₆ S₆ hll hvs
  walk_at "gg"
  obtain ⟨ol, hol, hlc, kk, hld⟩ := id hll
  have hvl := hvs.length
  refine list_loop (by assumption) hol hlc hld hh
    (fun i g' m' c' => (∃ odp' kvp, c' = [(pd, odp'), (dx, odx), (atd, oda₄)] ∧ DictObj prog w odp' kvp ∧ All2 (fun (p : Str × Value) (k : T × List Rule) => p.1 = S k.1 ∧ IsPRows g' loud p.2 k.2) kvp (tb.take i)) ∧ m' "cls" = some (.ref x) ∧ m' "tokendefs" = some (.ref uda) ∧ m' "processed" = some (.ref pd))
    ⟨⟨odp, [], rfl, Dp, trivial⟩, by walk_at "lk", by walk_at "lk", by walk_at "lk"⟩ ?_ ?_
  · rintro it o i g' m' c' s₇ v E' hi hle ⟨⟨odp', kvp, rfl, Dp', hkp⟩, hm1, hm2, hm3⟩ S₇
    have hvi : vs[i]? = some v := by simpa using hi
    obtain ⟨p, hpi, tk, rfl⟩ := All2.get hvs hvi
    obtain ⟨⟨nm, rs⟩, hti, hkey, _⟩ := All2.get hku hpi
    dsimp only at hkey
    rw [hkey] at S₇
    have htm := List.mem_of_getElem? hti
    obtain ⟨⟨ch, hc, hch⟩, hin, hrl⟩ := hok.2.2.2 _ htm
    have hfresh : ∀ p ∈ kvp, p.1 ≠ S nm := fun p hp e => by
      obtain ⟨k, hk, e1, _⟩ := all2_mem hkp p hp
      have e2 : k.1 = nm := S_inj.mp (e1.symm.trans e)
      obtain ⟨j', hj', hjk'⟩ := take_mem hk
      exact idx_ne hok.2.1 hti hj' e2 hjk'
    have hkpl : kvp.length ≤ 60 := by have := hkp.length; rw [List.length_take] at this; omega
    have hmp : ∀ n, n ∈ ["_process_regex", "_process_token", "_process_new_state", "_process_state", "flags"] → mm (Str.ofString n) = none := fun n hn => Option.isNone_iff_eq_none.mp (List.all_eq_true.mp hmm n hn)
    refine s_exprA ?_
    walk_at "gg"
    refine get_meth (f := 551) (by assumption) ⟨St.gg (by assumption) _ _ (hle _ _ (hle₆ _ _ hx)), St.cell (by assumption) (by with_unfolding_all k_mem)⟩ LC.ga LC.gt LC.ps (by kernel_rfl) ((Nx.look "_process_state").trans (congrArg some (hmp "_process_state" (by simp)))) ?_
    walk_at "gg"
    refine c_fm (by assumption) (by kernel_rfl) ?_
    walk_at "gg"
    refine St.kinH (by assumption) ?_
    have Sr := S₇.rot.rot
    have hle' := hle₆.trans hle
    have zp := Sr.cc (pd, odp') (by simp)
    have zd := Sr.cc (dx, odx) (by simp)
    have hpd : pd ≠ dx := by
      have := Sr.nd
      simp only [List.map_cons, List.nodup_cons, List.mem_cons, not_or] at this
      exact this.1.1
    refine wpAny_call (pstate_spec (hr.deeper _) (St.baseG S₇) (St.gg S₇) LC hp (hle' _ _ hx) zd.1 zd.2.2.1 zp.1 zp.2.2.1 hpd Nx (by
      rw [List.all_eq_true]; intro n hn; exact Option.isNone_iff_eq_none.mpr (hmp n (by simp at hn ⊢; rcases hn with h | h | h | h <;> simp [h]))) (hle' _ _ hu) (by
      obtain ⟨kv, h1, h2, h3⟩ := Ku; exact ⟨kv, h1, h2.mono fun _ _ x => ⟨x.1, x.2.mono hle'⟩, h3⟩) htm hok.2.1 hok.2.2.1 hc hch hin hrl Dp' hfresh hpm (by omega) ?_)
    intro lv s₈ g₈ odp₈ P₈ e₁ e₂ D₈ K₈
    have S₈ := (Sr.afterX (c1 := [(pd, odp'), (dx, odx)]) (c1' := [(pd, odp₈), (dx, odx)]) (c2 := [(it, o), (atd, oda₄)]) P₈ rfl (by
      intro p hp'
      rcases List.mem_cons.mp hp' with rfl | hp'
      · exact e₂
      · rcases List.mem_singleton.mp hp' with rfl; exact e₁)).rot
    walk_at "gg"
    refine ⟨g₈, _, _, hle.trans P₈.grow, S₈, ⟨odp₈, _, rfl, D₈, ?_⟩, by walk_at "lk", by walk_at "lk", by walk_at "lk"⟩
    exact all2_take_succ (hkp.mono fun _ _ x => ⟨x.1, x.2.mono P₈.grow⟩) hti ⟨rfl, K₈⟩
  · rintro g' m' c' s₇ E' hle ⟨⟨odp', kvp, rfl, Dp', hkp⟩, hm1, hm2, hm3⟩ S₇
    walk_at "gg"
    have hn := (S₇.cc _ (List.mem_cons_self ..)).2.2.1
    have SF := S₇.freezeN hpl
    have hsz : vs.toArray.size = tb.length := by rw [List.size_toArray, hvl, hkul]
    rw [hsz, List.take_length] at hkp
    exact h pd odp' _ _ oda₄ SF.post (SF.cell (by simp)) (SF.cell (by simp)) (Mem.put_self ..) ⟨kvp, Dp', hkp.mono fun _ _ x => ⟨x.1, x.2.mono (Mem.le_put hn)⟩⟩ hpm
end
end

-- PART P4 --
section
open PySem PySem.W PySem.Calls PyProof.Rows
def stName (q : T) : T := if q = [] then tRoot else 113 :: q
section
variable {ks : List (T × List T)}
theorem table_eq (ho : KsOk ks) : tableOf ks ks.length = (tRoot, rulesOf ks []) :: (ks.drop 1).map fun k => (113 :: k.1, rulesOf ks k.1) := by
  obtain ⟨r, hr⟩ := ho.2.2.1
  unfold tableOf
  rw [List.take_length, if_neg (by rw [hr]; simp)]
theorem key_in (ho : KsOk ks) {x : T} (hx : x ≠ []) (hh : hasT ks x = true) : 113 :: x ∈ (tableOf ks ks.length).map (·.1) := by
  obtain ⟨nm, hn⟩ := hasT_some hh
  have hm := nm_mem hn
  obtain ⟨r, hr⟩ := ho.2.2.1
  rw [table_eq ho, List.map_cons, List.map_map]
  refine List.mem_cons_of_mem _ (List.mem_map.mpr ⟨(x, nm), ?_, rfl⟩)
  rw [hr] at hm ⊢
  rcases List.mem_cons.mp hm with h | h
  · cases h; exact absurd rfl hx
  · exact h
theorem state_in (ho : KsOk ks) {q : T} (hh : hasT ks q = true) : (stName q, rulesOf ks q) ∈ tableOf ks ks.length := by
  rw [table_eq ho]
  unfold stName
  by_cases hq : q = []
  · rw [if_pos hq, hq]; exact List.mem_cons_self ..
  · rw [if_neg hq]
    obtain ⟨nm, hn⟩ := hasT_some hh
    have hm := nm_mem hn
    obtain ⟨r, hr⟩ := ho.2.2.1
    refine List.mem_cons_of_mem _ (List.mem_map.mpr ⟨(q, nm), ?_, rfl⟩)
    generalize hks : ks.drop 1 = d
    rw [hr] at hm hks
    rw [← hks]
    rcases List.mem_cons.mp hm with h | h
    · cases h; exact absurd rfl hq
    · exact h
theorem mem_steps {q : T} {cs : List Nat} {r : Rule} (h : r ∈ stepsOf ks q cs) : ∃ c nm, c ∈ cs ∧ nmOf ks (q ++ [c]) = some nm ∧ r = .step c (q ++ [c]) nm := by
  unfold stepsOf at h
  obtain ⟨c, hc, e⟩ := List.mem_filterMap.mp h
  cases hn : nmOf ks (q ++ [c]) with
  | none => rw [hn] at e; cases e
  | some nm => rw [hn] at e; cases e; exact ⟨c, nm, hc, hn, rfl⟩
theorem rules_len (q : T) : (rulesOf ks q).length ≤ 4 := by
  unfold rulesOf
  rw [List.length_append, List.length_singleton]
  have : (stepsOf ks q [97, 98, 99]).length ≤ 3 := List.length_filterMap_le ..
  omega
theorem rules_in (H : Trie ks) (ho : KsOk ks) (q : T) : RulesIn (tableOf ks ks.length) (rulesOf ks q) := by
  intro r hr
  unfold rulesOf at hr
  rcases List.mem_append.mp hr with h | h
  · obtain ⟨c, nm, _, hn, rfl⟩ := mem_steps h
    exact ⟨by simp, key_in ho (by simp) (Option.isSome_iff_exists.mpr ⟨_, hn⟩)⟩
  · rw [List.mem_singleton.mp h]
    by_cases hq : q = []
    · rw [if_pos hq]; trivial
    · rw [if_neg hq]
      exact fun hl => key_in ho hl (H.longest_mem _)
theorem nodup_map {α β : Type} {f : α → β} (hf : ∀ a b, f a = f b → a = b) : ∀ {l : List α}, l.Nodup → (l.map f).Nodup
  | [], _ => by simp
  | a :: l, h => by
    rw [List.nodup_cons] at h
    rw [List.map_cons, List.nodup_cons]
    refine ⟨fun hm => ?_, nodup_map hf h.2⟩
    obtain ⟨b, hb, e⟩ := List.mem_map.mp hm
    exact h.1 (hf _ _ e ▸ hb)
theorem table_nd (ho : KsOk ks) : ((tableOf ks ks.length).map (·.1)).Nodup := by
  rw [table_eq ho, List.map_cons, List.map_map, List.nodup_cons]
  constructor
  · intro hm
    obtain ⟨k, _, e⟩ := List.mem_map.mp hm
    simp [tRoot] at e
  · have h1 : ((ks.drop 1).map (·.1)).Nodup := by
      have := ho.2.1
      rw [← List.take_append_drop 1 ks, List.map_append, List.nodup_append] at this
      exact this.2.1
    have := nodup_map (f := fun x : T => 113 :: x) (fun a b e => by injection e) h1
    rw [List.map_map] at this
    exact this
theorem table_ok (H : Trie ks) (ho : KsOk ks) : TabOk (tableOf ks ks.length) := by
  refine ⟨?_, table_nd ho, fun hm => ?_, fun k hk => ?_⟩
  · rw [table_eq ho, List.length_cons, List.length_map, List.length_drop]
    have := ho.1; omega
  · rw [table_eq ho, List.map_cons, List.map_map] at hm
    rcases List.mem_cons.mp hm with h | h
    · exact absurd (show tPop = tRoot from h) (by decide)
    · obtain ⟨k, _, e⟩ := List.mem_map.mp h
      simp [tPop] at e
  · rw [table_eq ho] at hk
    rcases List.mem_cons.mp hk with rfl | h
    · exact ⟨⟨114, rfl, by decide⟩, rules_in H ho _, Nat.le_trans (rules_len _) (by decide)⟩
    · obtain ⟨k', _, rfl⟩ := List.mem_map.mp h
      exact ⟨⟨113, rfl, by decide⟩, rules_in H ho _, Nat.le_trans (rules_len _) (by decide)⟩
end
end

-- PART P5 --
section
open PySem PySem.W PySem.Calls PyProof.Rows
theorem filter_take {α : Type} {f : α → Bool} {l : List α} {i : Nat} {a : α} (h : l[i]? = some a) : (l.take (i + 1)).filter f = (l.take i).filter f ++ (if f a = true then [a] else []) := by
  rw [List.take_add_one, h, List.filter_append]
  congr 1
  show List.filter f [a] = _
  rw [List.filter_cons, List.filter_nil]
theorem row_at {ks : List (T × List T)} {told : T} {b : Bool} {j : Nat} {r : Row} (h : ((List.range' 0 told.length).map (hoped ks b told))[j]? = some r) : j < told.length ∧ r = hoped ks b told j := by
  have hj : j < told.length := by
    rcases Nat.lt_or_ge j told.length with q | q
    · exact q
    · rw [List.getElem?_eq_none (by rw [List.length_map, List.length_range']; exact q)] at h; cases h
  rw [List.getElem?_map, List.getElem?_range' hj] at h
  cases h
  exact ⟨hj, by rw [show 0 + 1 * j = j by omega]⟩
theorem hoped_wide {ks : List (T × List T)} (H : Trie ks) {told : T} {i ch : Nat} (hch : told[i]? = some ch) : hoped ks true told i = ⟨i, if ch = 10 then [tText] else (hoped ks false told i).names, [ch]⟩ := by
  have hv : (told.drop i).take 1 = [ch] := by rw [List.take_one, List.head?_drop, hch]; rfl
  unfold hoped
  dsimp only
  rw [hv, hch]
  by_cases hc : ch = 10
  · have hL : Lp ks told (i + 1) = [] := by
      cases hq : Lp ks told (i + 1) with
      | nil => rfl
      | cons a l =>
        exfalso
        have hLs : Lp ks told (i + 1) <:+ told.take (i + 1) := longest_suf _ _
        rw [take_succ hch] at hLs
        obtain ⟨s', e, _⟩ := suf_snoc hLs (by rw [hq]; simp)
        have := (H.abc _ (H.longest_mem (told.take (i + 1)))).2 ch (by
          show ch ∈ Lp ks told (i + 1)
          rw [e]; simp)
        rw [hc] at this
        rcases this with h | h | h <;> cases h
    rw [if_pos hL, if_pos hc, if_pos (by rw [hc])]; rfl
  · have : ¬ some ch = some 10 := fun h => hc (Option.some.inj h)
    rw [if_neg hc, if_neg this, if_neg this]
theorem hoped_val' {ks : List (T × List T)} {told : T} {b : Bool} {i ch : Nat} (hch : told[i]? = some ch) : (hoped ks b told i).val = [ch] := by
  unfold hoped
  dsimp only
  rw [List.take_one, List.head?_drop, hch]; rfl
end

end

-- PART B23 --
section
open PySem PySem.W PySem.Calls PyProof.Rows
section
variable {M : Model} {prog : Program} {w : World} {A : Around} {E : Value → Shared → Prop} {s : Shared}
theorem sub_dict : isSubtype (.type "dict") (.type "dict") = pure true := by rw [isSubtype_type]; kernel_rfl
theorem merge_empty {d a : Addr} {od oa : Obj} {e1 e2 : Nat} {Q : Unit → Shared → Prop} (hd : s.heap.get? d = some od) (hdd : od.data = .dict #[] e1) (ha : s.heap.get? a = some oa) (hc : oa.cls = .type "dict") (had : oa.data = .dict #[] e2) (hm : (a == sysModules) = false) (h : Q () s) :
    wpAny (model prog w) A (mergeMapping d (.ref a) true) Q E s := by
  have hT : s.TypeIs (.ref a) "dict" := ⟨oa, ha, hc⟩
  unfold mergeMapping
  refine wpAny_bind (m := isInstance _ _) (wpAny_isInstance hT sub_dict ?_)
  rw [if_pos rfl]
  refine wpAny_bind (wpAny_specialOf hT F.slot_dict_iter.lookup (wpAny_bind (wpAny_pure ?_)))
  have e : (some (Value.builtin "dict.__iter__") == some (Value.builtin "dict.__iter__")) = true := by decide
  rw [e]
  show wpAny _ _ (if (a == sysModules) = true then _ else _) _ _ _
  rw [hm, if_neg Bool.false_ne_true]
  refine wpAny_bind (wpAny_dictEntries hd hdd ?_)
  show wpAny _ _ (dictEntries a >>= _) _ _ _
  refine wpAny_bind (wpAny_dictEntries ha had ?_)
  refine wpAny_bind (m := forIn _ _ _) (wpAny_of_eq (a := PUnit.unit) (by rfl) ?_)
  refine wpAny_bind (wpAny_dictEntries ha had ?_)
  refine wpAny_bind (wpAny_dictEpoch ha had ?_)
  exact wpAny_bind (m := forIn _ _ _) (wpAny_of_eq (a := PUnit.unit) (by rfl) (wpAny_pure h))
theorem mergedKeywords_empty {f : Value} {x : Sem Value} {Q : Addr → Shared → Prop}
    (h : wpAny (model prog w) A x (fun v s₁ => ∃ a oa ep, v = .ref a ∧ s₁.heap.get? a = some oa ∧ oa.cls = .type "dict" ∧ oa.data = .dict #[] ep ∧ (a == sysModules) = false ∧ s₁.heap.get? s.heap.objs.size = some { cls := .type "dict", data := .dict #[] } ∧ Q s.heap.objs.size s₁) E { s with heap := s.heap.push { cls := .type "dict", data := .dict #[] } }) :
    wpAny (model prog w) A (mergedKeywords f [(none, x)]) Q E s := by
  unfold mergedKeywords
  refine wpAny_bind (wpAny_alloc (wpAny_bind (wpAny_holding ?_)))
  dsimp only
  rw [List.forIn_cons]
  dsimp only
  refine wpAny_bind (wpAny_bind (wpAny_bind ?_))
  refine wpAny_of_eq (a := ()) (by rfl) ?_
  refine wpAny_bind (wpAny_mono h (fun v s₁ h₁ => ?_) fun _ _ x => x)
  obtain ⟨a, oa, ep, rfl, h1, h2, h3, h4, h5, hQ⟩ := h₁
  refine wpAny_bind (wpAny_onRaise (wpAny_holding (wpAny_tryCatch (wpAny_onRaise (merge_empty h5 rfl h1 h2 h3 h4 ?_)))))
  refine wpAny_pure ?_
  dsimp only
  rw [List.forIn_nil]
  refine wpAny_pure ?_
  refine wpAny_of_eq (a := ()) (by rfl) ?_
  exact wpAny_pure hQ
theorem keywordsIn_empty {f : Value} {d : Addr} {od : Obj} {ep : Nat} {Q : List (Str × Value) → Shared → Prop} (hd : s.heap.get? d = some od) (hdd : od.data = .dict #[] ep) (h : Q [] s) : wpAny (model prog w) A (keywordsIn f d) Q E s := by
  unfold keywordsIn
  refine wpAny_bind (wpAny_dictEntries hd hdd ?_)
  exact wpAny_bind (m := forIn _ _ _) (wpAny_of_eq (a := []) (by rfl) (wpAny_pure h))
theorem evalArgs_kw0 {f : Value} {ax x : Sem Value} {rest : List (Bool × Sem Value)} {Q : Args → Shared → Prop}
    (h : wpAny (model prog w) A (spliced ((false, ax) :: rest)) (fun vs s₁ => wpAny (model prog w) A x (fun v s₂ => ∃ a oa ep, v = .ref a ∧ s₂.heap.get? a = some oa ∧ oa.cls = .type "dict" ∧ oa.data = .dict #[] ep ∧ (a == sysModules) = false ∧
      s₂.heap.get? s₁.heap.objs.size = some { cls := .type "dict", data := .dict #[] } ∧ Q ⟨vs, []⟩ s₂) E { s₁ with heap := s₁.heap.push { cls := .type "dict", data := .dict #[] } }) E s) :
    wpAny (model prog w) A (evalArgs f true ((false, ax) :: rest) [(none, x)]) Q E s := by
  unfold evalArgs
  show wpAny _ A (spliced ((false, ax) :: rest) >>= _) Q E s
  refine wpAny_bind (wpAny_mono h (fun vs s₁ h₁ => ?_) fun _ _ x => x)
  refine wpAny_holding ?_
  show wpAny _ A (mergedKeywords f [(none, x)] >>= _) Q E s₁
  refine wpAny_bind (mergedKeywords_empty (wpAny_mono h₁ (fun v s₂ h₂ => ?_) fun _ _ x => x))
  obtain ⟨a, oa, ep, rfl, h1, h2, h3, h4, h5, hQ⟩ := h₂
  refine ⟨a, oa, ep, rfl, h1, h2, h3, h4, h5, ?_⟩
  refine wpAny_bind (wpAny_pure ?_)
  exact wpAny_bind (wpAny_holding (keywordsIn_empty h5 rfl (wpAny_pure hQ)))
theorem c_kw0 {f : Value} {pos : Pos} {ax x : Sem Value} {rest : List (Bool × Sem Value)} {Q : Value → Shared → Prop} (hk : keepIn (KK w) f = true)
    (h : wpAny (model prog w) A (spliced ((false, ax) :: rest)) (fun vs s₁ => wpAny (model prog w) A x (fun v s₂ => ∃ a oa ep, v = .ref a ∧ s₂.heap.get? a = some oa ∧ oa.cls = .type "dict" ∧ oa.data = .dict #[] ep ∧ (a == sysModules) = false ∧
      s₂.heap.get? s₁.heap.objs.size = some { cls := .type "dict", data := .dict #[] } ∧ (KK w).In s₂.heap ∧ wpAny (model prog w) A (call f vs) Q E s₂) E { s₁ with heap := s₁.heap.push { cls := .type "dict", data := .dict #[] } }) E s) :
    wpAny (model prog w) A (callWith pos f [] ((false, ax) :: rest) [(none, x)]) Q E s := by
  unfold callWith
  refine wpAny_bind (wpAny_holding (evalArgs_kw0 (wpAny_mono h (fun vs s₁ h₁ => wpAny_mono h₁ (fun v s₂ h₂ => ?_) fun _ _ x => x) fun _ _ x => x)))
  obtain ⟨a, oa, ep, rfl, h1, h2, h3, h4, h5, hK, hQ⟩ := h₂
  refine ⟨a, oa, ep, rfl, h1, h2, h3, h4, h5, wpAny_bind (wpAny_standAt ?_)⟩
  obtain ⟨k, hk', L⟩ := keeps_K (M := model prog w) hk _ hK
  have hst : (((false, ax) :: rest).any (·.1) || [((none : Option Str), x)].any (·.1.isNone)) = true := by simp
  simp only [hst]
  refine wpAny_bind (L.here ?_)
  have tail : ∀ {t : Sem Value}, wpAny (model prog w) A t Q E s₂ → wpAny (model prog w) A (t >>= fun r => holding [r] point >>= fun _ => pure r) Q E s₂ :=
    fun ht => wpAny_bind (wpAny_mono ht (fun r s₂ hr => wpAny_bind (wpAny_holding (wpAny_point (wpAny_pure hr)))) fun _ _ x => x)
  have marked (mk : Value) : wpAny (model prog w) A (callMarked mk f ([] ++ vs) []) Q E s₂ := by unfold callMarked; exact Calls.wpAny_keep hQ
  rcases hk' with rfl | rfl | rfl <;> dsimp only <;> first | exact tail (marked _) | exact tail (wpAny_operating hQ)
end
end

section
local macro_rules | `(tactic| walk_at "lk") => `(tactic| first | with_reducible assumption | with_reducible exact up_self _ _ _ | with_reducible exact up_get (by with_unfolding_all decide) (by walk_at "lk") | with_unfolding_all rfl)
local macro_rules | `(tactic| walk_at "g") => `(tactic| with_reducible first
  | refine s_assign ?_
  | refine s_setattr ?_
  | refine s_setitem ?_
  | refine s_assign2 ?_
  | refine s_ret ?_
  | refine s_if1 ?_
  | refine s_if ?_
  | refine s_for ?_
  | refine s_aug ?_
  | refine s_expr ?_
  | refine s_nil ?_
  | refine s_continue ?_
  | refine s_break ?_
  | refine t_cmp ?_
  | refine t_not ?_
  | refine t_or ?_
  | refine t_or1 ?_
  | refine t_and ?_
  | refine t_and1 ?_
  | refine e_or ?_
  | refine e_and ?_
  | refine e_bool1 ?_
  | refine e_attr ?_
  | refine GM.isupper ?_
  | refine GM.split ?_
  | refine GM.join ?_
  | refine GM.endswith ?_
  | refine endswith1 ?_
  | refine e_mcall ?_
  | refine e_call ?_
  | refine e_sub ?_
  | refine e_bin ?_
  | refine e_ite ?_
  | refine s_assert ?_
  | refine e_neg ?_
  | (refine neg_i (by assumption) ?_; intro _ _ _)
  | refine e_cmp ?_
  | refine e_slice_sn ?_
  | refine e_slice_ns ?_
  | refine e_slice_ss ?_
  | refine a_nil ?_
  | refine a_cons ?_
  | refine c_type ?_
  | refine c_builtin ?_
  | refine c_meth ?_
  | refine c_builtin0 ?_
  | (refine cint (by assumption) ?_; intro _ _ _)
  | (refine cstr (by assumption) ?_; intro _ _ _)
  | refine wpAny_Constant_none ?_
  | refine wpAny_Constant_bool ?_
  | refine ldl (by assumption) (by walk_at "lk") ?_
  | refine ldlN (by assumption) (by walk_at "lk") ?_
  | refine ldn (by assumption) (by with_unfolding_all rfl) ?_
  | (refine stl (by assumption) ?_; intro _ _)
  | (refine max2 (by assumption) (by with_unfolding_all assumption) ?_; intro _ _ _)
  | (refine min2 (by assumption) (by with_unfolding_all assumption) ?_; intro _ _ _)
  | (refine Mine.sub_int (by assumption) ?_; intro _ _ _)
  | (refine Mine.add_int (by assumption) ?_; intro _ _ _)
  | (refine Mine.mod_pos (by assumption) (by omega) ?_; intro _ _ _)
  | (refine Mine.div_pos (by assumption) (by omega) (by omega) ?_; intro _ _ _)
  | (refine Mine.len_str (by assumption) (by omega) ?_; intro _ _ _)
  | refine gm_append (by assumption) (by with_unfolding_all k_mem) ?_
  | (refine append0 (by assumption) (by omega) ?_; intro _ _ _)
  | (refine append1 (by assumption) (by omega) ?_; intro _ _ _)
  | (refine append2 (by assumption) (by omega) ?_; intro _ _ _)
  | refine e_tup ?_
  | refine e_listF ?_
  | refine eqI ?_
  | refine geI ?_
  | refine leI ?_
  | refine gtI ?_
  | refine eqS ?_
  | refine isNone ?_
  | refine isntNone ?_
  | refine And.intro rfl ?_
  | refine wpAny_truthy_bool ?_
  | refine t_val ?_)
local macro_rules | `(tactic| walk_at "gg") => `(tactic| repeat' (first | walk_at "g" | dsimp only))
local macro_rules | `(tactic| walk_at "h") => `(tactic| with_reducible first
  | refine s_assign ?_
  | refine s_setattr ?_
  | refine s_setitem ?_
  | refine s_assign2 ?_
  | refine s_ret ?_
  | refine s_if1 ?_
  | refine s_if ?_
  | refine s_for ?_
  | refine s_aug ?_
  | refine s_expr ?_
  | refine s_nil ?_
  | refine s_continue ?_
  | refine s_break ?_
  | refine e_or ?_
  | refine e_and ?_
  | refine e_bool1 ?_
  | refine e_attr ?_
  | refine GM.isupper ?_
  | refine GM.split ?_
  | refine GM.join ?_
  | refine GM.endswith ?_
  | refine endswith1 ?_
  | refine e_mcall ?_
  | refine e_call ?_
  | refine e_sub ?_
  | refine e_bin ?_
  | refine e_ite ?_
  | refine s_assert ?_
  | refine e_neg ?_
  | (refine neg_i (by assumption) ?_; intro _ _ _)
  | refine e_cmp ?_
  | refine e_slice_sn ?_
  | refine e_slice_ns ?_
  | refine e_slice_ss ?_
  | refine a_nil ?_
  | refine a_cons ?_
  | refine c_type ?_
  | refine c_builtin ?_
  | refine c_meth ?_
  | refine c_builtin0 ?_
  | (refine cint (by assumption) ?_; intro _ _ _)
  | (refine cstr (by assumption) ?_; intro _ _ _)
  | refine wpAny_Constant_none ?_
  | refine wpAny_Constant_bool ?_
  | refine ldl (by assumption) (by walk_at "lk") ?_
  | refine ldlN (by assumption) (by walk_at "lk") ?_
  | refine ldn (by assumption) (by with_unfolding_all rfl) ?_
  | (refine stl (by assumption) ?_; intro _ _)
  | (refine max2 (by assumption) (by with_unfolding_all assumption) ?_; intro _ _ _)
  | (refine min2 (by assumption) (by with_unfolding_all assumption) ?_; intro _ _ _)
  | (refine Mine.sub_int (by assumption) ?_; intro _ _ _)
  | (refine Mine.add_int (by assumption) ?_; intro _ _ _)
  | (refine Mine.mod_pos (by assumption) (by omega) ?_; intro _ _ _)
  | (refine Mine.div_pos (by assumption) (by omega) (by omega) ?_; intro _ _ _)
  | (refine Mine.len_str (by assumption) (by omega) ?_; intro _ _ _)
  | refine gm_append (by assumption) (by with_unfolding_all k_mem) ?_
  | (refine append0 (by assumption) (by omega) ?_; intro _ _ _)
  | (refine append1 (by assumption) (by omega) ?_; intro _ _ _)
  | (refine append2 (by assumption) (by omega) ?_; intro _ _ _)
  | refine e_tup ?_
  | refine e_listF ?_
  | refine eqI ?_
  | refine geI ?_
  | refine leI ?_
  | refine gtI ?_
  | refine eqS ?_
  | refine isNone ?_
  | refine isntNone ?_
  | refine And.intro rfl ?_
  | refine wpAny_truthy_bool ?_)
local macro_rules | `(tactic| walk_at "hh") => `(tactic| repeat' (first | walk_at "h" | dsimp only))

-- PART F18 --
section
open PySem PySem.W PySem.Calls PyProof.Rows
section
variable {prog : Program} {w : World} {A : Around} {s : Shared} {g : Mem}
theorem gtd_spec (hr : Room A 3) (B : Base w g) (hg : Le g s.heap.get?) {C pr : Addr} (LC : LexCls w C pr) {x dx ta td : Addr} {odx od : Obj} {k : Nat} {mm : Str → Option Value} {loud : Bool} {tb : List (T × List Rule)}
    (hx : g x = some (instObj C dx)) (hdx : s.heap.get? dx = some odx) (hdg : g dx = none) (Nx : NsO k odx mm) (hmt : mm "tables" = some (.ref ta)) (ht : TupAt g ta [.ref td]) (hd : g td = some od) (K : IsTab prog w g loud td od tb) (hnd : (tb.map (·.1)).Nodup) (hn : tb.length ≤ 100) (hrn : ∀ k ∈ tb, k.2.length ≤ 100)
    {R : Result → Shared → Prop} (h : ∀ td' od' s' g', Post [dx] s g s' g' → s'.heap.get? dx = some odx → g' td' = some od' → IsTab prog w g' loud td' od' tb → R (.ok (.ret (.ref td'))) s') :
    codeAny (model prog w) A (.call (.ref 566) ⟨[.ref x], []⟩) R s := by
  refine enterX (g := g) (c := [(dx, odx)]) (binds := [("cls", .ref x)]) B hg (fun p hp' => by rcases List.mem_singleton.mp hp' with rfl; exact ⟨hdx, hdg⟩) (by simp) (f := 566) rfl (by kernel_rfl) hr.lt (BindsTo.of_eq rfl) (locs rfl) (by decide) fun L s₁ S₁ => ?_
  have hh := hr.hd
  walk_at "gg"
  refine c_fn (by assumption) (by kernel_rfl) ?_
  walk_at "gg"
  refine get_field (v := .ref ta) (by assumption) ⟨St.gg (by assumption) _ _ hx, St.cell0 (by assumption)⟩ LC.ga LC.hd (LC.own_get (by simp)).2 ((Nx.look "tables").trans (congrArg some hmt)) rfl ?_; intro s₂ S₂
  walk_at "gg"
  refine St.kinH (by assumption) ?_
  refine wpAny_call (merged_spec (hr.deeper _) (St.baseG (by assumption)) (St.gg (by assumption)) ht hd K hnd hn hrn ?_)
  intro td' od' s₃ g₃ P₃ e₃ K₃
  have S₃ := St.after (by assumption) P₃
  walk_at "gg"
  exact h td' od' _ g₃ S₃.post S₃.cell0 e₃ K₃
end
end

-- PART F19 --
section
open PySem PySem.W PySem.Calls PyProof.Rows
theorem dict0 (prog : Program) (w : World) (h : Heap) : DictObj prog w emptyDict [] := by
  obtain ⟨o, e, D⟩ := DictObj.of (Heap.DictOf.new (knd := strKind prog w) h)
  rw [Heap.get?_push_size _ rfl] at e
  cases e; exact D
theorem bigK {w : World} {s : Shared} {g : Mem} (B : Base w g) (hg : Le g s.heap.get?) : (s.heap.objs.size == sysModules) = false := by
  obtain ⟨o, _, _, ho, _⟩ := (B.mono hg).glob
  have := Heap.lt_size ho
  have e : mainGlobals = 3 := rfl
  have e2 : sysModules = 1 := rfl
  rw [e] at this; rw [e2]
  exact beq_eq_false_iff_ne.mpr (Nat.ne_of_gt (Nat.lt_trans (by decide : 1 < 3) this))
section
variable {prog : Program} {w : World} {A : Around} {s : Shared} {g : Mem}
theorem lexinit_spec (hr : Room A 1) (B : Base w g) (hg : Le g s.heap.get?) {C pr : Addr} (LC : LexCls w C pr) {x dx : Addr}
    (hx : g x = some (instObj C dx)) (hdx : s.heap.get? dx = some (dictOf [] 0)) (hdg : g dx = none)
    {R : Result → Shared → Prop} (h : ∀ mm od s' g', Post [dx] s g s' g' → s'.heap.get? dx = some od → NsO 5 od mm → (∀ n : Str, n ∉ (["options", "stripnl", "stripall", "ensurenl", "filters"] : List Str) → mm n = none) → R (.ok (.ret .none)) s') :
    codeAny (model prog w) A (.call (.ref 293) ⟨[.ref x], []⟩) R s := by
  have hP := Pre.init (c := [(dx, dictOf [] 0)]) B hg (by intro p hp; rcases List.mem_singleton.mp hp with rfl; exact ⟨hdx, hdg⟩) (by simp)
  refine enterV (f := 293) B hg rfl (by kernel_rfl) hr.lt (by decide) (wp_alloc (o := emptyDict) (B.mono hg).K _ (fun D => pure [("self", .ref x), ("options", .ref D)]) rfl (wpAny_pure ⟨_, _, hP.pushF emptyDict, rfl, fun L s₁ S₁ => ?_⟩))
  have hh := hr.hd
  have hnd : g s.heap.objs.size = none := hP.none_at (get_size _)
  have hle := Mem.le_put (o := emptyDict) hnd
  have ho : (g.put s.heap.objs.size emptyDict) s.heap.objs.size = some emptyDict := Mem.put_self ..
  have hom := bigK B hg
  have D₀ := dict0 prog w s.heap
  walk_at "gg"
  refine set_field (by assumption) (St.gg (by assumption) _ _ (hle _ _ hx)) .nil (by omega) LC.sa LC.po (LC.own_get (n := "options") (by simp)).1 LC.hd ?_; intro od₂ s₂ N₂ S₂
  walk_at "gg"
  refine gm_get (by assumption) (St.gg (by assumption) _ _ ho) D₀ ?_
  walk_at "gg"
  refine getD_getm (by assumption) (St.gg (by assumption) _ _ ho) D₀ hom ?_; intro s₃ S₃
  walk_at "gg"
  refine set_field (by assumption) (St.gg (by assumption) _ _ (hle _ _ hx)) N₂ (by omega) LC.sa LC.po (LC.own_get (n := "stripnl") (by simp)).1 LC.hd ?_; intro od₄ s₄ N₄ S₄
  walk_at "gg"
  refine gm_get (by assumption) (St.gg (by assumption) _ _ ho) D₀ ?_
  walk_at "gg"
  refine getD_getm (by assumption) (St.gg (by assumption) _ _ ho) D₀ hom ?_; intro s₅ S₅
  walk_at "gg"
  refine set_field (by assumption) (St.gg (by assumption) _ _ (hle _ _ hx)) N₄ (by omega) LC.sa LC.po (LC.own_get (n := "stripall") (by simp)).1 LC.hd ?_; intro od₆ s₆ N₆ S₆
  walk_at "gg"
  refine gm_get (by assumption) (St.gg (by assumption) _ _ ho) D₀ ?_
  walk_at "gg"
  refine getD_getm (by assumption) (St.gg (by assumption) _ _ ho) D₀ hom ?_; intro s₇ S₇
  walk_at "gg"
  refine set_field (by assumption) (St.gg (by assumption) _ _ (hle _ _ hx)) N₆ (by omega) LC.sa LC.po (LC.own_get (n := "ensurenl") (by simp)).1 LC.hd ?_; intro od₈ s₈ N₈ S₈
  walk_at "gg"
  refine e_listN (by assumption) ?_; intro la g₉ s₉ hle₉ S₉ hla
  walk_at "gg"
  refine set_field (by assumption) (St.gg (by assumption) _ _ (hle₉ _ _ (hle _ _ hx))) N₈ (by omega) LC.sa LC.po (LC.own_get (n := "filters") (by simp)).1 LC.hd ?_; intro od₁₀ s₁₀ N₁₀ S₁₀
  walk_at "gg"
  refine gm_get (by assumption) (St.gg (by assumption) _ _ (hle₉ _ _ ho)) D₀ ?_
  walk_at "gg"
  refine newTup (by assumption) (by simp) ?_; intro et g₁₁ s₁₁ hle₁₁ S₁₁ het
  walk_at "gg"
  refine getD_getm (by assumption) (St.gg (by assumption) _ _ (hle₁₁ _ _ (hle₉ _ _ ho))) D₀ hom ?_; intro s₁₂ S₁₂
  refine it_tup (vs := []) (by assumption) het ?_; intro it oi s₁₃ S₁₃ hoi
  refine for_iter S₁₃ hoi (Le.refl _) (iter_tup (A := A.deeper _) hh het) (fun i g' m' c' => c' = [(dx, od₁₀)]) rfl ?_ ?_
  · rintro i g' m' c' s' o v E' hi
    exact absurd hi (by simp)
  · rintro g' m' c' s₁₄ E' hle' rfl S₁₄
    walk_at "gg"
    refine h _ od₁₀ _ _ S₁₄.post S₁₄.cell0 N₁₀ fun n hn => ?_
    simp only [List.mem_cons, List.not_mem_nil, or_false, not_or] at hn
    obtain ⟨h1, h2, h3, h4, h5⟩ := hn
    rw [up_ne _ h5, up_ne _ h4, up_ne _ h3, up_ne _ h2, up_ne _ h1]
end
end

-- PART F20 --
section
open PySem PySem.W PySem.Calls PyProof.Rows
def ownNames : List Str := ["options", "stripnl", "stripall", "ensurenl", "filters", "tables", "_all_tokens", "_tmpname", "_tokens"]
def IsLexer (prog : Program) (w : World) (g : Mem) (C x : Addr) (loud : Bool) (tb : List (T × List Rule)) : Prop :=
  ∃ dx od k mm pd odp, InstG g x C dx od ∧ NsO k od mm ∧ mm "_tokens" = some (.ref pd) ∧ (∀ n : Str, n ∉ ownNames → mm n = none) ∧ g pd = some odp ∧ IsProc prog w g loud odp tb ∧ (pd == sysModules) = false
section
variable {prog : Program} {w : World} {A : Around} {E : Value → Shared → Prop} {s₀ s s' : Shared} {g₀ g : Mem} {X : List Addr} {L : Addr} {m : Str → Option Value} {c : List (Addr × Obj)} {env : Env}
theorem spliced1 {M : Model} {x : Sem Value} {Q : List Value → Shared → Prop} (h : wpAny M A x (fun v s' => Q [v] s') E s) : wpAny M A (spliced [(false, x)]) Q E s :=
  Calls.spliced_cons (wpAny_mono h (fun _ _ q => wpAny_pure q) fun _ _ x => x)
theorem e_kcall {o kwv : Expr} {name : Str} {apos pos kpos : Pos} {args : List Expr} {Q : Value → Shared → Prop}
    (h : wpAny (model prog w) A (eval o env) (fun ov s₁ => wpAny (model prog w) A (getAttr ov name true) (fun f s₂ => wpAny (model prog w) A (callWith pos f [] (backTo pos (starEach args env)) [(none, do let v ← eval kwv env; standAt pos; pure v)]) Q E s₂) E s₁) E s)
    (he : eval (.Call (.Attribute o name apos) args [⟨none, kwv, kpos⟩] pos) env = (do
      let ov ← eval o env
      standAt apos.atName
      let f ← holding [ov] (getAttr ov name true >>= fun f => pure (f, ([] : List Value)))
      callWith pos f.1 f.2 (backTo pos (starEach args env)) [(none, do let v ← eval kwv env; standAt pos; pure v)]) := by with_unfolding_all rfl) :
    wpAny (model prog w) A (eval (.Call (.Attribute o name apos) args [⟨none, kwv, kpos⟩] pos) env) Q E s := by
  rw [he]
  refine wpAny_bind (wpAny_mono h (fun ov s₁ h₁ => wpAny_bind (wpAny_standAt (wpAny_bind (wpAny_holding (wpAny_bind (wpAny_mono h₁ (fun f s₂ h₂ => ?_) fun _ _ x => x)))))) fun _ _ x => x)
  exact wpAny_pure h₂
end
section
variable {prog : Program} {w : World} {A : Around} {s : Shared} {g : Mem}
theorem lexer_new (hr : Room A 6) (B : Base w g) (hg : Le g s.heap.get?) {C pr : Addr} (LC : LexCls w C pr) (hp : PrOk pr) {td : Addr} {odt : Obj} {loud : Bool} {tb : List (T × List Rule)} (ht : g td = some odt) (Kt : IsTab prog w g loud td odt tb) (hok : TabOk tb) (htb : tb ≠ [])
    {R : Result → Shared → Prop} (h : ∀ x s' g', Post [] s g s' g' → IsLexer prog w g' C x loud tb → R (.ok (.ret (.ref x))) s') :
    codeAny (model prog w) A (.call (.ref C) ⟨[.ref td], []⟩) R s := by
  refine makeC (fI := 586) B hg LC.mks LC.ini (by kernel_rfl) fun dx s₁ hdx hs₁ hle hg₁ hd hn₁ => ?_
  have hP := Pre.init (c := [(dx, dictOf [] 0)]) (B.mono hle) hg₁ (by intro p hp; rcases List.mem_singleton.mp hp with rfl; exact ⟨hd, hn₁⟩) (by simp)
  have hP₂ := hP.pushF (tup [.ref td])
  have hP₃ := hP₂.pushF emptyDict
  refine enterV (f := 586) (B.mono hle) hg₁ rfl (by kernel_rfl) (by have := hr.dp; show A.depth + 1 < _; omega) (by decide) (wp_alloc (o := tup [.ref td]) (B.mono hle |>.mono hg₁).K _ _ rfl (wp_alloc (o := emptyDict) (hP₂.base.mono hP₂.grow |>.mono hP₂.gg).K _ (fun D => pure [("self", .ref (dx + 1)), ("tables", .ref s₁.heap.objs.size), ("options", .ref D)]) rfl (wpAny_pure ⟨_, _, hP₃, rfl, fun L s₂ S₂ => ?_⟩)))
  have hh := hr.hd
  walk_at "gg"
  refine e_kcall ?_
  walk_at "gg"
  refine cls_value S₂.kin (mc := .type "type") (v := .ref 293) (by kernel_rfl) (by kernel_rfl) rfl ?_
  have S₃ := S₂.toks (s₂.toks + 1)
  refine c_kw0 (ax := _) (x := _) (rest := []) (by kernel_rfl) ?_
  refine spliced1 ?_
  show wpAny _ _ (eval _ _) _ _ _
  walk_at "gg"
  refine wpAny_bind ?_
  have S₄ := S₃.push { cls := .type "dict", data := .dict #[] } (s₂.toks + 1)
  walk_at "gg"
  refine wpAny_bind (wpAny_standAt (wpAny_pure ?_))
  have hx₁ : (g.put (dx + 1) (instObj C dx)) (dx + 1) = some (instObj C dx) := Mem.put_self ..
  have ht₁ := Mem.le_put (o := tup [.ref td]) (hP.none_at (get_size _))
  have ht₂ := Mem.le_put (o := emptyDict) (hP₂.none_at (get_size _))
  have hx₂ := ht₂ _ _ (ht₁ _ _ hx₁)
  have hod : _ = some emptyDict := Mem.put_self ((g.put (dx + 1) (instObj C dx)).put s₁.heap.objs.size (tup [.ref td])) (s₁.heap.push (tup [.ref td])).objs.size emptyDict
  have htt := ht₂ _ _ (Mem.put_self (g.put (dx + 1) (instObj C dx)) s₁.heap.objs.size (tup [.ref td]))
  have htd := ht₂ _ _ (ht₁ _ _ (hle _ _ ht))
  have Kt₂ : IsTab prog w (((g.put (dx + 1) (instObj C dx)).put s₁.heap.objs.size (tup [.ref td])).put (s₁.heap.push (tup [.ref td])).objs.size emptyDict) loud td odt tb := by
    obtain ⟨kv, h1, h2, h3⟩ := Kt
    exact ⟨kv, h1, h2.mono fun _ _ x => ⟨x.1, x.2.mono (hle.trans (ht₁.trans ht₂))⟩, h3⟩
  revert hx₂ hod htt htd Kt₂ S₂ S₃ S₄ hP₃
  generalize ((g.put (dx + 1) (instObj C dx)).put s₁.heap.objs.size (tup [.ref td])).put (s₁.heap.push (tup [.ref td])).objs.size emptyDict = g₂
  intro hP₃ S₂ S₃ S₄ hx₂ hod htt htd Kt₂
  refine ⟨_, _, _, rfl, S₄.gg _ _ hod, rfl, rfl, bigK (hP₂.base.mono hP₂.grow) hP₂.gg, Heap.get?_push_size _ rfl, S₄.kin, ?_⟩
  refine wpAny_call (lexinit_spec ((room_under (hr.mono (by omega))).deeper _) S₄.baseG S₄.gg LC hx₂ S₄.cell0 (S₄.cc _ (List.mem_cons_self ..)).2.2.1 ?_)
  intro mm od₅ s₅ g₅ P₅ hd₅ N₅ hmm
  have S₅ := S₄.afterX (c1 := [(dx, dictOf [] 0)]) (c1' := [(dx, od₅)]) (c2 := []) P₅ rfl (by intro p hp; rcases List.mem_singleton.mp hp with rfl; exact hd₅)
  have hl₅ : Le g₂ g₅ := P₅.grow
  walk_at "gg"
  refine set_field S₅ (St.gg (by assumption) _ _ (hl₅ _ _ hx₂)) N₅ (by omega) LC.sa LC.po (LC.own_get (n := "tables") (by simp)).1 LC.hd ?_; intro od₆ s₆ N₆ S₆
  walk_at "gg"
  refine e_dict0 (by assumption) ?_; intro atd oda s₇ S₇ Da ham hal
  walk_at "gg"
  have S₇' := St.swap (by assumption)
  refine set_field S₇' (St.gg (by assumption) _ _ (hl₅ _ _ hx₂)) N₆ (by omega) LC.sa LC.po (LC.own_get (n := "_all_tokens") (by simp)).1 LC.hd ?_; intro od₈ s₈ N₈ S₈
  walk_at "gg"
  refine set_field (by assumption) (St.gg (by assumption) _ _ (hl₅ _ _ hx₂)) N₈ (by omega) LC.sa LC.po (LC.own_get (n := "_tmpname") (by simp)).1 LC.hd ?_; intro od₉ s₉ N₉ S₉
  walk_at "gg"
  generalize hm9 : up (up (up mm (Str.ofString "tables") _) (Str.ofString "_all_tokens") _) (Str.ofString "_tmpname") _ = mm₉ at N₉
  have hmt : mm₉ "tables" = some (.ref s₁.heap.objs.size) := by rw [← hm9, up_ne _ (by decide), up_ne _ (by decide), up_self]
  have hma : mm₉ "_all_tokens" = some (.ref atd) := by rw [← hm9, up_ne _ (by decide), up_self]
  have hmn : ∀ n : Str, n ∉ (["options", "stripnl", "stripall", "ensurenl", "filters", "tables", "_all_tokens", "_tmpname"] : List Str) → mm₉ n = none := fun n hn => by
    simp only [List.mem_cons, List.not_mem_nil, or_false, not_or] at hn
    obtain ⟨h1, h2, h3, h4, h5, h6, h7, h8⟩ := hn
    rw [← hm9, up_ne _ h8, up_ne _ h7, up_ne _ h6]
    exact hmm n (by simp only [List.mem_cons, List.not_mem_nil, or_false, not_or]; exact ⟨h1, h2, h3, h4, h5⟩)
  clear hm9
  have I₉ : InstG s₉.heap.get? (dx + 1) C dx od₉ := ⟨S₉.gg _ _ (hl₅ _ _ hx₂), S₉.cell0⟩
  refine get_meth (f := 559) (by assumption) I₉ LC.ga LC.gt LC.ptd (by kernel_rfl) ((N₉.look "process_tokendef").trans (congrArg some (hmn _ (by decide)))) ?_
  walk_at "gg"
  refine c_fm (by assumption) (by kernel_rfl) ?_
  walk_at "gg"
  rw [str_nil]
  rename_i tk₁₀ s₁₀ S₁₀
  refine get_meth (f := 566) (by assumption) ⟨S₁₀.gg _ _ (hl₅ _ _ hx₂), S₁₀.cell0⟩ LC.ga LC.gt LC.getd (by kernel_rfl) ((N₉.look "get_tokendefs").trans (congrArg some (hmn _ (by decide)))) ?_
  walk_at "gg"
  refine c_fm0 (by assumption) (by kernel_rfl) ?_
  refine wpAny_call (gtd_spec ((room_under (hr.mono (by omega : 5 ≤ 6))).deeper _) S₁₀.baseG S₁₀.gg LC (hl₅ _ _ hx₂) S₁₀.cell0 (S₁₀.cc _ (List.mem_cons_self ..)).2.2.1 N₉ hmt ⟨_, hl₅ _ _ htt, tup_is _⟩ (hl₅ _ _ htd) (by
    obtain ⟨kv, h1, h2, h3⟩ := Kt₂
    exact ⟨kv, h1, h2.mono fun _ _ x => ⟨x.1, x.2.mono hl₅⟩, h3⟩) hok.2.1 (by have := hok.1; omega) (fun k hk => (hok.2.2.2 k hk).2.2) ?_)
  intro td' od' s₁₁ g₁₁ P₁₁ hd₁₁ ht₁₁ K₁₁
  have S₁₁ := S₁₀.afterX (c1 := [(dx, od₉)]) (c1' := [(dx, od₉)]) P₁₁ rfl (by intro p hp; rcases List.mem_singleton.mp hp with rfl; exact hd₁₁)
  have hl₁₁ : Le g₂ g₁₁ := hl₅.trans P₁₁.grow
  walk_at "gg"
  refine St.kinH S₁₁ ?_
  refine wpAny_call (ptd_spec ((room_under (hr.mono (by omega : 6 ≤ 6))).deeper _) S₁₁.baseG S₁₁.gg LC hp (hl₁₁ _ _ hx₂) S₁₁.cell0 (S₁₁.cc _ (List.mem_cons_self ..)).2.2.1 (S₁₁.cell (by simp)) (S₁₁.cc (atd, oda) (by simp)).2.2.1 (by
    have := S₁₁.nd
    simp only [List.cons_append, List.nil_append, List.map_cons, List.nodup_cons, List.mem_cons, not_or] at this
    exact this.1.1) N₉ (by
      rw [List.all_eq_true]; intro n hn
      simp only [List.mem_cons, List.not_mem_nil, or_false] at hn
      rcases hn with rfl | rfl | rfl | rfl | rfl <;> exact Option.isNone_iff_eq_none.mpr (hmn _ (by decide))) hma ht₁₁ K₁₁ hok htb Da (by simp) ?_)
  intro pd odp s₁₂ g₁₂ oda' P₁₂ hd₁₂ ha₁₂ hp₁₂ K₁₂ hpm
  have S₁₂ := S₁₁.afterX (c1 := [(dx, od₉), (atd, oda)]) (c1' := [(dx, od₉), (atd, oda')]) (c2 := []) P₁₂ rfl (by
    intro p hp
    rcases List.mem_cons.mp hp with rfl | hp
    · exact hd₁₂
    · rcases List.mem_singleton.mp hp with rfl; exact ha₁₂)
  have hl₁₂ : Le g₂ g₁₂ := hl₁₁.trans P₁₂.grow
  walk_at "gg"
  refine set_field S₁₂ (S₁₂.gg _ _ (hl₁₂ _ _ hx₂)) N₉ (by omega) LC.sa LC.po (LC.own_get (n := "_tokens") (by simp)).1 LC.hd ?_; intro od₁₃ s₁₃ N₁₃ S₁₃
  walk_at "gg"
  obtain ⟨P, I, hle₂⟩ := made_endC hg hdx hs₁ S₁₃
  refine ⟨rfl, h _ _ _ P ⟨dx, od₁₃, _, _, pd, odp, I, N₁₃, up_self _ _ _, fun n hn => ?_, hle₂ _ _ hp₁₂, ?_, hpm⟩⟩
  · unfold ownNames at hn
    simp only [List.mem_cons, List.not_mem_nil, or_false, not_or] at hn
    obtain ⟨h1, h2, h3, h4, h5, h6, h7, h8, h9⟩ := hn
    rw [up_ne _ h9]
    exact hmn n (by simp only [List.mem_cons, List.not_mem_nil, or_false, not_or]; exact ⟨h1, h2, h3, h4, h5, h6, h7, h8⟩)
  · obtain ⟨kv, h1, h2⟩ := K₁₂
    exact ⟨kv, h1, h2.mono fun _ _ x => ⟨x.1, x.2.mono hle₂⟩⟩
end
end

end

-- PART B24 --
section
open PySem PySem.W PySem.Calls PyProof.Rows
section
variable {M : Model} {prog : Program} {w : World} {A : Around} {E : Value → Shared → Prop} {R : Result → Shared → Prop} {s₀ s s' : Shared} {g₀ g g' : Mem} {X : List Addr} {L : Addr} {m : Str → Option Value} {c : List (Addr × Obj)} {env : Env}
theorem St.seq0 {l : Addr} {vs us : List Value} {n : Nat} (S : St w s₀ g₀ X L m ((l, lst vs n) :: c) g s) (f : Array Value → Array Value) (hf : f vs.toArray = us.toArray) : ∃ n', St w s₀ g₀ X L m ((l, lst us n') :: c) g { s with heap := s.heap.update l (Obj.mapSeq f) } := by
  have h := Heap.get?_update_self (Obj.mapSeq f) S.cell0 rfl
  have e : ∃ n', Obj.mapSeq f (lst vs n) = lst us n' := ⟨_, by show ({ cls := _, dict := _, data := _, slots := _ } : Obj) = { cls := _, dict := _, data := _, slots := _ }; congr 1; simp only [Obj.mapSeq, hf]; rfl⟩
  obtain ⟨n', e⟩ := e
  rw [e] at h
  exact ⟨n', S.upd0 (t := s.toks) (fun b o hb x => (Heap.get?_update_other _ _ (Ne.symm hb)).trans x) h (Nat.le_of_eq (Heap.SameBut.update (h := s.heap) (a := l) (f := Obj.mapSeq f)).1.symm)⟩
theorem upd_seq {l : Addr} {vs us : List Value} {n : Nat} {f : Array Value → Array Value} {Q : Unit → Shared → Prop} (S : St w s₀ g₀ X L m ((l, lst vs n) :: c) g s) (hf : f vs.toArray = us.toArray) (h1 : vs.length ≤ 1000) (h2 : us.length ≤ 1000)
    (h : ∀ n' s', St w s₀ g₀ X L m ((l, lst us n') :: c) g s' → Q () s') : wpAny M A (updateSeq l f) Q E s := by
  obtain ⟨n', S'⟩ := S.seq0 f hf
  exact wpAny_updateSeq S.cell0 rfl (h n' _ S') (by rw [List.size_toArray, sizeLine_eq]; omega) (by rw [hf, List.size_toArray, sizeLine_eq]; omega)
theorem item_last {value slice : Expr} {l : Addr} {vs : List Value} {u : Tok} {v : Value} {Q : Value → Shared → Prop} (S : St w s₀ g₀ X L m c g s) (hl : LstAt s.heap.get? l vs) (hv : vs[vs.length - 1]? = some v) (h : Q v s)
    (hs : subscripted slice false (.ref l) (.int (-1) u) = operate [.ref l, .int (-1) u] (getItem (.ref l) (.int (-1) u)) := by with_unfolding_all rfl) :
    wpAny (model prog w) A (subscriptTail value slice (.ref l) (.int (-1) u)) Q E s := by
  have hlt : 0 < vs.length := by
    rcases Nat.eq_zero_or_pos vs.length with q | q
    · rw [q, List.getElem?_eq_none (by omega)] at hv; cases hv
    · exact q
  refine tail_any (T := "list") hl.isList.typeIs slot_list_getitem.lookup (wpAny_getItem_list_neg hl.isList (by omega) (by rw [List.size_toArray]; omega) (by omega) ?_ h) hs
  rw [List.size_toArray, show ((-1 : Int) + (vs.length : Int)).toNat = vs.length - 1 by omega]
  simpa using hv
theorem gm_pop {l : Addr} {vs : List Value} {n : Nat} {pl : Sem Bool} {Q : Value × List Value → Shared → Prop} (S : St w s₀ g₀ X L m c g s) (hm : (l, lst vs n) ∈ c) (h : Q (.builtin "list.pop", [.ref l]) s) :
    wpAny M A (getMethod (.ref l) "pop" pl) Q E s :=
  getMethod_builtin ⟨_, S.cell hm, rfl⟩ F.plainAttrs_list F.slot_list_pop F.type_list_pop (fun a e => by cases e; exact ⟨_, S.cell hm, rfl⟩) h
theorem c_pop2 {l : Addr} {a b : Value} {n : Nat} {pos : Pos} {Q : Value → Shared → Prop} (S : St w s₀ g₀ X L m ((l, lst [a, b] n) :: c) g s)
    (h : ∀ n s', St w s₀ g₀ X L m ((l, lst [a] n) :: c) g s' → Q b s') : wpAny (model prog w) A (callWith pos (.builtin "list.pop") [.ref l] (backTo pos (starEach [] env)) []) Q E s := by
  obtain ⟨n', S'⟩ := S.seq0 (us := [a]) (fun xs => xs.eraseIdxIfInBounds 1) (by apply Array.ext'; simp)
  exact PySem.P.pop_list S.cell0 rfl (h n' _ S')
theorem absI {a : Int} {t : Tok} {Q : Value → Shared → Prop} (S : St w s₀ g₀ X L m c g s) (h : ∀ t s', St w s₀ g₀ X L m c g s' → Q (.int (if a < 0 then -a else a) t) s') : wpAny (model prog w) A (call (.builtin "abs") [.int a t]) Q E s :=
  call_abs_int fun u tk => h u _ (S.toks tk)
theorem iadd_i {a b : Int} {t u : Tok} {Q : Value → Shared → Prop} (S : St w s₀ g₀ X L m c g s) (h : ∀ t s', St w s₀ g₀ X L m c g s' → Q (.int (a + b) t) s') : wpAny (model prog w) A (inplaceOp .Add (.int a t) (.int b u)) Q E s :=
  PyProof.Rows.iadd_int (h _ _ (S.toks _))
theorem s_del {o i : Expr} {p pos : Pos} {rest : List Stmt} {Q : Flow → Shared → Prop} (h : wpAny M A (eval o env) (fun ov s₁ => wpAny M A (eval i env) (fun iv s₂ => wpAny M A (delItem ov iv) (fun _ s₃ => wpAny M A (execs rest env) Q E s₃) E s₂) E s₁) E s) :
    wpAny M A (execs (.Delete [.Subscript o i p] pos :: rest) env) Q E s :=
  wpAny_execs_cons (wpAny_Delete (wpAny_deleteEach_cons (wpAny_delete_Subscript (wpAny_mono h (fun _ _ h₁ => wpAny_mono h₁ (fun _ _ h₂ => wpAny_mono h₂ (fun _ _ h₃ => wpAny_deleteEach_nil h₃) fun _ _ x => x) fun _ _ x => x) fun _ _ x => x))))
theorem del_last2 {l : Addr} {a b : Value} {n : Nat} {u : Tok} {Q : Unit → Shared → Prop} (S : St w s₀ g₀ X L m ((l, lst [a, b] n) :: c) g s)
    (h : ∀ n s', St w s₀ g₀ X L m ((l, lst [a] n) :: c) g s' → Q () s') : wpAny (model prog w) A (delItem (.ref l) (.ref s.heap.objs.size)) Q E { s with heap := s.heap.push { cls := .type "slice", data := .fields #[.int (-1) u, .none, .none] } } := by
  have S' := S.push { cls := .type "slice", data := .fields #[.int (-1) u, .none, .none] } s.toks
  have ho := S'.cell0
  have hT : Shared.TypeIs { s with heap := s.heap.push { cls := .type "slice", data := .fields #[.int (-1) u, .none, .none] }, toks := s.toks } (.ref l) "list" := ⟨_, ho, rfl⟩
  obtain ⟨os, hos, hcs, hds⟩ := Heap.IsSliceOf.new s.heap (.int (-1) u) .none .none
  have hTs : Shared.TypeIs { s with heap := s.heap.push { cls := .type "slice", data := .fields #[.int (-1) u, .none, .none] }, toks := s.toks } (.ref s.heap.objs.size) "slice" := ⟨os, hos, hcs⟩
  refine wpAny_delItem_slot hT (by decide) F.slot_list_delitem (wpAny_call_entry F.slot_list_delitem hT F.entry_list_delitem ?_ (F.args_list_delitem_2 _ _))
  show wpAny _ _ (Builtin.List.listSubscript? (.ref s.heap.objs.size) >>= _) _ _ _
  refine wpAny_bind ?_
  unfold Builtin.List.listSubscript?
  refine wpAny_bind (wpAny_specialOf hTs slice_no_index ?_)
  simp only [Option.isNone_none, if_true]
  refine wpAny_pure ?_
  show wpAny _ _ (typeOf (.ref s.heap.objs.size) >>= _) _ _ _
  refine wpAny_bind (wpAny_typeOf hTs ?_)
  rw [if_neg (by decide)]
  rw [listSliceParts_eq]
  refine wpAny_bind (wpAny_bind (wpAny_field hos hds (x := .none) rfl (wpAny_bind (wpAny_listPart .none ?_))))
  rw [if_neg (by simp [rawPart, rawInt])]
  refine wpAny_bind (wpAny_field hos hds (x := .int (-1) u) rfl (wpAny_bind (wpAny_listPart (.int _ _) ?_)))
  refine wpAny_bind (wpAny_field hos hds (x := .none) rfl (wpAny_bind (wpAny_listPart .none (wpAny_pure ?_))))
  refine wpAny_bind (m := Builtin.List.listItems (.ref l)) ?_
  unfold Builtin.List.listItems
  refine wpAny_bind (wpAny_seqItems ho rfl (wpAny_pure ?_))
  refine wpAny_bind (wpAny_of_eq (sliceIndices_raw (some (-1)) none none 2 (by simp)) ?_)
  refine wpAny_bind (wpAny_rule ?_)
  show wpAny _ _ (updateSeq l _ >>= _) _ _ _
  refine wpAny_bind (upd_seq S' (us := [a]) ?_ (by simp) (by simp) fun n' s' S'' => ?_)
  · rfl
  · exact wpAny_bind (wpAny_letGo (wpAny_pure ⟨_, rfl, h n' _ S''⟩))
end
end

section
local macro_rules | `(tactic| walk_at "lk") => `(tactic| first | with_reducible assumption | with_reducible exact up_self _ _ _ | with_reducible exact up_get (by with_unfolding_all decide) (by walk_at "lk") | with_unfolding_all rfl)
local macro_rules | `(tactic| walk_at "g") => `(tactic| with_reducible first
  | refine s_assign ?_
  | refine s_setattr ?_
  | refine s_setitem ?_
  | refine s_assign2 ?_
  | refine s_ret ?_
  | refine s_if1 ?_
  | refine s_if ?_
  | refine s_for ?_
  | refine s_aug ?_
  | refine s_expr ?_
  | refine s_nil ?_
  | refine s_continue ?_
  | refine s_break ?_
  | refine t_cmp ?_
  | refine t_not ?_
  | refine t_or ?_
  | refine t_or1 ?_
  | refine t_and ?_
  | refine t_and1 ?_
  | refine e_or ?_
  | refine e_and ?_
  | refine e_bool1 ?_
  | refine e_attr ?_
  | refine GM.isupper ?_
  | refine GM.split ?_
  | refine GM.join ?_
  | refine GM.endswith ?_
  | refine endswith1 ?_
  | refine e_mcall ?_
  | refine e_call ?_
  | refine e_sub ?_
  | refine e_bin ?_
  | refine e_ite ?_
  | refine s_assert ?_
  | refine e_neg ?_
  | (refine neg_i (by assumption) ?_; intro _ _ _)
  | refine e_cmp ?_
  | refine e_slice_sn ?_
  | refine e_slice_ns ?_
  | refine e_slice_ss ?_
  | refine a_nil ?_
  | refine a_cons ?_
  | refine c_type ?_
  | refine c_builtin ?_
  | refine c_meth ?_
  | refine c_builtin0 ?_
  | (refine cint (by assumption) ?_; intro _ _ _)
  | (refine cstr (by assumption) ?_; intro _ _ _)
  | refine wpAny_Constant_none ?_
  | refine wpAny_Constant_bool ?_
  | refine ldl (by assumption) (by walk_at "lk") ?_
  | refine ldlN (by assumption) (by walk_at "lk") ?_
  | refine ldn (by assumption) (by with_unfolding_all rfl) ?_
  | (refine stl (by assumption) ?_; intro _ _)
  | (refine max2 (by assumption) (by with_unfolding_all assumption) ?_; intro _ _ _)
  | (refine min2 (by assumption) (by with_unfolding_all assumption) ?_; intro _ _ _)
  | (refine Mine.sub_int (by assumption) ?_; intro _ _ _)
  | (refine Mine.add_int (by assumption) ?_; intro _ _ _)
  | (refine Mine.mod_pos (by assumption) (by omega) ?_; intro _ _ _)
  | (refine Mine.div_pos (by assumption) (by omega) (by omega) ?_; intro _ _ _)
  | (refine Mine.len_str (by assumption) (by omega) ?_; intro _ _ _)
  | refine gm_append (by assumption) (by with_unfolding_all k_mem) ?_
  | (refine append0 (by assumption) (by omega) ?_; intro _ _ _)
  | (refine append1 (by assumption) (by omega) ?_; intro _ _ _)
  | (refine append2 (by assumption) (by omega) ?_; intro _ _ _)
  | refine e_tup ?_
  | refine e_listF ?_
  | refine eqI ?_
  | refine geI ?_
  | refine leI ?_
  | refine gtI ?_
  | refine eqS ?_
  | refine isNone ?_
  | refine isntNone ?_
  | refine And.intro rfl ?_
  | refine wpAny_truthy_bool ?_
  | refine t_val ?_)
local macro_rules | `(tactic| walk_at "gg") => `(tactic| repeat' (first | walk_at "g" | dsimp only))
local macro_rules | `(tactic| walk_at "h") => `(tactic| with_reducible first
  | refine s_assign ?_
  | refine s_setattr ?_
  | refine s_setitem ?_
  | refine s_assign2 ?_
  | refine s_ret ?_
  | refine s_if1 ?_
  | refine s_if ?_
  | refine s_for ?_
  | refine s_aug ?_
  | refine s_expr ?_
  | refine s_nil ?_
  | refine s_continue ?_
  | refine s_break ?_
  | refine e_or ?_
  | refine e_and ?_
  | refine e_bool1 ?_
  | refine e_attr ?_
  | refine GM.isupper ?_
  | refine GM.split ?_
  | refine GM.join ?_
  | refine GM.endswith ?_
  | refine endswith1 ?_
  | refine e_mcall ?_
  | refine e_call ?_
  | refine e_sub ?_
  | refine e_bin ?_
  | refine e_ite ?_
  | refine s_assert ?_
  | refine e_neg ?_
  | (refine neg_i (by assumption) ?_; intro _ _ _)
  | refine e_cmp ?_
  | refine e_slice_sn ?_
  | refine e_slice_ns ?_
  | refine e_slice_ss ?_
  | refine a_nil ?_
  | refine a_cons ?_
  | refine c_type ?_
  | refine c_builtin ?_
  | refine c_meth ?_
  | refine c_builtin0 ?_
  | (refine cint (by assumption) ?_; intro _ _ _)
  | (refine cstr (by assumption) ?_; intro _ _ _)
  | refine wpAny_Constant_none ?_
  | refine wpAny_Constant_bool ?_
  | refine ldl (by assumption) (by walk_at "lk") ?_
  | refine ldlN (by assumption) (by walk_at "lk") ?_
  | refine ldn (by assumption) (by with_unfolding_all rfl) ?_
  | (refine stl (by assumption) ?_; intro _ _)
  | (refine max2 (by assumption) (by with_unfolding_all assumption) ?_; intro _ _ _)
  | (refine min2 (by assumption) (by with_unfolding_all assumption) ?_; intro _ _ _)
  | (refine Mine.sub_int (by assumption) ?_; intro _ _ _)
  | (refine Mine.add_int (by assumption) ?_; intro _ _ _)
  | (refine Mine.mod_pos (by assumption) (by omega) ?_; intro _ _ _)
  | (refine Mine.div_pos (by assumption) (by omega) (by omega) ?_; intro _ _ _)
  | (refine Mine.len_str (by assumption) (by omega) ?_; intro _ _ _)
  | refine gm_append (by assumption) (by with_unfolding_all k_mem) ?_
  | (refine append0 (by assumption) (by omega) ?_; intro _ _ _)
  | (refine append1 (by assumption) (by omega) ?_; intro _ _ _)
  | (refine append2 (by assumption) (by omega) ?_; intro _ _ _)
  | refine e_tup ?_
  | refine e_listF ?_
  | refine eqI ?_
  | refine geI ?_
  | refine leI ?_
  | refine gtI ?_
  | refine eqS ?_
  | refine isNone ?_
  | refine isntNone ?_
  | refine And.intro rfl ?_
  | refine wpAny_truthy_bool ?_)
local macro_rules | `(tactic| walk_at "hh") => `(tactic| repeat' (first | walk_at "h" | dsimp only))

-- PART F21 --
section
open PySem PySem.W PySem.Calls PyProof.Rows
def TokRow (g : Mem) (v : Value) (r : Row) : Prop := ∃ a v1 v2 v3 t, v = .ref a ∧ TupAt g a [v1, v2, v3] ∧ v1 = .int (r.p : Int) t ∧ IsTok g v2 r.names ∧ IsT v3 r.val
theorem TokRow.mono {g g' : Mem} {v : Value} {r : Row} (h : TokRow g v r) (k : Le g g') : TokRow g' v r :=
  let ⟨a, v1, v2, v3, t, h1, h2, h3, h4, h5⟩ := h; ⟨a, v1, v2, v3, t, h1, h2.mono k, h3, h4.mono k, h5⟩
structure GKeep (t₁ Lg : Addr) (s₀ s' : Shared) : Prop where
  keep : ∀ b o, b ≠ Lg → (b < t₁ ∨ o.cls = .type "tuple") → s₀.heap.get? b = some o → s'.heap.get? b = some o
  size : s₀.heap.objs.size ≤ s'.heap.objs.size
  os : s'.os = s₀.os
  loc : ∃ o, s'.heap.get? Lg = some o
def CKeep (t₁ Lg : Addr) (gC : Mem) (s' s'' : Shared) : Prop :=
  (∀ b o, b = Lg ∨ t₁ ≤ b → s'.heap.get? b = some o → s''.heap.get? b = some o) ∧ Le gC s''.heap.get? ∧ s'.heap.objs.size ≤ s''.heap.objs.size
def RowAt (gC : Mem) (t₁ : Addr) (s : Shared) (v : Value) (r : Row) : Prop :=
  ∃ a o v1 v2 v3 t, v = .ref a ∧ t₁ ≤ a ∧ s.heap.get? a = some o ∧ TupIs o [v1, v2, v3] ∧ v1 = .int (r.p : Int) t ∧ IsTok gC v2 r.names ∧ IsT v3 r.val
def GR (t₁ Lg : Addr) : GenEnd := fun n s₀ r s' => r = .ok (.ret .none) ∧ (n = 0 ∧ GKeep t₁ Lg s₀ s' ∧ s'.gens = s₀.gens)
def GY (t₁ Lg : Addr) (gC : Mem) (rows : List Row) : Protocol := fun n s₀ v s' kap => (GKeep t₁ Lg s₀ s' ∧ s'.gens = s₀.gens) ∧ (∃ r, rows[rows.length - 1 - n]? = some r ∧ RowAt gC t₁ s' v r) ∧ ∀ s'', CKeep t₁ Lg gC s' s'' → kap (.send .none) s''
def GAt (prog : Program) (w : World) (A : Around) (gi : Nat) (t₁ Lg : Addr) (gC : Mem) (rows : List Row) (i : Nat) (s : Shared) : Prop :=
  ∃ gs, s.gens[gi]? = some gs ∧ ∀ s'', CKeep t₁ Lg gC s s'' → gs.Goes (model prog w) A (GR t₁ Lg) (GY t₁ Lg gC rows) (rows.length - i) (.send .none) s''
def genO (gi : Nat) (nm qn : Value) : Obj := { cls := .type "generator", data := .fields #[.int gi 0, nm, qn] }
def GenReady (prog : Program) (w : World) (k : Nat) (Lg : Addr) (oL : Obj) (code : Code) (gC : Mem) (rows : List Row) : Prop :=
  ∀ A s₁ t₁, Room A k → Le gC s₁.heap.get? → s₁.heap.get? Lg = some oL → t₁ ≤ s₁.heap.objs.size → Lg < t₁ → (∀ b o, gC b = some o → b < t₁) → Seg (model prog w) A (GR t₁ Lg) (GY t₁ Lg gC rows) rows.length s₁ code ((model prog w).den code) [] s₁
section
variable {prog : Program} {w : World} {A : Around} {E : Value → Shared → Prop} {s₀ s s' : Shared} {g₀ g gC : Mem} {X : List Addr} {L Lg t₁ ga : Addr} {oL : Obj} {m : Str → Option Value} {c : List (Addr × Obj)} {rows : List Row} {i gi : Nat} {nm qn : Value}
theorem St.kept (S : St w s₀ g₀ X L m ((Lg, oL) :: c) g s) (K : GKeep t₁ Lg s s') (hs : s₀.heap.objs.size ≤ t₁) (hL : L < t₁) (hc : ∀ p ∈ c, p.1 < t₁) (hg : ∀ b o, g b = some o → b < t₁ ∨ o.cls = .type "tuple") :
    ∃ oL', St w { s₀ with gens := s'.gens } g₀ X L m ((Lg, oL') :: c) g s' := by
  have hz := S.cc (Lg, oL) (List.mem_cons_self ..)
  obtain ⟨oL', hL'⟩ := K.loc
  refine ⟨oL', S.base, ?_, fun b o hb e => ?_, S.above, fun b o e => ?_, S.grow, S.low, S.gL, fun p hp => ?_, S.nd, rfl, K.os.trans S.os, Nat.le_trans S.size K.size⟩
  · obtain ⟨o, es, ep, h1, r⟩ := S.ns
    exact ⟨o, es, ep, K.keep _ _ (Ne.symm hz.2.1) (.inl hL) h1, r⟩
  · have hlt : b < s₀.heap.objs.size := Heap.lt_size e
    refine K.keep b o (fun q => ?_) (.inl (Nat.lt_of_lt_of_le hlt hs)) (S.keep b o hb e)
    rcases hz.2.2.2 with z | z
    · rw [q] at hlt; exact absurd hlt (Nat.not_lt.mpr z)
    · exact hb (q ▸ z)
  · refine K.keep b o (fun q => ?_) (hg b o e) (S.gg b o e)
    rw [q, hz.2.2.1] at e; cases e
  · rcases List.mem_cons.mp hp with rfl | hp
    · exact ⟨hL', hz.2⟩
    · have z := S.cc p (List.mem_cons_of_mem _ hp)
      have hne : p.1 ≠ Lg := fun q => by
        have := S.nd
        rw [List.map_cons, List.nodup_cons] at this
        exact this.1 (List.mem_map.mpr ⟨p, hp, q⟩)
      exact ⟨K.keep _ _ hne (.inl (hc p hp)) z.1, z.2⟩
theorem Mem.le_put' {g : Mem} {a : Addr} {o : Obj} (h : ∀ o', g a = some o' → o' = o) : Le g (g.put a o) := fun b o' e => by
  by_cases q : b = a
  · subst q; rw [Mem.put_self, h o' e]
  · rw [Mem.put_ne _ _ q]; exact e
theorem St.putT {o : Obj} {a : Addr} (S : St w s₀ g₀ X L m c g s) (ha : s.heap.get? a = some o) (hs : s₀.heap.objs.size ≤ a) (hL : L ≠ a) (hc : ∀ p ∈ c, p.1 ≠ a) : St w s₀ g₀ X L m c (g.put a o) s ∧ Le g (g.put a o) := by
  have hle : Le g (g.put a o) := Mem.le_put' fun o' e => by have := S.gg _ _ e; rw [ha] at this; cases this; rfl
  refine ⟨⟨S.base, S.ns, S.keep, S.above, fun b x e => ?_, fun b x e => hle _ _ (S.grow _ _ e), fun b hb => ?_, ?_, fun p hp => ?_, S.nd, S.gens, S.os, S.size⟩, hle⟩
  · by_cases q : b = a
    · subst q; rw [Mem.put_self] at e; cases e; exact ha
    · rw [Mem.put_ne _ _ q] at e; exact S.gg _ _ e
  · rw [Mem.put_ne _ _ (Nat.ne_of_lt (Nat.lt_of_lt_of_le hb hs))]; exact S.low b hb
  · rw [Mem.put_ne _ _ hL]; exact S.gL
  · have z := S.cc p hp
    refine ⟨z.1, z.2.1, ?_, z.2.2.2⟩
    rw [Mem.put_ne _ _ (hc p hp)]; exact z.2.2.1
theorem CKeep.self (hC : Le gC s.heap.get?) {gens : Array GenState} : CKeep t₁ Lg gC s { s with gens := gens } := ⟨fun _ _ _ e => e, hC, Nat.le_refl _⟩
theorem next_gen {Q : Option Value → Shared → Prop} (hh : A.handled = none) (hroom : A.depth < recursionLimit) (S : St w s₀ g₀ X L m ((Lg, oL) :: c) g s) (hgen : g ga = some (genO gi nm qn)) (G : GAt prog w A.in1 gi t₁ Lg gC rows i s) (hC : Le gC g)
    (hs : s₀.heap.objs.size ≤ t₁) (hL : L < t₁) (hc : ∀ p ∈ c, p.1 < t₁) (hLg : Lg < t₁) (hg : ∀ b o, g b = some o → b < t₁ ∨ o.cls = .type "tuple")
    (item : i < rows.length → ∀ r v oL' a o s', rows[i]? = some r → t₁ ≤ a → o.cls = .type "tuple" → Le g (g.put a o) → St w { s₀ with gens := s'.gens } g₀ X L m ((Lg, oL') :: c) (g.put a o) s' → TokRow (g.put a o) v r → GenOnly gi s.gens s'.gens →
      GAt prog w A.in1 gi t₁ Lg gC rows (i + 1) s' → Q (some v) s')
    (done : rows.length ≤ i → ∀ oL' s', St w { s₀ with gens := s'.gens } g₀ X L m ((Lg, oL') :: c) g s' → GenOnly gi s.gens s'.gens → s'.gens[gi]? = some .finished → Q none s') :
    wpAny (model prog w) A (pyNext (.ref ga)) Q E s := by
  obtain ⟨gs, hgs, hgo⟩ := G
  have hCs : Le gC s.heap.get? := hC.trans S.gg
  refine withSize (wpAny_pyNext_gen (P := fun n s₀ s₁ => n = 0 ∧ GKeep t₁ Lg s₀ s₁ ∧ s₁.gens = s₀.gens) hh S.baseH.nolimit hroom ⟨_, _, _, S.gg _ _ hgen, rfl, rfl, rfl⟩ hgs (hgo _ (CKeep.self hCs)) (fun v s₁ gs' hv hz => ?_) (fun s₁ hp h' hk hz => ?_))
  · obtain ⟨⟨K, hgn⟩, ⟨r, hr, hrow⟩, hkap⟩ := hv
    have hlt : i < rows.length := by
      rcases Nat.lt_or_ge i rows.length with q | q
      · exact q
      · exfalso
        have hn : rows.length - i = 0 := by omega
        have hCs₁ : Le gC s₁.heap.get? := fun b o e => K.keep b o (fun q => by
          have := hC _ _ e
          rw [q, (S.cc (Lg, oL) (List.mem_cons_self ..)).2.2.1] at this; cases this) (hg b o (hC _ _ e)) (hCs b o e)
        have := hkap s₁ ⟨fun _ _ _ e => e, hCs₁, Nat.le_refl _⟩
        rw [hn] at this; exact this
    have hidx : rows.length - 1 - (rows.length - i - 1) = i := by omega
    rw [hidx] at hr
    obtain ⟨a, o, v1, v2, v3, t, rfl, hta, hao, ht, h1, h2, h3⟩ := hrow
    have K₂ : GKeep t₁ Lg s (s₁.setGen gi gs') := ⟨K.keep, K.size, K.os, K.loc⟩
    obtain ⟨oL', S₂⟩ := S.kept K₂ hs hL hc hg
    obtain ⟨S₃, hle⟩ := S₂.putT (a := a) (o := o) hao (Nat.le_trans hs hta) (Nat.ne_of_lt (Nat.lt_of_lt_of_le hL hta)) (fun p hp => by
      rcases List.mem_cons.mp hp with rfl | hp
      · exact Nat.ne_of_lt (Nat.lt_of_lt_of_le hLg hta)
      · exact Nat.ne_of_lt (Nat.lt_of_lt_of_le (hc p hp) hta))
    have hself : s₁.gens[gi]? = some .running := by rw [hgn]; exact setGen_self hgs
    refine item hlt r _ oL' a o _ hr hta ht.1 hle S₃ ⟨a, v1, v2, v3, t, rfl, ⟨o, Mem.put_self .., ht⟩, h1, h2.mono (hC.trans hle), h3⟩ ?_ ⟨gs', setGen_self hself, fun s'' hk => ?_⟩
    · have h1 := GenOnly.setGen s gi .running
      rw [← hgn] at h1
      exact h1.trans (GenOnly.setGen s₁ gi gs')
    · have hk' := hkap s'' hk
      have hn : rows.length - i = (rows.length - (i + 1)) + 1 := by omega
      rw [hn] at hk'
      exact hk'
  · obtain ⟨h0, K, hgn⟩ := hp
    have K₂ : GKeep t₁ Lg s { s₁.setGen gi .finished with heap := h' } := ⟨fun b o h1 h2 e => hk b o (K.keep b o h1 h2 e), hz, K.os, let ⟨o, ho⟩ := K.loc; ⟨o, hk _ _ ho⟩⟩
    obtain ⟨oL', S₂⟩ := S.kept K₂ hs hL hc hg
    have hself : s₁.gens[gi]? = some .running := by rw [hgn]; exact setGen_self hgs
    refine done (by omega) oL' _ S₂ ?_ (setGen_self hself)
    have h1 := GenOnly.setGen s gi .running
    rw [← hgn] at h1
    exact h1.trans (GenOnly.setGen s₁ gi .finished)
end
end

-- PART F22 --
section
open PySem PySem.W PySem.Calls PyProof.Rows
section
variable {prog : Program} {w : World} {A : Around} {E : Value → Shared → Prop} {s₀ s s' : Shared} {g₀ g gC : Mem} {X : List Addr} {L Lg t₁ ga : Addr} {oL : Obj} {m : Str → Option Value} {c : List (Addr × Obj)} {rows : List Row} {i gi : Nat} {nm qn : Value}
theorem St.reg (S : St w s₀ g₀ X L m c g s) : St w { s₀ with gens := s.gens } g₀ X L m c g s := { S with gens := rfl }
theorem GAt.frame (G : GAt prog w A gi t₁ Lg gC rows i s) {h' : Heap} {tk : Nat} (hk : ∀ b o, b = Lg ∨ t₁ ≤ b → s.heap.get? b = some o → h'.get? b = some o) (hz : s.heap.objs.size ≤ h'.objs.size) : GAt prog w A gi t₁ Lg gC rows i { s with heap := h', toks := tk } :=
  let ⟨gs, h1, h2⟩ := G
  ⟨gs, h1, fun s'' hc => h2 s'' ⟨fun b o hb e => hc.1 b o hb (hk b o hb e), hc.2.1, Nat.le_trans hz hc.2.2⟩⟩
theorem St.push0 {l : Addr} {vs : List Value} {n : Nat} (S : St w s₀ g₀ X L m ((l, lst vs n) :: c) g s) (v : Value) : ∃ n', St w s₀ g₀ X L m ((l, lst (vs ++ [v]) n') :: c) g { s with heap := s.heap.update l (Obj.mapSeq (·.push v)) } := by
  have h := Heap.get?_update_self (Obj.mapSeq (·.push v)) S.cell0 rfl
  have e : ∃ n', Obj.mapSeq (·.push v) (lst vs n) = lst (vs ++ [v]) n' := ⟨_, by show ({ cls := _, dict := _, data := _, slots := _ } : Obj) = { cls := _, dict := _, data := _, slots := _ }; congr 1; simp [Obj.mapSeq]; rfl⟩
  obtain ⟨n', e⟩ := e
  rw [e] at h
  exact ⟨n', S.upd0 (t := s.toks) (fun b o hb x => (Heap.get?_update_other _ _ (Ne.symm hb)).trans x) h (Nat.le_of_eq (Heap.SameBut.update (h := s.heap) (a := l) (f := Obj.mapSeq (·.push v))).1.symm)⟩
theorem list_gen_loop {R : Result → Shared → Prop} {Sa : Addr} {g₁ : Mem} {G₀ : Array GenState} (hh : A.handled = none) (hroom : A.depth < recursionLimit) (hC₁ : Le gC g₁) (hgen : g₁ ga = some (genO gi nm qn)) (hs : s₀.heap.objs.size ≤ t₁) (hL : L < t₁) (hc : ∀ p ∈ c, p.1 < t₁) (hLg : Lg < t₁) (hSa : Sa < t₁) (hN : rows.length ≤ 10000)
    (hR : ∀ s' vs n oL g', St w { s₀ with gens := s'.gens } g₀ X L m ((Sa, lst vs n) :: (Lg, oL) :: c) g' s' → Le g₁ g' → All2 (TokRow g') vs rows → GenOnly gi G₀ s'.gens → s'.gens[gi]? = some .finished → R (.ok (.ret .none)) s') :
    ∀ (k i : Nat) (s : Shared) (vs : List Value) (n : Nat) (oL : Obj) (g : Mem), rows.length - i = k → i ≤ rows.length → St w { s₀ with gens := s.gens } g₀ X L m ((Sa, lst vs n) :: (Lg, oL) :: c) g s → GAt prog w A.in1.in1 gi t₁ Lg gC rows i s → Le g₁ g → (∀ b o, g b = some o → b < t₁ ∨ o.cls = .type "tuple") →
      All2 (TokRow g) vs (rows.take i) → GenOnly gi G₀ s.gens → codeAny (model prog w) A (.builtin "list.extend.loop" ⟨[.ref Sa, .ref ga, .none], []⟩) R s := by
  intro k
  induction k with
  | zero =>
    intro i s vs n oL g hk hi S G hl hg hv hG
    refine codeAny_builtin PySem.F.entry_extend_loop ?_
    rw [Around.under_plainId PySem.F.plain_extend_loop _]
    show wpAny _ A.in1 (pyNext (.ref ga) >>= _) _ _ s
    refine wpAny_bind (next_gen (A := A.in1) hh hroom S.swap (hl _ _ hgen) G (hC₁.trans hl) hs hL (fun p hp => ?_) hLg hg (fun h => absurd h (by omega)) fun _ oL' s' S' hG' hfin => ?_)
    · rcases List.mem_cons.mp hp with rfl | hp
      · exact hSa
      · exact hc p hp
    · refine wpAny_pure (hR s' vs n oL' g S'.swap hl ?_ (hG.trans hG') hfin)
      rw [show i = rows.length by omega, List.take_length] at hv; exact hv
  | succ k ih =>
    intro i s vs n oL g hk hi S G hl hg hv hG
    refine codeAny_builtin PySem.F.entry_extend_loop ?_
    rw [Around.under_plainId PySem.F.plain_extend_loop _]
    show wpAny _ A.in1 (pyNext (.ref ga) >>= _) _ _ s
    refine wpAny_bind (next_gen (A := A.in1) hh hroom S.swap (hl _ _ hgen) G (hC₁.trans hl) hs hL (fun p hp => ?_) hLg hg (fun hlt r v oL' a o s' hr hta hot hle S' hrow hG' G' => ?_) fun h => absurd h (by omega))
    · rcases List.mem_cons.mp hp with rfl | hp
      · exact hSa
      · exact hc p hp
    · show wpAny _ A.in1 (updateSeq Sa (·.push v) >>= _) _ _ _
      have S₂ := S'.swap
      have hvl : vs.length = i := by have := hv.length; rw [List.length_take] at this; omega
      obtain ⟨n', S₃⟩ := S₂.push0 v
      refine wpAny_bind (wpAny_updateSeq S₂.cell0 rfl (wpAny_pure ⟨plainId_quiet PySem.F.plain_extend_loop _, ih (i + 1) _ (vs ++ [v]) n' oL' _ (by omega) hlt S₃ (G'.frame (tk := s'.toks) (fun b o hb e => (Heap.get?_update_other _ _ (fun q : Sa = b => ?_)).trans e) (Nat.le_of_eq (Heap.SameBut.update (h := s'.heap) (a := Sa) (f := Obj.mapSeq (·.push v))).1.symm)) (hl.trans hle) (fun b x e => ?_) ?_ (hG.trans hG')⟩) (by rw [List.size_toArray, sizeLine_eq]; omega) (by rw [Array.size_push, List.size_toArray, sizeLine_eq]; omega))
      · have hnd := S₂.nd
        rw [List.map_cons, List.nodup_cons] at hnd
        rcases hb with rfl | hb
        · exact hnd.1 (by rw [q]; simp)
        · rw [← q] at hb; exact absurd hSa (Nat.not_lt.mpr hb)
      · by_cases q : b = a
        · subst q; rw [Mem.put_self] at e; cases e; exact .inr hot
        · rw [Mem.put_ne _ _ q] at e; exact hg b x e
      · exact all2_take_succ (hv.mono fun _ _ x => x.mono hle) hr hrow
theorem list_gen {k : Nat} {Q : Value → Shared → Prop} {code : Code} (hr : Room A (k + 3)) (S : St w s₀ g₀ X L m ((Lg, oL) :: c) g s) (hgen : g ga = some (genO gi nm qn)) (hgs : s.gens[gi]? = some (.fresh code)) (hready : GenReady prog w k Lg oL code gC rows) (hC : Le gC g) (hN : rows.length ≤ 10000)
    (h : ∀ r vs oL' g' s', Le g g' → St w { s₀ with gens := s'.gens } g₀ X L m ((Lg, oL') :: c) g' s' → LstAt g' r vs → All2 (TokRow g') vs rows → GenOnly gi s.gens s'.gens → s'.gens[gi]? = some .finished → Q (.ref r) s') :
    wpAny (model prog w) A (call (.type "list") [.ref ga]) Q E s := by
  have hh := hr.hd
  refine callType_codes (Q₁ := fun obj s₁ => obj = .ref s.heap.objs.size ∧ s₁ = { s with heap := s.heap.push { cls := .type "list", data := .seq #[] } }) PySem.F.called_list (PySem.F.typeCall_list_1 _) PySem.F.entry_list_init
    (code_list_new _ ⟨rfl, rfl⟩) fun obj s₁ h₁ => ?_
  obtain ⟨rfl, rfl⟩ := h₁
  have S₁ := S.pushC (lst [] 0) s.toks
  refine ⟨⟨_, S₁.cell0, rfl⟩, PySem.F.args_list_init_2 _ _, ?_⟩
  generalize hSa : s.heap.objs.size = Sa at S₁ ⊢
  have hgens₁ : (({ s with heap := s.heap.push (lst [] 0), toks := s.toks } : Shared)).gens = s.gens := rfl
  have hsz₁ : Sa < (({ s with heap := s.heap.push (lst [] 0), toks := s.toks } : Shared)).heap.objs.size := by
    show Sa < (s.heap.push _).objs.size
    rw [Heap.size_push, hSa]; exact Nat.lt_succ_self _
  have hold : s.heap.objs.size ≤ Sa := Nat.le_of_eq hSa
  revert hgens₁ hsz₁ S₁
  generalize ({ s with heap := s.heap.push (lst [] 0), toks := s.toks } : Shared) = s₁
  intro S₁ hgens₁ hsz₁
  show wpAny _ A.in1.in1 (do let old ← Builtin.List.listItems (.ref Sa); Builtin.List.listUpdate (.ref Sa) (fun _ => #[]); letGo old.toList.reverse; Builtin.List.listExtendWith (.ref Sa) (.ref ga) .none) _ _ s₁
  refine wpAny_bind ?_
  unfold Builtin.List.listItems
  refine wpAny_bind (wpAny_seqItems S₁.cell0 rfl (wpAny_pure ?_))
  show wpAny _ A.in1.in1 (updateSeq Sa (fun _ => #[]) >>= fun _ => letGo (#[] : Array Value).toList.reverse >>= fun _ => Builtin.List.listExtendWith (.ref Sa) (.ref ga) .none) _ _ s₁
  obtain ⟨n₂, S₂⟩ := S₁.seq0 (us := []) (fun _ => #[]) rfl
  refine wpAny_bind (wpAny_updateSeq S₁.cell0 rfl ?_)
  refine wpAny_bind (wpAny_letGo ?_)
  have hT : ∀ s' : Shared, (∀ b o, g b = some o → s'.heap.get? b = some o) → Shared.TypeIs s' (.ref ga) "generator" := fun s' k => ⟨_, k _ _ hgen, rfl⟩
  have hG : ∀ s' : Shared, (∀ b o, g b = some o → s'.heap.get? b = some o) → s'.heap.IsGen ga gi := fun s' k => ⟨_, _, _, k _ _ hgen, rfl, rfl, rfl⟩
  unfold Builtin.List.listExtendWith
  refine wpAny_bind (wpAny_typeOf (hT _ S₂.gg) ?_)
  have hne : Sa ≠ ga := fun e => by
    have := Heap.lt_size (S.gg _ _ hgen)
    rw [← e] at this; exact absurd this (Nat.not_lt.mpr hold)
  have h1 : Builtin.List.listSameRef (.ref Sa) (.ref ga) = false := by simp [Builtin.List.listSameRef, hne]
  have h2 : (Value.type "generator" == Value.type "list") = false := by decide
  have h3 : (Value.type "generator" == Value.type "tuple") = false := by decide
  simp only [h1, h2, h3, Bool.or_false, Bool.false_eq_true, if_false]
  refine wpAny_bind (wpAny_pyIter_gen (hG _ S₂.gg) ?_)
  refine wpAny_bind (wpAny_holding ?_)
  unfold Builtin.List.listLengthHint
  refine wpAny_bind (wpAny_specialOf (hT _ S₂.gg) PySem.F.gen_no_len ?_)
  show wpAny _ A.in1.in1 (specialOf (Value.ref ga) (Str.ofString "__length_hint__") >>= _) _ _ _
  refine wpAny_bind (wpAny_specialOf (hT _ S₂.gg) PySem.F.gen_no_hint ?_)
  refine wpAny_pure ?_
  show wpAny _ A.in1.in1 (rule "list.extend.makes-room" >>= fun _ => Builtin.List.listTouch (.ref Sa) >>= fun _ =>
    again (.builtin "list.extend.loop" ⟨[.ref Sa, .ref ga, .none], []⟩)) _ _ _
  refine wpAny_bind (wpAny_rule ?_)
  refine wpAny_bind ?_
  show wpAny _ A.in1.in1 (updateSeq Sa (·.push .none) >>= fun _ => updateSeq Sa (·.pop)) _ _ _
  obtain ⟨n₃, S₃⟩ := S₂.push0 .none
  refine wpAny_bind (wpAny_updateSeq S₂.cell0 rfl ?_)
  obtain ⟨n₄, S₄⟩ := S₃.seq0 (us := []) (·.pop) rfl
  refine wpAny_updateSeq (hz := by seq_fits) S₃.cell0 rfl ?_
  have hlt : ∀ b o, s.heap.get? b = some o → b < Sa := fun b o e => hSa ▸ Heap.lt_size e
  refine wpAny_pure ⟨plainId_quiet PySem.F.plain_extend_loop _, ?_⟩
  refine list_gen_loop (t₁ := Sa + 1) (gC := gC) (g₁ := g) (G₀ := s.gens) (rows := rows) (gi := gi) (A := A.in1) hh hr.lt hC hgen (Nat.le_succ_of_le (Nat.le_trans S.size hold)) (Nat.lt_succ_of_lt (hSa ▸ S.lt)) (fun p hp => Nat.lt_succ_of_lt (hlt _ _ (S.cc p (List.mem_cons_of_mem _ hp)).1)) (Nat.lt_succ_of_lt (hlt _ _ (S.cc _ (List.mem_cons_self ..)).1)) (Nat.lt_succ_self _) hN
    (fun s' vs n oL' g' S' hl hv hG' hfin => ?_) _ 0 _ [] n₄ oL g rfl (Nat.zero_le _) S₄.reg ⟨.fresh code, ?_, fun s'' hk => ⟨rfl, ?_⟩⟩ (Le.refl _) (fun b o e => .inl (Nat.lt_succ_of_lt (hlt _ _ (S.gg _ _ e)))) trivial ?_
  · have hn := (S'.cc _ (List.mem_cons_self ..)).2.2.1
    have hle := Mem.le_put (o := lst vs n) hn
    have SF := S'.freezeN (Nat.le_trans S.size hold)
    exact ⟨rfl, h Sa vs oL' _ s' (hl.trans hle) SF ⟨_, Mem.put_self .., lst_is _ _⟩ (hv.mono fun _ _ x => x.mono hle) hG' hfin⟩
  · show s₁.gens[gi]? = _
    rw [hgens₁]; exact hgs
  · refine hready _ s'' (Sa + 1) hr.in1.in1.in1 hk.2.1 (hk.1 Lg oL (.inl rfl) (S₄.cell (by simp))) ?_ (Nat.lt_succ_of_lt (hlt _ _ (S.cc _ (List.mem_cons_self ..)).1)) fun b o e => Nat.lt_succ_of_lt (hlt _ _ (S.gg _ _ (hC _ _ e)))
    exact Nat.le_trans (Nat.succ_le_of_lt (Heap.lt_size S₄.cell0)) hk.2.2
  · show GenOnly gi s.gens s₁.gens
    rw [hgens₁]; exact ⟨rfl, fun _ _ => rfl⟩
end
end

-- PART F23 --
section
open PySem PySem.W PySem.Calls PyProof.Rows
def valOf (told : T) (p : Nat) : Rule → T
  | .step c _ _ => [c]
  | .text => (told.drop p).take 1
  | .fall _ => []
def tokOf (loud : Bool) : Rule → Option (List T)
  | .step _ _ nm => some nm
  | .text => some [tText]
  | .fall _ => if loud then some [tEsc] else none
def moveOf : Rule → Option T
  | .step _ x _ => some x
  | .text => none
  | .fall l => some l
def tellOf (told : T) (p : Nat) (loud : Bool) (r : Rule) : List Row := match tokOf loud r with | some nm => [⟨p, nm, valOf told p r⟩] | none => []
theorem hit_len {told : T} {p : Nat} {r : Rule} (h : hits told p r = true) (hp : p ≤ told.length) : p + (valOf told p r).length ≤ told.length := by
  have key : ∀ c, told[p]? = some c → p + 1 ≤ told.length := fun c e => by
    rcases Nat.lt_or_ge p told.length with q | q
    · exact q
    · rw [List.getElem?_eq_none q] at e; cases e
  cases r with
  | step c x nm => exact key c (by simpa [hits] using h)
  | text =>
    have : (valOf told p .text).length ≤ 1 := by show ((told.drop p).take 1).length ≤ 1; rw [List.length_take]; omega
    have : ∃ c, told[p]? = some c := by
      simp only [hits, Bool.or_eq_true, beq_iff_eq] at h
      rcases h with (h | h) | h <;> exact ⟨_, h⟩
    obtain ⟨c, hc⟩ := this
    have := key c hc
    omega
  | fall l => exact hp
theorem turn_hit {ks : List (T × List T)} {loud wide : Bool} {told q : T} {p : Nat} {r : Rule} (h : (rulesOf ks q).find? (hits told p) = some r) : turn ks loud wide told q p = some (tellOf told p loud r, (moveOf r).getD q, p + (valOf told p r).length) := by
  have hh := List.find?_some h
  unfold turn
  rw [h]
  cases r with
  | step c x nm => rfl
  | text =>
    have : ((told.drop p).take 1).length = 1 := by
      have : ∃ c, told[p]? = some c := by
        simp only [hits, Bool.or_eq_true, beq_iff_eq] at hh
        rcases hh with (h | h) | h <;> exact ⟨_, h⟩
      obtain ⟨c, hc⟩ := this
      rw [List.take_one, List.head?_drop, hc]; rfl
    show some (_, _, _) = some (_, _, p + ((told.drop p).take 1).length)
    rw [this]; rfl
  | fall l => cases loud <;> rfl
def MoveIs (g : Mem) (nv : Value) : Option T → Prop
  | none => nv = .none
  | some x => IsNS g nv x
theorem prow_parts {g : Mem} {loud : Bool} {v : Value} {r : Rule} (h : IsPRow g loud v r) (hB : IsTok g (.ref 93) [tText]) (hE : IsTok g (.ref 101) [tEsc]) (hx : ∀ c x nm, r = .step c x nm → x ≠ []) : ∃ a fv av nv, v = .ref a ∧ TupAt g a [fv, av, nv] ∧ MoveIs g nv (moveOf r) ∧
    ((∃ rws nm, IsBM g fv rws ∧ (∀ told p, fits rws told p = if hits told p r then some [valOf told p r] else none) ∧ (∀ ps ∈ rws, ps.length ≤ 10 ∧ (ps.map List.length).sum ≤ 1000) ∧ rws.length ≤ 10 ∧ IsTok g av nm ∧ tokOf loud r = some nm) ∨
     (fv = .ref 502 ∧ av = .none ∧ tokOf loud r = none ∧ (∀ told p, hits told p r = true) ∧ ∀ told p, valOf told p r = [])) := by
  have f1 : ∀ (told : T) (p c : Nat), ((told.drop p).take 1 = [c]) ↔ told[p]? = some c := fun told p c => by
    rw [List.take_one, List.head?_drop]
    cases told[p]? <;> simp
  cases r with
  | step c x nm =>
    obtain ⟨a, bv, tv, mv, rfl, h2, h3, h4, h5⟩ : ∃ a bv tv mv, v = .ref a ∧ TupAt g a [bv, tv, mv] ∧ IsBM g bv [[[c]]] ∧ IsTok g tv nm ∧ IsTs g mv [tPop, 113 :: x] := by cases loud <;> exact h
    refine ⟨a, bv, tv, mv, rfl, h2, ?_, .inl ⟨_, nm, h3, fun told p => ?_, by simp, by simp, h4, rfl⟩⟩
    · show IsNS g mv x
      unfold IsNS
      rw [if_neg (hx c x nm rfl)]; exact h5
    · unfold fits
      simp only [List.find?_cons, List.find?_nil, List.flatten_cons, List.flatten_nil, List.append_nil, List.length_cons, List.length_nil, Nat.zero_add, hits, valOf]
      by_cases q : told[p]? = some c
      · simp [(f1 told p c).mpr q, q]
      · have hne : ¬ (told.drop p).take 1 = [c] := fun e => q ((f1 told p c).mp e)
        simp [hne, q]
  | text =>
    obtain ⟨a, bv, rfl, h2, h3⟩ : ∃ a bv, v = .ref a ∧ TupAt g a [bv, .ref 93, .none] ∧ IsBM g bv [[[97]], [[98]], [[99]]] := by cases loud <;> exact h
    refine ⟨a, bv, .ref 93, .none, rfl, h2, rfl, .inl ⟨_, _, h3, fun told p => ?_, by simp, by simp, hB, rfl⟩⟩
    unfold fits
    simp only [List.find?_cons, List.find?_nil, List.flatten_cons, List.flatten_nil, List.append_nil, List.length_cons, List.length_nil, Nat.zero_add]
    have key : ∀ d, (told[p]? = some d) → decide ((told.drop p).take 1 = [97]) = decide (d = 97) ∧ decide ((told.drop p).take 1 = [98]) = decide (d = 98) ∧ decide ((told.drop p).take 1 = [99]) = decide (d = 99) := fun d e => by
      have hd : (told.drop p).take 1 = [d] := (f1 told p d).mpr e
      simp [hd]
    rcases Option.eq_none_or_eq_some (told[p]?) with e | ⟨d, e⟩
    · have : ∀ c, decide ((told.drop p).take 1 = [c]) = false := fun c => decide_eq_false fun q => by rw [(f1 told p c).mp q] at e; cases e
      have hb : hits told p .text = false := by unfold hits; rw [e]; rfl
      rw [this, this, this, hb]; rfl
    · have hd : (told.drop p).take 1 = [d] := (f1 told p d).mpr e
      obtain ⟨k1, k2, k3⟩ := key d e
      have hb : hits told p .text = (d == 97 || d == 98 || d == 99) := by unfold hits; rw [e]; rfl
      have hv : valOf told p .text = [d] := hd
      rw [k1, k2, k3, hb, hv]
      by_cases q1 : d = 97
      · subst q1; rfl
      · by_cases q2 : d = 98
        · subst q2; rfl
        · by_cases q3 : d = 99
          · subst q3; rfl
          · simp [q1, q2, q3]
  | fall l =>
    cases loud with
    | true =>
      obtain ⟨a, bv, nv, rfl, h2, h3, h4⟩ := h
      refine ⟨a, bv, .ref 101, nv, rfl, h2, h4, .inl ⟨_, _, h3, fun told p => ?_, by simp, by simp, hE, rfl⟩⟩
      unfold fits
      simp [hits, valOf]
    | false =>
      obtain ⟨a, nv, rfl, h2, h4⟩ := h
      exact ⟨a, .ref 502, .none, nv, rfl, h2, h4, .inr ⟨rfl, rfl, rfl, fun _ _ => rfl, fun _ _ => rfl⟩⟩
structure GX (t₁ Lg : Addr) (gC : Mem) (s₀ : Shared) (g₀ : Mem) (X : List Addr) : Prop where
  size : t₁ ≤ s₀.heap.objs.size
  own : ∀ b ∈ X, b = Lg ∨ (t₁ ≤ b ∧ ∀ o, s₀.heap.get? b = some o → o.cls ≠ .type "tuple")
  low : ∀ b o, g₀ b = some o → b < t₁ → gC b = some o
section
variable {prog : Program} {w : World} {A : Around} {E : Value → Shared → Prop} {s₀ s : Shared} {g₀ g gC : Mem} {X : List Addr} {Lg t₁ : Addr} {m : Str → Option Value} {c : List (Addr × Obj)} {rows : List Row} {n : Nat}
theorem GX.keep (H : GX t₁ Lg gC s₀ g₀ X) (S : St w s₀ g₀ X Lg m c g s) : GKeep t₁ Lg s₀ s := by
  refine ⟨fun b o hb hk e => S.keep b o (fun hx => ?_) e, S.size, S.os, let ⟨o, _, _, h, _⟩ := S.ns; ⟨o, h⟩⟩
  rcases H.own b hx with q | ⟨q1, q2⟩
  · exact hb q
  · rcases hk with hk | hk
    · exact absurd hk (Nat.not_lt.mpr q1)
    · exact q2 o e hk
theorem g_yield {v : Value} {r : Row} {P : Shared → Prop} {kap : Resume → Shared → Prop} (H : GX t₁ Lg gC s₀ g₀ X) (S : St w s₀ g₀ X Lg m c g s) (hc : ∀ p ∈ c, p.2.cls ≠ .type "tuple") (hidx : rows[rows.length - 1 - n]? = some r) (hrow : RowAt gC t₁ s v r)
    (next : ∀ s'', St w s'' g (Lg :: c.map (·.1)) Lg m c g s'' → GX t₁ Lg gC s'' g (Lg :: c.map (·.1)) → P s'') (hk : ∀ s'', P s'' → kap (.send .none) s'') : GY t₁ Lg gC rows n s₀ v s kap := by
  refine ⟨⟨H.keep S, S.gens⟩, ⟨r, hidx, hrow⟩, fun s'' hck => hk s'' ?_⟩
  have hlow : ∀ b o, g b = some o → b < t₁ → gC b = some o := fun b o e hlt => by
    have hlt' : b < s₀.heap.objs.size := Nat.lt_of_lt_of_le hlt H.size
    rw [S.low b hlt'] at e
    exact H.low b o e hlt
  have hown : ∀ p ∈ c, t₁ ≤ p.1 := fun p hp => by
    have z := S.cc p hp
    rcases z.2.2.2 with q | q
    · exact Nat.le_trans H.size q
    · rcases H.own _ q with q | q
      · exact absurd q z.2.1
      · exact q.1
  have hkc : ∀ p ∈ c, s''.heap.get? p.1 = some p.2 := fun p hp => hck.1 _ _ (.inr (hown p hp)) (S.cc p hp).1
  refine next s'' ⟨S.baseG, ?_, fun _ _ _ e => e, .inr (List.mem_cons_self ..), fun b o e => ?_, fun _ _ e => e, fun _ _ => rfl, S.gL, fun p hp => ?_, S.nd, rfl, rfl, Nat.le_refl _⟩ ⟨?_, fun b hb => ?_, hlow⟩
  · obtain ⟨o, es, ep, h1, r⟩ := S.ns
    exact ⟨o, es, ep, hck.1 _ _ (.inl rfl) h1, r⟩
  · rcases Nat.lt_or_ge b t₁ with q | q
    · exact hck.2.1 _ _ (hlow b o e q)
    · exact hck.1 _ _ (.inr q) (S.gg _ _ e)
  · exact ⟨hkc p hp, (S.cc p hp).2.1, (S.cc p hp).2.2.1, .inr (List.mem_cons_of_mem _ (List.mem_map_of_mem hp))⟩
  · exact Nat.le_trans H.size (Nat.le_trans S.size hck.2.2)
  · rcases List.mem_cons.mp hb with rfl | hb
    · exact .inl rfl
    · obtain ⟨p, hp, rfl⟩ := List.mem_map.mp hb
      refine .inr ⟨hown p hp, fun o e => ?_⟩
      rw [hkc p hp] at e; cases e; exact hc p hp
theorem newRow {v1 v2 v3 : Value} {r : Row} {t : Tok} {M : Model} {L : Addr} {Q : Value → Shared → Prop} (S : St w s₀ g₀ X L m c g s) (ht : t₁ ≤ s₀.heap.objs.size) (h1 : v1 = .int (r.p : Int) t) (h2 : IsTok gC v2 r.names) (h3 : IsT v3 r.val)
    (h : ∀ v g' s', Le g g' → St w s₀ g₀ X L m c g' s' → RowAt gC t₁ s' v r → Q v s') : wpAny M A (newTuple [v1, v2, v3]) Q E s := by
  have S' := S.pushF (tup [v1, v2, v3]) s.toks
  have hn := S.none_at (get_size s.heap)
  exact wpAny_newObj_type (h _ _ _ (Mem.le_put hn) S' ⟨s.heap.objs.size, _, v1, v2, v3, t, rfl, Nat.le_trans ht S.size, S'.gg _ _ (Mem.put_self ..), tup_is _, h1, h2, h3⟩) (by size_fits)
end
end

-- PART F24 --
section
open PySem PySem.W PySem.Calls PyProof.Rows
section
variable {prog : Program} {w : World} {A : Around} {E : Value → Shared → Prop} {s₀ s : Shared} {g₀ g gC : Mem} {X : List Addr} {L Lg t₁ : Addr} {m : Str → Option Value} {c : List (Addr × Obj)} {rows : List Row} {n : Nat}
theorem next_it {it : Addr} {o : Obj} {N i : Nat} {O : Nat → Obj → Prop} {V : Nat → Value → Prop} {Fz : Mem} {Q : Option Value → Shared → Prop} (S : St w s₀ g₀ X L m ((it, o) :: c) g s) (I : Iter prog w A it N Fz O V) (hO : O i o) (hFz : Le Fz g) (hi : i ≤ N)
    (item : i < N → ∀ v o' s', V i v → O (i + 1) o' → St w s₀ g₀ X L m ((it, o') :: c) g s' → Q (some v) s') (done : i = N → ∀ s', St w s₀ g₀ X L m c g s' → Q none s') : wpAny (model prog w) A (pyNext (.ref it)) Q E s := by
  by_cases hlt : i < N
  · exact withSize (I.item hlt (hFz.trans S.gg) S.cell0 hO fun v h' tk o'' hv ho'' hO'' hs hz => item hlt v o'' _ hv hO'' (S.upd0 hs ho'' hz))
  · have hin : i = N := by omega
    subst hin
    exact withSize (I.done (hFz.trans S.gg) S.cell0 hO fun h' hs hz => done rfl _ (S.lose hs hz))
end
section
variable {M : Model} {A : Around} {R : GenEnd} {Y : Protocol} {c : Code} {fs : List Frame} {QF : Flow → Nat → Shared → Shared → Prop} {rows : List Row} {ks : List (T × List T)} {loud wide : Bool} {told : T}
def Nx (ks : List (T × List T)) (loud wide : Bool) (told : T) (rows : List Row) (P : T → Nat → Shared → Shared → Prop) (K : Nat → Shared → Shared → Prop) (q : T) (p n : Nat) : Prop :=
  (turn ks loud wide told q p = none ∧ n = 0) ∨ (∃ r q' p' rs, turn ks loud wide told q p = some (r, q', p') ∧ (r ++ rs) <:+ rows ∧ n = (r ++ rs).length ∧ ∀ s₀' s', P q' p' s₀' s' → K rs.length s₀' s')
theorem lex_loop (P : T → Nat → Shared → Shared → Prop)
    (h : ∀ q p n s₀ s, P q p s₀ s → Nx ks loud wide told rows P (fun n s₀ s => LP M A R Y c fs QF n s₀ s) q p n → LP M A R Y c fs QF n s₀ s) :
    ∀ {q p rs}, Lex ks loud wide told q p rs → rs <:+ rows → ∀ {s₀ s}, P q p s₀ s → LP M A R Y c fs QF rs.length s₀ s := by
  intro q p rs hl
  induction hl with
  | done ht => intro _ s₀ s hP; exact h _ _ _ _ _ hP (.inl ⟨ht, rfl⟩)
  | step ht _ ih => intro hs s₀ s hP; exact h _ _ _ _ _ hP (.inr ⟨_, _, _, _, ht, hs, rfl, fun s₀' s' hP' => ih ((List.suffix_append _ _).trans hs) hP'⟩)
theorem idx_loop {N n : Nat} {s₀ : Shared} (F : Nat → Shared → Prop) (h : ∀ i s, i ≤ N → F i s → (i < N → ∀ s', F (i + 1) s' → LP M A R Y c fs QF n s₀ s') → LP M A R Y c fs QF n s₀ s) {s : Shared} (h0 : F 0 s) : LP M A R Y c fs QF n s₀ s := by
  have key : ∀ k i s, N - i = k → i ≤ N → F i s → LP M A R Y c fs QF n s₀ s := by
    intro k
    induction k with
    | zero => intro i s hk hi hF; exact h i s hi hF fun hlt => absurd hlt (by omega)
    | succ k ih => intro i s hk hi hF; exact h i s hi hF fun hlt s' hF' => ih (i + 1) s' (by omega) hlt hF'
  exact key N 0 s rfl (Nat.zero_le _) h0
theorem row_idx {r : Row} {rs rows : List Row} (h : (r :: rs) <:+ rows) : rows[rows.length - 1 - rs.length]? = some r := by
  obtain ⟨a, rfl⟩ := h
  rw [List.length_append, List.length_cons, show a.length + (rs.length + 1) - 1 - rs.length = a.length by omega, List.getElem?_append_right (Nat.le_refl _), Nat.sub_self]
  rfl
end
theorem SS.mono {M : Model} {A : Around} {R : GenEnd} {Y : Protocol} {c : Code} {fs : List Frame} {env : Env} {ss : List Stmt} {QF QF' : Flow → Nat → Shared → Shared → Prop} {n : Nat} {s₀ s : Shared} (h : SS M A R Y c fs env ss QF n s₀ s) (k : ∀ f n s₀ s, QF f n s₀ s → QF' f n s₀ s) : SS M A R Y c fs env ss QF' n s₀ s :=
  fun K H gd lv hg hK => h K H gd lv hg fun f n s₀ s q => hK f n s₀ s (k f n s₀ s q)
theorem ss_if1_mid {M : Model} {A : Around} {R : GenEnd} {Y : Protocol} {c : Code} {fs : List Frame} {env : Env} {QF : Flow → Nat → Shared → Shared → Prop} {n : Nat} {s₀ s : Shared} {test : Expr} {body rest : List Stmt} {pos : Pos} (P : Nat → Shared → Shared → Prop)
    (h1 : wpAny M (A.over c fs) (isTrue test env (eval test env)) (fun b s' => if b = true then SS M A R Y c fs env body (fun f n' s₀' s' => f = .next ∧ P n' s₀' s') n s₀ s' else P n s₀ s') (fun _ _ => False) s)
    (h2 : ∀ n' s₀' s', P n' s₀' s' → SS M A R Y c fs env rest QF n' s₀' s') : SS M A R Y c fs env (.If test body [] pos :: rest) QF n s₀ s :=
  ss_if1 (wpAny_mono h1 (fun b s' x => by
    cases b with
    | true =>
      refine SS.mono x fun f n' s₀' s'' q => ?_
      obtain ⟨rfl, q⟩ := q
      exact h2 n' s₀' s'' q
    | false => exact h2 n s₀ s' x) fun _ _ x => x)
theorem ss_if_mid {M : Model} {A : Around} {R : GenEnd} {Y : Protocol} {c : Code} {fs : List Frame} {env : Env} {QF : Flow → Nat → Shared → Shared → Prop} {n : Nat} {s₀ s : Shared} {test : Expr} {body orelse rest : List Stmt} {pos : Pos}
    (h1 : wpAny M (A.over c fs) (isTrue test env (eval test env)) (fun b s' => b = true ∧ SS M A R Y c fs env body (behind M A R Y c fs env rest QF) n s₀ s') (fun _ _ => False) s) : SS M A R Y c fs env (.If test body orelse pos :: rest) QF n s₀ s :=
  ss_if (wpAny_mono h1 (fun b s' x => by obtain ⟨rfl, x⟩ := x; exact x) fun _ _ x => x)
structure PostG (s : Shared) (g : Mem) (s' : Shared) (g' : Mem) : Prop where
  keep : ∀ b o, s.heap.get? b = some o → s'.heap.get? b = some o
  size : s.heap.objs.size ≤ s'.heap.objs.size
  gg : Le g' s'.heap.get?
  grow : Le g g'
  low : ∀ b, b < s.heap.objs.size → g' b = g b
  os : s'.os = s.os
section
variable {prog : Program} {w : World} {A : Around} {s : Shared} {g : Mem}
theorem gen_call {R : Result → Shared → Prop} {name qual : Str} {params : Arguments} {body : List Stmt} {scope : Scope} {dV kV doc pm cdv ct oc : Value} {an od : Option Addr} {osl : Array (Option Value)} {f : Addr} {args : Args} (binds : List (Str × Value))
    (B : Base w g) (hg : Le g s.heap.get?)
    (ho : (KK w).lookup f = some ⟨oc, od, .func (fnOf name qual params body scope dV kV doc pm an cdv ct), osl⟩) (hcd : codeIn (KK w) cdv qual = true) (hroom : A.depth < recursionLimit)
    (hbind : BindsTo s (fnOf name qual params body scope dV kV doc pm an cdv ct) args binds) (hloc : (binds.all fun x => decide (scope.names.lookup x.1 = some .local)) = true)
    (hcell : ∀ x ∈ scope.names, x.2 ≠ .cell)
    (h : ∀ Lg ga oL s' g' nm qn, PostG s g s' g' → s.heap.objs.size ≤ Lg → s.heap.objs.size ≤ ga → g' Lg = none → s'.heap.get? Lg = some oL → (∀ h' : Heap, h'.get? Lg = some oL → h'.Ns Lg (lk binds)) → g' ga = some (genO s.gens.size nm qn) →
      s'.gens = s.gens.push (.fresh (.func body (envOf qual scope Lg f cdv))) → R (.ok (.ret (.ref ga))) s')
    (hco : scope.isCoroutine = false := by rfl) (hgen : scope.isGenerator = true := by rfl) (hk : scope.kind = .function := by rfl) :
    codeAny (model prog w) A (.call (.ref f) args) R s := by
  have BH : Base w s.heap.get? := B.mono hg
  refine codeAny_call_generator (fd := fnOf name qual params body scope dV kV doc pm an cdv ct) (body := body) hroom (BH.K _ _ ho) rfl hco hgen rfl (codeRec_of BH.K hcd) (hbind _ _ _ _ ?_)
  refine wpAny_newFunctionEnv hcell (locs hloc) (fun h₁ hns hsb => ⟨BH.nolimit.fresh _ hsb, ?_⟩) hk
  have hk₁ : ∀ b o, s.heap.get? b = some o → h₁.get? b = some o := fun b o e => hsb.extBut b o (Nat.ne_of_lt (Heap.lt_size e)) (Heap.get?_push_of_some _ e)
  obtain ⟨oL, es, ep, h1, h2, h3, h4⟩ := id hns
  have hz : s.heap.objs.size + 1 = h₁.objs.size := by rw [hsb.1, Heap.size_push]
  have hlt : s.heap.objs.size < h₁.objs.size := hz ▸ Nat.lt_succ_self _
  have hgn : ∀ b, s.heap.objs.size ≤ b → g b = none := fun b hb => by
    cases q : g b with
    | none => rfl
    | some o => exact absurd (Heap.lt_size (hg _ _ q)) (Nat.not_lt.mpr hb)
  have hga : g h₁.objs.size = none := hgn _ (by omega)
  refine h s.heap.objs.size h₁.objs.size oL _ (g.put h₁.objs.size (genO s.gens.size (.str (fnOf name qual params body scope dV kV doc pm an cdv ct).name (s.toks + binds.length)) (.str (fnOf name qual params body scope dV kV doc pm an cdv ct).qualname (s.toks + binds.length + 1)))) _ _ ⟨fun b o e => Heap.get?_push_of_some _ (hk₁ b o e), ?_, fun b o e => ?_, Mem.le_put hga, fun b hb => Mem.put_ne _ _ (Nat.ne_of_lt (Nat.lt_trans hb hlt)), rfl⟩ (Nat.le_refl _) (by omega) ?_ (Heap.get?_push_of_some _ h1) (fun h' e => ⟨oL, es, ep, e, h2, h3, h4⟩) (Mem.put_self ..) rfl
  · show _ ≤ (h₁.push _).objs.size
    rw [Heap.size_push]; omega
  · by_cases q : b = h₁.objs.size
    · subst q; rw [Mem.put_self] at e; cases e; exact Heap.get?_push_size _ rfl
    · rw [Mem.put_ne _ _ q] at e; exact Heap.get?_push_of_some _ (hk₁ _ _ (hg _ _ e))
  · rw [Mem.put_ne _ _ (Nat.ne_of_lt hlt)]; exact hgn _ (Nat.le_refl _)
end
end

-- PART F25 --
section
open PySem PySem.W PySem.Calls PyProof.Rows
theorem fine_func {A : Around} {body : List Stmt} {env : Env} {k : Nat} (r : Room A (k + 1)) : Fine A (.func body env) [] k := by
  refine ⟨rfl, rfl, r.hd, ?_, ?_⟩
  · have := r.dp
    show A.depth + frameCount [] + 1 + k < _
    have e : frameCount [] = 0 := rfl
    omega
  · have := r.un
    show A.units + unitsOf [] + (Code.func body env).cUnits + 4 * k + 4 < _
    have e : unitsOf [] = 0 := rfl
    have e2 : (Code.func body env).cUnits = 3 := rfl
    omega
theorem Fine.same {A : Around} {c c' : Code} {fs : List Frame} {k : Nat} (h : Fine A c fs k) (h1 : c'.weight = c.weight) (h2 : c'.cUnits = c.cUnits) : Fine A c' fs k := by
  refine ⟨h.1, h.2.1, h.2.2.hd, ?_, ?_⟩
  · have := h.2.2.dp
    show A.depth + frameCount (fs.map Frame.where_) + c'.weight + k < _
    rw [h1]; exact this
  · have := h.2.2.un
    show A.units + unitsOf (fs.map Frame.where_) + c'.cUnits + 4 * k + 4 < _
    rw [h2]; exact this
def stackOf (q : T) : List T := tRoot :: if q = [] then [] else [113 :: q]
section
variable {prog : Program} {w : World} {A : Around} {s : Shared} {g : Mem}
theorem rootTup (w : World) : ∃ t, TupAt (KG w) 587 [.str (S tRoot) t] := by
  rw [← str_root]
  exact ⟨_, _, rfl, rfl, 0, rfl⟩
theorem proc_get {gC : Mem} {loud : Bool} {odp : Obj} {ks : List (T × List T)} (K : IsProc prog w gC loud odp (tableOf ks ks.length)) (ho : KsOk ks) {q : T} (hq : hasT ks q = true) :
    ∃ kvs, DictObj prog w odp kvs ∧ ∃ la us, valueAt kvs (S (stName q)) = some (.ref la) ∧ LstAt gC la us ∧ All2 (IsPRow gC loud) us (rulesOf ks q) := by
  obtain ⟨kvs, D, hkv⟩ := K
  obtain ⟨v, h1, la, us, rfl, h2, h3⟩ := tab_get hkv (table_nd ho) (state_in ho hq)
  exact ⟨kvs, D, la, us, h1, h2, h3⟩
theorem find_at {α : Type} {f : α → Bool} {l : List α} {i : Nat} {r : α} (h : l[i]? = some r) (hr : f r = true) (hno : ∀ j r', j < i → l[j]? = some r' → f r' = false) : l.find? f = some r := by
  have hlt : i < l.length := by
    rcases Nat.lt_or_ge i l.length with q | q
    · exact q
    · rw [List.getElem?_eq_none q] at h; cases h
  rw [List.find?_eq_some_iff_getElem]
  refine ⟨hr, i, hlt, ?_, fun j hj => ?_⟩
  · rw [List.getElem?_eq_getElem hlt] at h; exact Option.some.inj h
  · have := hno j l[j] hj (List.getElem?_eq_getElem (by omega)); simp [this]
theorem rule_move {ks : List (T × List T)} (H : Trie ks) {q : T} {r : Rule} (hr : r ∈ rulesOf ks q) : (∀ x, moveOf r = some x → hasT ks x = true) ∧ (moveOf r = some [] → q ≠ []) := by
  unfold rulesOf at hr
  rcases List.mem_append.mp hr with h | h
  · obtain ⟨c, nm, _, hn, rfl⟩ := mem_steps h
    refine ⟨fun x e => ?_, fun e => ?_⟩
    · cases e; exact Option.isSome_iff_exists.mpr ⟨_, hn⟩
    · have := Option.some.inj e; simp at this
  · have e := List.mem_singleton.mp h
    by_cases hq : q = []
    · rw [if_pos hq] at e; subst e; exact ⟨fun x e => (nomatch e), fun e => (nomatch e)⟩
    · rw [if_neg hq] at e; subst e
      exact ⟨fun x e => by cases e; exact H.longest_mem _, fun _ => hq⟩
theorem all2_two {α β : Type} {P : α → β → Prop} {vs : List α} {a b : β} (h : All2 P vs [a, b]) : ∃ v1 v2, vs = [v1, v2] ∧ P v1 a ∧ P v2 b := by
  match vs, h with
  | [v1, v2], h => exact ⟨v1, v2, rfl, h.1, h.2.1⟩
theorem all2_one {α β : Type} {P : α → β → Prop} {vs : List α} {a : β} (h : All2 P vs [a]) : ∃ v1, vs = [v1] ∧ P v1 a := by
  match vs, h with
  | [v1], h => exact ⟨v1, rfl, h.1⟩
theorem turn_miss {ks : List (T × List T)} {loud wide : Bool} {told q : T} {p : Nat} (h : (rulesOf ks q).find? (hits told p) = none) : turn ks loud wide told q p = match told[p]? with
    | none => none
    | some c => if c = 10 then some ([⟨p, nlOf wide, [10]⟩], [], p + 1) else some ([⟨p, [tError], [c]⟩], q, p + 1) := by
  unfold turn; rw [h]; rfl
theorem str_nl : Str.ofString "\n" = S [10] := by decide +kernel
def GW (prog : Program) (w : World) (t₁ Lg : Addr) (gC : Mem) (ks : List (T × List T)) (loud : Bool) (told : T) (t : Tok) (pd : Addr) (q : T) (p : Nat) (s₀ s : Shared) : Prop :=
  ∃ g₀ X m c g sl la n vs us tp, St w s₀ g₀ X Lg m c g s ∧ GX t₁ Lg gC s₀ g₀ X ∧ Le gC g ∧ c = [(sl, lst vs n)] ∧ All2 IsT vs (stackOf q) ∧ LstAt gC la us ∧ All2 (IsPRow gC loud) us (rulesOf ks q) ∧ hasT ks q = true ∧ p ≤ told.length ∧
    m "text" = some (.str (S told) t) ∧ m "tokendefs" = some (.ref pd) ∧ m "pos" = some (.int (p : Int) tp) ∧ m "statestack" = some (.ref sl) ∧ m "statetokens" = some (.ref la)
theorem gen595_spec (hr : Room A 1) (B : Base w g) (hg : Le g s.heap.get?) {C pr x : Addr} (LC : LexCls w C pr) {loud : Bool} {ks : List (T × List T)} {told : T} {t : Tok} {rows : List Row} (K : IsLexer prog w g C x loud (tableOf ks ks.length)) (H : Trie ks) (ho : KsOk ks) (ht : told.length ≤ 24) (hlex : Lex ks loud false told [] 0 rows)
    {R : Result → Shared → Prop} (h : ∀ Lg ga oL s' g' nm qn code, PostG s g s' g' → s.heap.objs.size ≤ Lg → s.heap.objs.size ≤ ga → g' Lg = none → s'.heap.get? Lg = some oL → g' ga = some (genO s.gens.size nm qn) → s'.gens = s.gens.push (.fresh code) → GenReady prog w 6 Lg oL code g' rows → R (.ok (.ret (.ref ga))) s') :
    codeAny (model prog w) A (.call (.ref 595) ⟨[.ref x, .str (S told) t], []⟩) R s := by
  refine gen_call (f := 595) [("self", .ref x), ("text", .str (S told) t), ("stack", .ref 587)] B hg rfl (by kernel_rfl) hr.lt (binds_K (B.mono hg).K rfl rfl rfl rfl rfl) rfl (by decide) fun Lg ga oL s' gC nm qn hP hLg hga hgL hoL hns hgen hgens => h Lg ga oL s' gC nm qn _ hP hLg hga hgL hoL hgen hgens fun A₁ s₁ t₁ hr₁ hC ho₁ ht₁ hLt hgt => ?_
  obtain ⟨dx, od, k, mm, pd, odp, I, N, hmp, hmn, hpd, Kp, hpm⟩ := id K
  have BC : Base w gC := B.mono hP.grow
  have S₁ : St w s₁ gC [Lg] Lg (lk [("self", .ref x), ("text", .str (S told) t), ("stack", .ref 587)]) [] gC s₁ := ⟨BC, hns _ ho₁, fun _ _ _ e => e, .inr (List.mem_cons_self ..), hC, fun _ _ e => e, fun _ _ => rfl, hgL, (fun _ h => nomatch h), .nil, rfl, rfl, Nat.le_refl _⟩
  have X₁ : GX t₁ Lg gC s₁ gC [Lg] := ⟨ht₁, fun b hb => .inl (List.mem_singleton.mp hb), fun _ _ e _ => e⟩
  refine ss_func ?_
  have hF : ∀ b e, Fine A₁ (.func b e) [] 5 := fun b e => fine_func hr₁
  have hh := hr₁.hd
  refine ss_plain ?_
  walk_at "gg"
  refine ss_plain ?_
  walk_at "gg"
  have I' := I.mono hP.grow
  have hgk := hP.grow
  refine get_field (v := .ref pd) (by assumption) (I'.mono (St.gg (by assumption))) LC.ga LC.hd (LC.own_get (by simp)).2 ((N.look "_tokens").trans (congrArg some hmp)) rfl ?_; intro s₂ S₂
  walk_at "gg"
  refine ss_plain ?_
  walk_at "gg"
  obtain ⟨tk₀, hroot⟩ := rootTup w
  have hroot := hroot.mono BC.kg
  refine list_copyC (by assumption) (.inr (hroot.mono (St.gg (by assumption)))) (by simp) ?_; intro sl n₃ s₃ hsl S₃
  walk_at "gg"
  refine ss_plain ?_
  walk_at "gg"
  refine item_last (by assumption) ⟨_, St.cell0 (by assumption), lst_is _ _⟩ rfl ?_
  have Kp' : IsProc prog w gC loud odp (tableOf ks ks.length) := by
    obtain ⟨kvs, h1, h2⟩ := Kp
    exact ⟨kvs, h1, h2.mono fun _ _ x => ⟨x.1, x.2.mono hgk⟩⟩
  have hpd' := hgk _ _ hpd
  obtain ⟨kvs, D, la, us, hv₁, hla, hus⟩ := proc_get Kp' ho (q := []) H.nil
  refine d_get (by assumption) (St.gg (by assumption) _ _ hpd') D hv₁ ?_; intro s₄ S₄
  walk_at "gg"
  rename_i s₅ S₅
  refine ss_while (hF _ _) fun fs' hF' => ?_
  refine lex_loop (ks := ks) (loud := loud) (wide := false) (told := told) (rows := rows) (GW prog w t₁ Lg gC ks loud told t pd) ?_ hlex (List.suffix_refl _)
    ⟨gC, _, _, _, gC, sl, la, n₃, _, us, _, S₅, X₁, Le.refl _, rfl, ⟨⟨_, rfl⟩, trivial⟩, hla, hus, H.nil, Nat.zero_le _, by walk_at "lk", by walk_at "lk", by walk_at "lk", by walk_at "lk", by walk_at "lk"⟩
  rintro q p n s₀ s₆ ⟨g₀, X, m, c, g₆, sl, la, nl, vs, us, tp, S₆, X₆, hl₆, rfl, hvs, hla, hus, hq, hp, hm1, hm2, hm3, hm4, hm5⟩ hnx
  refine lp_while ?_
  walk_at "gg"
  refine truthyI ⟨rfl, ?_⟩
  refine ss_for hF' ?_
  walk_at "gg"
  refine it_lst (by assumption) (hla.mono hl₆) ?_; intro it oi s₇ S₇ hoi
  intro fs₂ hF₂
  have hul := hus.length
  have hkw := kText w
  have hIt : ∀ {A' : Around}, A'.handled = none → Iter prog w A' it us.length gC (fun i o => o.cls = .type "list_iterator" ∧ o.data = .fields #[.ref la, .int i 0]) (fun i v => us[i]? = some v) := fun hA => iter_lst hA hla
  refine idx_loop (N := us.length) (fun i s => ∃ g' m' oi, St w s₀ g₀ X Lg m' [(it, oi), (sl, lst vs nl)] g' s ∧ (oi.cls = .type "list_iterator" ∧ oi.data = .fields #[.ref la, .int (i : Int) 0]) ∧ Le gC g' ∧ (∀ j r, j < i → (rulesOf ks q)[j]? = some r → hits told p r = false) ∧
    m' "text" = some (.str (S told) t) ∧ m' "tokendefs" = some (.ref pd) ∧ m' "pos" = some (.int (p : Int) tp) ∧ m' "statestack" = some (.ref sl) ∧ m' "statetokens" = some (.ref la)) ?_
    ⟨g₆, m, oi, S₇, hoi, hl₆, fun j r hj => absurd hj (Nat.not_lt_zero j), hm1, hm2, hm3, hm4, hm5⟩
  clear S₇ S₆ hoi hl₆ hm1 hm2 hm3 hm4 hm5
  rintro i s₈ hi ⟨g₈, m₈, oi₈, S₈, hoi₈, hl₈, hno, hm1, hm2, hm3, hm4, hm5⟩ hmiss
  refine lp_for (next_it S₈ (hIt hF₂.2.2.hd) hoi₈ hl₈ hi (fun hlt v oi₉ s₉ hv hoi₉ S₉ => ?_) fun hend s₉ S₉ => ?_)
  · obtain ⟨r, hri, hrow⟩ := All2.get hus hv
    obtain ⟨a, fv, av, nv, rfl, htup, hmv, hcase⟩ := prow_parts hrow ((kText w).mono BC.kg) ((kEsc w).mono BC.kg) (fun c x nm e => by
      have hm := List.mem_of_getElem? hri
      rw [e] at hm
      unfold rulesOf at hm
      rcases List.mem_append.mp hm with hm | hm
      · obtain ⟨c', nm', _, _, e'⟩ := mem_steps hm
        cases e'; simp
      · have := List.mem_singleton.mp hm
        split at this <;> cases this)
    refine lo_other (St.cell0 S₉) hoi₉.1 hoi₉.2 (by decide) ?_
    refine as_triple S₉ hF₂.2.2.hd ((htup.mono hl₈).mono S₉.gg) ?_; intro s₁₀ S₁₀
    have hr₂ := hF₂.2.2
    obtain ⟨m₁₀, ⟨ha1, ha2, ha3, hb1, hb2, hb3, hb4, hb5⟩, T₁₀⟩ : ∃ m₁₀ : Str → Option Value, (m₁₀ "rexmatch" = some fv ∧ m₁₀ "action" = some av ∧ m₁₀ "new_state" = some nv ∧ m₁₀ "text" = some (.str (S told) t) ∧ m₁₀ "tokendefs" = some (.ref pd) ∧ m₁₀ "pos" = some (.int (p : Int) tp) ∧ m₁₀ "statestack" = some (.ref sl) ∧ m₁₀ "statetokens" = some (.ref la)) ∧ St w s₀ g₀ X Lg m₁₀ [(it, oi₉), (sl, lst vs nl)] g₈ s₁₀ :=
      ⟨_, ⟨by walk_at "lk", by walk_at "lk", by walk_at "lk", by walk_at "lk", by walk_at "lk", by walk_at "lk", by walk_at "lk", by walk_at "lk"⟩, S₁₀⟩
    clear S₁₀
    refine ss_plain ?_
    walk_at "gg"
    refine wp_mid (fun mv s' => ∃ g', Le g₈ g' ∧ St w s₀ g₀ X Lg m₁₀ [(it, oi₉), (sl, lst vs nl)] g' s' ∧ ((hits told p r = true ∧ ((IsPM g' mv p [valOf told p r] ∧ ∃ nm, IsTok gC av nm ∧ tokOf loud r = some nm) ∨ (IsPs g' mv p ∧ av = .none ∧ tokOf loud r = none ∧ valOf told p r = []))) ∨ (hits told p r = false ∧ mv = .none))) ?_ ?_
    · skip
      rcases hcase with ⟨rws, nm, ⟨bq, pa, rfl, hbq, Kpl⟩, hfits, hwf, hrl, htk, htok⟩ | ⟨rfl, rfl, htok, hhit, hval⟩
      · refine c_bound (w := w) (self := .ref pa) (f := 712) (by kernel_rfl) ?_
        walk_at "gg"
        refine St.meth T₁₀ (hl₈ _ _ hbq) ?_
        refine call_bound T₁₀ (hl₈ _ _ hbq) ?_
        refine match_spec (hr₂.mono (by omega)) T₁₀.baseG T₁₀.gg (Kpl.mono hl₈) (.inl ⟨rfl, rfl⟩) hp (by omega) hwf hrl ?_
        intro mv s₁₁ g₁₁ P₁₁ hmv
        have S₁₁ := St.after T₁₀ P₁₁
        rw [hfits] at hmv
        refine ⟨g₁₁, P₁₁.grow, S₁₁, ?_⟩
        cases hh : hits told p r with
        | true => rw [hh] at hmv; exact .inl ⟨rfl, .inl ⟨hmv, nm, htk, htok⟩⟩
        | false => rw [hh] at hmv; exact .inr ⟨rfl, hmv⟩
      · refine c_fn T₁₀ (by kernel_rfl) ?_
        walk_at "gg"
        refine St.kinH T₁₀ ?_
        refine wpAny_call (nothing_spec (hr₂.mono (by omega)) T₁₀.baseG T₁₀.gg (.inl ⟨rfl, rfl⟩) ?_)
        intro mv s₁₁ g₁₁ P₁₁ K₁₁
        have S₁₁ := St.after T₁₀ P₁₁
        exact ⟨g₁₁, P₁₁.grow, S₁₁, .inl ⟨hhit _ _, .inr ⟨K₁₁, rfl, htok, hval _ _⟩⟩⟩
    rintro mv s₁₁ ⟨g₁₁, hl₁₁, S₁₁, hres⟩
    walk_at "gg"
    rename_i s₁₂ S₁₂
    refine ss_if1 ?_
    refine wp_mid (fun b s' => b = hits told p r ∧ St w s₀ g₀ X Lg (up m₁₀ "m" mv) [(it, oi₉), (sl, lst vs nl)] g₁₁ s') ?_ ?_
    · walk_at "gg"
      rcases hres with ⟨hh, ⟨Km, _⟩ | ⟨Km, _⟩⟩ | ⟨hh, rfl⟩
      · obtain ⟨ma, mdx, mod, _, _, rfl, Im, _⟩ := Km
        refine truthy_own S₁₂ (Im.mono S₁₂.gg) (by kernel_rfl) (by kernel_rfl) ⟨hh.symm, S₁₂⟩
      · obtain ⟨ma, mdx, mod, _, _, rfl, Im, _⟩ := Km
        refine truthy_own S₁₂ (Im.mono S₁₂.gg) (by kernel_rfl) (by kernel_rfl) ⟨hh.symm, S₁₂⟩
      · exact truthy_none ⟨hh.symm, S₁₂⟩
    rintro b s₁₃ ⟨rfl, S₁₃⟩
    have hl₁ := hl₈.trans hl₁₁
    cases hh : hits told p r with
    | false =>
      rw [if_neg (by decide)]
      refine ss_nil ?_
      refine hmiss hlt _ ⟨g₁₁, _, oi₉, S₁₃, hoi₉, hl₁, fun j r' hj hr' => ?_, by walk_at "lk", by walk_at "lk", by walk_at "lk", by walk_at "lk", by walk_at "lk"⟩
      rcases Nat.lt_succ_iff_lt_or_eq.mp hj with hj | rfl
      · exact hno j r' hj hr'
      · rw [hri] at hr'; cases hr'; exact hh
    | true =>
      rw [if_pos rfl]
      have hfind : (rulesOf ks q).find? (hits told p) = some r := find_at hri hh hno
      have hturn := turn_hit (loud := loud) (wide := false) hfind
      have hpl := hit_len hh hp
      rcases hnx with ⟨hx, _⟩ | ⟨r₀, q', p', rs, hx, hsuf, hn, hgo⟩
      · rw [hturn] at hx; cases hx
      rw [hturn] at hx
      cases hx
      subst hn
      refine ss_if1_mid (fun n' s₀' s' => ∃ g₀' X' g', St w s₀' g₀' X' Lg (up m₁₀ "m" mv) [(it, oi₉), (sl, lst vs nl)] g' s' ∧ GX t₁ Lg gC s₀' g₀' X' ∧ Le g₁₁ g' ∧ n' = rs.length) ?_ ?_
      · skip
        walk_at "gg"
        rcases hres with ⟨_, ⟨Km, nm, htk, htok⟩ | ⟨_, rfl, htok, _⟩⟩ | ⟨hh', _⟩
        · have hav : (!av == Value.none) = true := by
            obtain ⟨ta, _, _, _, rfl, _⟩ := htk; rfl
          rw [if_pos hav]
          have htell : tellOf told p loud r = [⟨p, nm, valOf told p r⟩] := by unfold tellOf; rw [htok]
          rw [htell] at hsuf ⊢
          refine ss_if_mid ?_
          walk_at "gg"
          obtain ⟨ta, tdx, tod, tnv, rfl, It, Nt, _⟩ := id htk
          refine type_own ((It.mono (hl₁)).mono S₁₃.gg) ?_
          walk_at "gg"
          refine wpAny_is_ref_self ?_
          walk_at "gg"
          refine ss_yield hF₂ ?_
          walk_at "gg"
          obtain ⟨ma, mdx, mod, mt, mpv, rfl, Im, Nm, Km'⟩ := id Km
          refine get_meth (f := 685) S₁₃ (Im.mono S₁₃.gg) (by kernel_rfl) (by kernel_rfl) (by kernel_rfl) (by kernel_rfl) ((Nm.look "group").trans (congrArg some ((up_ne _ (by decide)).trans (up_ne _ (by decide))))) ?_
          walk_at "gg"
          refine c_fm0 S₁₃ (by kernel_rfl) ?_
          refine wpAny_call (flat_group (hr₂.mono (by omega)) S₁₃.baseG S₁₃.gg Km (by simp) (by have := hpl; simp; omega) ?_)
          intro tv s₁₄ P₁₄
          have S₁₄ := St.after S₁₃ P₁₄
          walk_at "gg"
          refine newRow (gC := gC) (t₁ := t₁) (r := ⟨p, nm, valOf told p r⟩) S₁₄ X₆.size rfl htk (by rw [List.flatten_cons, List.flatten_nil, List.append_nil]; exact ⟨_, rfl⟩) ?_
          intro rv g₁₅ s₁₅ hl₁₅ S₁₅ hrow₁₅
          intro kap hk
          refine g_yield X₆ S₁₅ (fun z hz => ?_) (row_idx hsuf) hrow₁₅ (fun s₁₆ S₁₆ X₁₆ => ?_) hk
          · rcases List.mem_cons.mp hz with rfl | hz
            · rw [hoi₉.1]; decide
            · rcases List.mem_singleton.mp hz with rfl
              exact (by decide : (Value.type "list" : Value) ≠ .type "tuple")
          · refine ss_nil ?_
            refine ss_nil ?_
            exact ⟨rfl, _, _, g₁₅, S₁₆, X₁₆, hl₁₅, by simp⟩
        · rw [if_neg (by decide)]
          have htell : tellOf told p loud r = [] := by unfold tellOf; rw [htok]
          exact ⟨g₀, X, g₁₁, S₁₃, X₆, Le.refl _, by rw [htell]; rfl⟩
        · rw [hh] at hh'; cases hh'
      · rintro n' s₀' s₁₇ ⟨g₀', X', g₁₇, S₁₇, X₁₇, hl₁₇, rfl⟩
        refine ss_plain ?_
        refine wp_mid (fun f s' => f = .next ∧ ∃ tp', St w s₀' g₀' X' Lg (up (up m₁₀ "m" mv) "pos" (.int ((p + (valOf told p r).length : Nat) : Int) tp')) [(it, oi₉), (sl, lst vs nl)] g₁₇ s') ?_ ?_
        · skip
          walk_at "gg"
          rcases hres with ⟨_, ⟨Km, _⟩ | ⟨Km, _, _, hval⟩⟩ | ⟨hh', _⟩
          · obtain ⟨ma, mdx, mod, mt, mpv, rfl, Im, Nm, Km'⟩ := id Km
            refine get_meth (f := 679) S₁₇ ((Im.mono hl₁₇).mono S₁₇.gg) (by kernel_rfl) (by kernel_rfl) (by kernel_rfl) (by kernel_rfl) ((Nm.look "end").trans (congrArg some ((up_ne _ (by decide)).trans (up_ne _ (by decide))))) ?_
            walk_at "gg"
            refine c_fm0 S₁₇ (by kernel_rfl) ?_
            refine wpAny_call (end_spec (hr₂.mono (by omega)) S₁₇.baseG S₁₇.gg (Km.mono hl₁₇) (by simp) (by have := hpl; simp; omega) ?_)
            intro tv s₁₈ P₁₈
            have S₁₈ := St.after S₁₇ P₁₈
            walk_at "gg"
            rename_i s₁₉ S₁₉
            refine ⟨tv, ?_⟩
            rw [List.flatten_cons, List.flatten_nil, List.append_nil] at S₁₉
            exact S₁₉
          · obtain ⟨ma, mdx, mod, mt, mu, rfl, Im, Nm⟩ := id Km
            refine get_meth (f := 415) S₁₇ ((Im.mono hl₁₇).mono S₁₇.gg) (by kernel_rfl) (by kernel_rfl) (by kernel_rfl) (by kernel_rfl) ((Nm.look "end").trans (congrArg some ((up_ne _ (by decide)).trans (up_ne _ (by decide))))) ?_
            walk_at "gg"
            refine c_fm0 S₁₇ (by kernel_rfl) ?_
            refine wpAny_call (ps_end (hr₂.mono (by omega)) S₁₇.baseG S₁₇.gg (Km.mono hl₁₇) ?_)
            intro tv s₁₈ P₁₈
            have S₁₈ := St.after S₁₇ P₁₈
            walk_at "gg"
            rename_i s₁₉ S₁₉
            refine ⟨tv, ?_⟩
            rw [hval, List.length_nil, Nat.add_zero]
            exact S₁₉
          · rw [hh] at hh'; cases hh'
        rintro f s₁₈ ⟨rfl, tp', S₁₈⟩
        dsimp only
        have hlC : Le gC g₁₇ := hl₁.trans hl₁₇
        obtain ⟨hmvh, hmvq⟩ := rule_move H (List.mem_of_getElem? hri)
        refine ss_plain ?_
        refine wp_mid (fun f s' => f = .next ∧ ∃ g' m' sl' la' n' vs' us', St w s₀' g₀' X' Lg m' [(it, oi₉), (sl', lst vs' n')] g' s' ∧ Le gC g' ∧ All2 IsT vs' (stackOf ((moveOf r).getD q)) ∧ LstAt gC la' us' ∧ All2 (IsPRow gC loud) us' (rulesOf ks ((moveOf r).getD q)) ∧ hasT ks ((moveOf r).getD q) = true ∧
          m' "text" = some (.str (S told) t) ∧ m' "tokendefs" = some (.ref pd) ∧ m' "pos" = some (.int ((p + (valOf told p r).length : Nat) : Int) tp') ∧ m' "statestack" = some (.ref sl') ∧ m' "statetokens" = some (.ref la')) ?_ ?_
        · skip
          walk_at "gg"
          cases hmo : moveOf r with
          | none =>
            rw [hmo] at hmv
            have hmv : nv = .none := hmv
            subst hmv
            rw [if_neg (by decide)]
            walk_at "gg"
            exact ⟨g₁₇, _, sl, la, nl, vs, us, S₁₈, hlC, hvs, hla, hus, hq, by walk_at "lk", by walk_at "lk", by walk_at "lk", by walk_at "lk", by walk_at "lk"⟩
          | some x =>
            rw [hmo] at hmv hmvh hmvq
            have hmv : IsNS gC nv x := hmv
            have hhx := hmvh x rfl
            by_cases hx : x = []
            · unfold IsNS at hmv
              rw [if_pos hx] at hmv
              obtain ⟨tn, rfl⟩ := hmv
              have hqn := hmvq (by rw [hx])
              rw [if_pos (show (!Value.int (-1) tn == Value.none) = true from rfl)]
              walk_at "gg"
              refine isinst_int S₁₈ (b := false) (by kernel_rfl) ?_; intro s₁₉ S₁₉
              walk_at "gg"
              rw [if_neg (by decide)]
              walk_at "gg"
              refine isinst_int S₁₉ (b := true) (by kernel_rfl) ?_; intro s₂₀ S₂₀
              walk_at "gg"
              rw [if_pos (by decide)]
              walk_at "gg"
              unfold stackOf at hvs
              rw [if_neg hqn] at hvs
              obtain ⟨v1, v2, rfl, hv1, hv2⟩ : ∃ v1 v2, vs = [v1, v2] ∧ IsT v1 tRoot ∧ IsT v2 (113 :: q) := all2_two hvs
              refine absI S₂₀ ?_; intro ta s₂₁ S₂₁
              walk_at "gg"
              refine len_list (vs := [v1, v2]) S₂₁ ⟨lst [v1, v2] nl, S₂₁.cell (by simp), lst_is _ _⟩ (by simp) ?_; intro tl s₂₂ S₂₂
              walk_at "gg"
              rw [if_neg (by simp)]
              refine s_del ?_
              walk_at "gg"
              refine del_last2 S₂₂.swap ?_; intro n₂₃ s₂₃ S₂₃
              walk_at "gg"
              obtain ⟨tv1, rfl⟩ := hv1
              rename_i S₂₃'
              refine item_last S₂₃' ⟨_, S₂₃'.cell0, lst_is _ _⟩ rfl ?_
              have hhr : hasT ks [] = true := H.nil
              obtain ⟨kvs, D, la', us', hv', hla', hus'⟩ := proc_get Kp' ho (q := []) H.nil
              refine d_get S₂₃' (S₂₃'.gg _ _ (hlC _ _ hpd')) D hv' ?_; intro s₂₄ S₂₄
              walk_at "gg"
              rename_i s₂₅ S₂₅
              subst hx
              exact ⟨g₁₇, _, sl, la', n₂₃, _, us', S₂₅.swap, hlC, ⟨⟨_, rfl⟩, trivial⟩, hla', hus', H.nil, by walk_at "lk", by walk_at "lk", by walk_at "lk", by walk_at "lk", by walk_at "lk"⟩
            · unfold IsNS at hmv
              rw [if_neg hx] at hmv
              obtain ⟨na, nvs, rfl, hnt, hnv⟩ := hmv
              obtain ⟨w1, w2, rfl, hw1, hw2⟩ := all2_two hnv
              rw [if_pos (show (!Value.ref na == Value.none) = true from rfl)]
              walk_at "gg"
              refine isinst_tup S₁₈ ((hnt.mono hlC).mono S₁₈.gg) (b := true) (by kernel_rfl) ?_; intro s₁₉ S₁₉
              walk_at "gg"
              rw [if_pos rfl]
              walk_at "gg"
              refine it_tup S₁₉ (hnt.mono hlC) ?_; intro it₂ o₂ s₂₀ S₂₀ ho₂
              refine for_iter S₂₀ ho₂ (Le.refl _) (iter_tup (A := A₁.over _ _) hr₂.hd (hnt.mono hlC)) (fun i g' m' c' => (∃ n' vs', c' = [(it, oi₉), (sl, lst vs' n')] ∧ All2 IsT vs' (if i = 0 then stackOf q else if i = 1 then [tRoot] else [tRoot, 113 :: x])) ∧
                m' "text" = some (.str (S told) t) ∧ m' "tokendefs" = some (.ref pd) ∧ m' "pos" = some (.int ((p + (valOf told p r).length : Nat) : Int) tp') ∧ m' "statestack" = some (.ref sl)) ⟨⟨nl, vs, rfl, hvs⟩, by walk_at "lk", by walk_at "lk", by walk_at "lk", by walk_at "lk"⟩ ?_ ?_
              · rintro j g' m' c' s₂₁ o₃ v E' hj hvj hle ⟨⟨n', vs', rfl, hvs'⟩, e1, e2, e3, e4⟩ S₂₁
                have hj2 : j < 2 := hj
                rcases (by omega : j = 0 ∨ j = 1) with rfl | rfl
                · obtain ⟨tw, rfl⟩ := hw1
                  obtain rfl : _ = v := by simpa using hvj
                  walk_at "gg"
                  rw [str_pop]
                  refine eqS ?_
                  walk_at "gg"
                  rw [if_pos (by simp)]
                  by_cases hq0 : q = []
                  · obtain ⟨v1, rfl, hv1⟩ : ∃ v1, vs' = [v1] ∧ IsT v1 tRoot := by
                      rw [if_pos rfl] at hvs'
                      unfold stackOf at hvs'
                      rw [if_pos hq0] at hvs'
                      exact all2_one hvs'
                    walk_at "gg"
                    rename_i S₂₂
                    refine len_list (vs := [v1]) S₂₂ ⟨lst [v1] n', S₂₂.cell (by simp), lst_is _ _⟩ (by simp) ?_; intro tl s₂₃ S₂₃
                    walk_at "gg"
                    rw [if_neg (by simp)]
                    walk_at "gg"
                    exact ⟨g', _, _, hle, by assumption, ⟨n', [v1], rfl, hv1, trivial⟩, by walk_at "lk", by walk_at "lk", by walk_at "lk", by walk_at "lk"⟩
                  · obtain ⟨v1, v2, rfl, hv1, hv2⟩ : ∃ v1 v2, vs' = [v1, v2] ∧ IsT v1 tRoot ∧ IsT v2 (113 :: q) := by
                      rw [if_pos rfl] at hvs'
                      unfold stackOf at hvs'
                      rw [if_neg hq0] at hvs'
                      exact all2_two hvs'
                    walk_at "gg"
                    rename_i S₂₂
                    refine len_list (vs := [v1, v2]) S₂₂ ⟨lst [v1, v2] n', S₂₂.cell (by simp), lst_is _ _⟩ (by simp) ?_; intro tl s₂₃ S₂₃
                    walk_at "gg"
                    rw [if_pos (by simp)]
                    refine s_exprA ?_
                    walk_at "gg"
                    rename_i S₂₄
                    refine gm_pop (vs := [v1, v2]) (n := n') S₂₄ (by simp) ?_
                    refine c_pop2 S₂₄.rot ?_; intro n₂₅ s₂₅ S₂₅
                    walk_at "gg"
                    exact ⟨g', _, _, hle, S₂₅.unrot, ⟨n₂₅, [v1], rfl, hv1, trivial⟩, by walk_at "lk", by walk_at "lk", by walk_at "lk", by walk_at "lk"⟩
                · obtain ⟨tw, rfl⟩ := hw2
                  obtain rfl : _ = v := by simpa using hvj
                  obtain ⟨v1, rfl, hv1⟩ : ∃ v1, vs' = [v1] ∧ IsT v1 tRoot := all2_one hvs'
                  walk_at "gg"
                  rw [str_pop]
                  refine eqS ?_
                  walk_at "gg"
                  rw [if_neg (by simp [tPop])]
                  walk_at "gg"
                  rw [str_push]
                  refine eqS ?_
                  walk_at "gg"
                  rw [if_neg (by simp [tPush])]
                  walk_at "gg"
                  refine append2 (by assumption) (by simp) ?_; intro n₂₅ s₂₅ S₂₅
                  walk_at "gg"
                  exact ⟨g', _, _, hle, by assumption, ⟨_, [v1, .str (S (113 :: x)) tw], rfl, hv1, ⟨_, rfl⟩, trivial⟩, by walk_at "lk", by walk_at "lk", by walk_at "lk", by walk_at "lk"⟩
              · rintro g' m' c' s₂₁ E' hle ⟨⟨n', vs', rfl, hvs'⟩, e1, e2, e3, e4⟩ S₂₁
                obtain ⟨v1, v2, rfl, hv1, hv2⟩ : ∃ v1 v2, vs' = [v1, v2] ∧ IsT v1 tRoot ∧ IsT v2 (113 :: x) := all2_two hvs'
                obtain ⟨tv2, rfl⟩ := hv2
                walk_at "gg"
                rename_i S₂₂
                refine item_last S₂₂ ⟨lst [v1, .str (S (113 :: x)) tv2] n', S₂₂.cell (by simp), lst_is _ _⟩ rfl ?_
                obtain ⟨kvs, D, la', us', hv', hla', hus'⟩ := proc_get Kp' ho hhx
                unfold stName at hv'
                rw [if_neg hx] at hv'
                refine d_get S₂₂ (S₂₂.gg _ _ (hle _ _ (hlC _ _ hpd'))) D hv' ?_; intro s₂₃ S₂₃
                walk_at "gg"
                rename_i S₂₄
                exact ⟨g', _, sl, la', n', _, us', S₂₄, hlC.trans hle, by unfold stackOf; rw [Option.getD_some, if_neg hx]; exact ⟨hv1, ⟨_, rfl⟩, trivial⟩, hla', hus', hhx, by walk_at "lk", by walk_at "lk", by walk_at "lk", by walk_at "lk", by walk_at "lk"⟩
        · rintro f s₁₉ ⟨rfl, g', m', sl', la', n', vs', us', S₁₉, hl₁₉, hvs', hla', hus', hq', e1, e2, e3, e4, e5⟩
          dsimp only
          refine ss_break ?_
          refine ss_nil ?_
          exact hgo _ _ ⟨g₀', X', m', _, g', sl', la', n', vs', us', tp', S₁₉.drop, X₁₇, hl₁₉, rfl, hvs', hla', hus', hq', hpl, e1, e2, e3, e4, e5⟩
  · have hfind : (rulesOf ks q).find? (hits told p) = none := by
      rw [List.find?_eq_none]
      intro r' hr'
      obtain ⟨j, hj⟩ := List.mem_iff_getElem?.mp hr'
      have hjl : j < (rulesOf ks q).length := by
        rcases Nat.lt_or_ge j (rulesOf ks q).length with z | z
        · exact z
        · rw [List.getElem?_eq_none z] at hj; cases hj
      rw [hno j r' (by omega) hj]; simp
    have hturn := turn_miss (loud := loud) (wide := false) hfind
    refine ss_if1 ?_
    walk_at "gg"
    split
    · rename_i s₁₀ S₁₀ hge
      have hpe : p = told.length := by have := of_decide_eq_true hge; omega
      have hn0 : told[p]? = none := List.getElem?_eq_none (by omega)
      rw [hn0] at hturn
      rcases hnx with ⟨_, rfl⟩ | ⟨r₀, q', p', rs, hx, _⟩
      · refine ss_break ?_
        refine ss_nil ?_
        exact ⟨rfl, rfl, X₆.keep S₁₀, S₁₀.gens⟩
      · rw [hturn] at hx; cases hx
    · rename_i s₁₀ S₁₀ hge
      have hlt : p < told.length := by
        rcases Nat.lt_or_ge p told.length with z | z
        · exact z
        · exact absurd (decide_eq_true (by omega)) hge
      obtain ⟨ch, hch⟩ : ∃ ch, told[p]? = some ch := ⟨_, List.getElem?_eq_getElem hlt⟩
      rw [hch] at hturn
      rcases hnx with ⟨hx, _⟩ | ⟨r₀, q', p', rs, hx, hsuf, hn, hgo⟩
      · rw [hturn] at hx; dsimp only at hx; split at hx <;> cases hx
      rw [hturn] at hx
      dsimp only at hx
      subst hn
      refine ss_if1 ?_
      walk_at "gg"
      refine item_str S₁₀ (by omega) (by omega) (by rw [Int.toNat_natCast]; exact hch) ?_; intro tc s₁₁ S₁₁
      walk_at "gg"
      rw [str_nl]
      refine eqS ?_
      walk_at "gg"
      by_cases hc10 : ch = 10
      · rw [if_pos hc10] at hx
        cases hx
        subst hc10
        rw [if_pos (by simp)]
        refine ss_plain ?_
        walk_at "gg"
        refine newLstC (by assumption) (by simp) ?_; intro sl₂ s₁₂ S₁₂ hsl₂
        walk_at "gg"
        refine ss_plain ?_
        walk_at "gg"
        rw [str_root]
        obtain ⟨kvs, D, la', us', hv', hla', hus'⟩ := proc_get Kp' ho (q := []) H.nil
        refine d_get (by assumption) (St.gg (by assumption) _ _ (hl₈ _ _ hpd')) D hv' ?_; intro s₁₃ S₁₃
        walk_at "gg"
        refine ss_yield (hF₂.same rfl rfl) ?_
        walk_at "gg"
        rename_i S₁₄
        refine newRow (gC := gC) (t₁ := t₁) (r := ⟨p, nlOf false, [10]⟩) S₁₄ X₆.size rfl ((kWhite w).mono BC.kg) ⟨_, rfl⟩ ?_
        intro rv g₁₅ s₁₅ hl₁₅ S₁₅ hrow₁₅
        intro kap hk
        refine g_yield X₆ S₁₅ (fun z hz => ?_) (row_idx hsuf) hrow₁₅ (fun s₁₆ S₁₆ X₁₆ => ?_) hk
        · rcases List.mem_cons.mp hz with rfl | hz
          · exact (by decide : (Value.type "list" : Value) ≠ .type "tuple")
          · rcases List.mem_singleton.mp hz with rfl
            exact (by decide : (Value.type "list" : Value) ≠ .type "tuple")
        · refine ss_plain ?_
          walk_at "gg"
          refine iadd_i (by assumption) ?_; intro _ _ _
          walk_at "gg"
          refine ss_continue ?_
          rename_i S₁₇
          refine hgo _ _ ⟨_, _, _, _, g₁₅, sl₂, la', _, _, us', _, S₁₇.swap.drop, X₁₆, hl₈.trans hl₁₅, rfl, ⟨?_, trivial⟩, hla', hus', H.nil, hlt, by walk_at "lk", by walk_at "lk", by walk_at "lk", by walk_at "lk", by walk_at "lk"⟩
          rw [str_root]; exact ⟨_, rfl⟩
      · rw [if_neg hc10] at hx
        cases hx
        rw [if_neg (by simp [hc10])]
        refine ss_yield (hF₂.same rfl rfl) ?_
        walk_at "gg"
        rename_i S₁₂
        refine item_str S₁₂ (by omega) (by omega) (by rw [Int.toNat_natCast]; exact hch) ?_; intro tc₂ s₁₃ S₁₃
        walk_at "gg"
        refine newRow (gC := gC) (t₁ := t₁) (r := ⟨p, [tError], [ch]⟩) S₁₃ X₆.size rfl ((kError w).mono BC.kg) ⟨_, rfl⟩ ?_
        intro rv g₁₅ s₁₅ hl₁₅ S₁₅ hrow₁₅
        intro kap hk
        refine g_yield X₆ S₁₅ (fun z hz => ?_) (row_idx hsuf) hrow₁₅ (fun s₁₆ S₁₆ X₁₆ => ?_) hk
        · rcases List.mem_singleton.mp hz with rfl
          exact (by decide : (Value.type "list" : Value) ≠ .type "tuple")
        · refine ss_plain ?_
          walk_at "gg"
          refine iadd_i (by assumption) ?_; intro _ _ _
          walk_at "gg"
          rename_i S₁₇
          refine ss_nil ?_
          refine ss_nil ?_
          refine hgo _ _ ⟨_, _, _, _, g₁₅, sl, la, _, _, us, _, S₁₇, X₁₆, hl₈.trans hl₁₅, rfl, hvs, hla, hus, hq, hlt, by walk_at "lk", by walk_at "lk", by walk_at "lk", by walk_at "lk", by walk_at "lk"⟩
end
end

end

-- PART B25 --
section
open PySem PySem.W PySem.Calls PyProof.Rows
theorem putL_same (name : Str) (hsh : Int) (key v : Value) : ∀ es : List DictEntry, ((es.find? (·.key.isStr name)).map (·.val)).isSome = true → (putL name hsh key v es).length = es.length
  | [], h => by simp at h
  | e :: r, h => by
    unfold putL
    by_cases q : e.key.isStr name = true
    · rw [if_pos q]; rfl
    · rw [if_neg q, List.length_cons, List.length_cons, putL_same name hsh key v r (by
        rw [List.find?_cons] at h
        have : e.key.isStr name = false := by simpa using q
        rw [this] at h; exact h)]
theorem NsO.put_same {k : Nat} {od : Obj} {mm : Str → Option Value} (h : NsO k od mm) {name : Str} (hin : (mm name).isSome = true) (hsh : Int) (t : Tok) (v : Value) : NsO k (Obj.putName name hsh (.str name t) v od) (up mm name v) := by
  obtain ⟨es, n, rfl, h1, h2, h3⟩ := h
  refine ⟨_, _, putName_dict .., ?_, putL_keys _ _ _ _ _ h2, fun y => ?_⟩
  · rw [putL_same name hsh _ v es (by rw [h3 name]; exact hin)]; exact h1
  · rw [putL_get, h3 y]; rfl
theorem NsO.cls {k : Nat} {od : Obj} {mm : Str → Option Value} (h : NsO k od mm) : od.cls ≠ .type "tuple" := by
  obtain ⟨es, n, rfl, _⟩ := h
  exact (by decide : (Value.type "dict" : Value) ≠ .type "tuple")
section
variable {M : Model} {prog : Program} {w : World} {A : Around} {E : Value → Shared → Prop} {s₀ s s' : Shared} {g₀ g g' : Mem} {X : List Addr} {L : Addr} {m : Str → Option Value} {c : List (Addr × Obj)} {env : Env}
theorem set_same {x C dx : Addr} {od : Obj} {mm : Str → Option Value} {k : Nat} {name : Str} {v : Value} {Q : Unit → Shared → Prop} (S : St w s₀ g₀ X L m ((dx, od) :: c) g s) (hx : s.heap.get? x = some (instObj C dx)) (N : NsO k od mm) (hk : k ≤ 900) (hin : (mm name).isSome = true)
    (hs : findIn (KK w) (.ref C) "__setattr__" = some (some (.builtin "object.__setattr__"))) (hp : plainOver (KK w) C = true) (ht : takerIn (KK w) C name = some none) (hd : hasDictIn (KK w) C = true)
    (h : ∀ od' s', NsO k od' (up mm name v) → St w s₀ g₀ X L m ((dx, od') :: c) g s' → Q () s') : wpAny (model prog w) A (setAttr (.ref x) name v) Q E s := by
  have I : InstAt s.heap x (instObj C dx) C (some od) := InstG.at ⟨hx, S.cell0⟩
  refine set_plain S.baseH.kin I hs ?_
  have S1 := S.toks (s.toks + 1)
  refine osa_open (s := { s with toks := s.toks + 1 }) S1.baseH.kin (InstG.at (h := s.heap) ⟨hx, S1.cell0⟩) hp ht fun b => ?_
  obtain ⟨cd, hc, hd'⟩ := any_some hd
  have D := S1.cell0
  refine wpAny_bind (wpAny_pure (wpAny_bind (wpAny_bind (wpAny_loadPart hx (wpAny_bind ((looks_clsIn S1.baseH.kin hc).here ?_))))))
  rw [hd']
  refine wpAny_pure (a := some dx) (wpAny_bind (wpAny_pure (wpAny_bind ?_)))
  unfold nsSet
  refine wpAny_bind (wpAny_bind (wpAny_askSetting (wpAny_pure (wpAny_bind (wpAny_mkText (wpAny_bind (wpAny_loadPart D ?_)))))))
  have N0 := N
  obtain ⟨es, n, rfl, hl, hks, hg⟩ := N0
  show wpAny _ _ (if aRefKeyMayBeTheName name es.toArray = true then _ else _) _ _ _
  have hc' : aRefKeyMayBeTheName name es.toArray = false := by
    rw [aRefKeyMayBeTheName_at, ← Array.any_toList, ← Array.any_toList]
    have := refKey_none hks
    simp only [this, Bool.and_false]
  rw [hc', if_neg Bool.false_ne_true]
  have N2 := N.put_same hin (PyData.keyHash w.params name) (s.toks + 1) v
  have hf2 : (Obj.putName name (PyData.keyHash w.params name) (.str name (s.toks + 1)) v (dictOf es n)).isFreed = false := by rw [putName_dict]; rfl
  refine wpAny_updatePart D ?_
  have S2 := S1.upd0 (h' := s.heap.update dx (Obj.putName name (PyData.keyHash w.params name) (.str name (s.toks + 1)) v)) (t := s.toks + 1 + 1) (fun b o hb e => (Heap.get?_update_other _ _ (Ne.symm hb)).trans e) (Heap.get?_update_self _ D hf2) (Nat.le_of_eq (upd_size _ _ _).symm)
  obtain ⟨es2, n2, e2, hsz⟩ := N2.data
  refine wpAny_bind (wpAny_lookBehind S2.cell0 (by rw [e2]; exact pastItsLine_dict (by rw [sizeLine_eq]; omega)) ?_)
  exact wpAny_pure (h _ _ N2 S2)
theorem St.addCell {a : Addr} {o : Obj} (S : St w s₀ g₀ X L m c g s) (ha : s₀.heap.objs.size ≤ a) (ho : s.heap.get? a = some o) (hg : g a = none) (hL : a ≠ L) (hc : ∀ p ∈ c, p.1 ≠ a) : St w s₀ g₀ X L m ((a, o) :: c) g s :=
  { S with
    cc := fun p hp => by
      rcases List.mem_cons.mp hp with rfl | hp
      · exact ⟨ho, hL, hg, .inl ha⟩
      · exact S.cc p hp
    nd := by
      rw [List.map_cons, List.nodup_cons]
      refine ⟨fun hm => ?_, S.nd⟩
      obtain ⟨p, hp, e⟩ := List.mem_map.mp hm
      exact hc p hp e }
theorem made_open {C L dx : Addr} {m : Str → Option Value} {c : List (Addr × Obj)} {g2 : Mem} {s2 : Shared} {t : Nat} (hg : Le g s.heap.get?) (hdx : dx = s.heap.objs.size)
    (S : St w { s with heap := (s.heap.push emptyDict).push (instObj C dx), toks := t } (g.put (dx + 1) (instObj C dx)) [dx] L m c g2 s2) : Post [] s g s2 g2 := by
  subst hdx
  have hgx : ∀ b, b < s.heap.objs.size → (g.put (s.heap.objs.size + 1) (instObj C s.heap.objs.size)) b = g b := fun b hb => Mem.put_ne _ _ (Nat.ne_of_lt (Nat.lt_succ_of_lt hb))
  have hsz : ((s.heap.push emptyDict).push (instObj C s.heap.objs.size)).objs.size = s.heap.objs.size + 2 := by
    rw [Heap.size_push, Heap.size_push]
  have hlow : ∀ b, b < s.heap.objs.size → g2 b = g b := fun b hb => by
    have key : b < ((s.heap.push emptyDict).push (instObj C s.heap.objs.size)).objs.size := Nat.lt_of_lt_of_eq (Nat.lt_of_lt_of_le hb (Nat.le_add_right _ 2)) hsz.symm
    exact (S.low b key).trans (hgx b hb)
  refine ⟨fun b o _ e => ?_, ?_, S.gg, fun b o e => ?_, hlow, S.gens, S.os⟩
  · have hb := Heap.lt_size e
    exact S.keep b o (by simp only [List.mem_singleton]; exact Nat.ne_of_lt hb) (Heap.get?_push_of_some _ (Heap.get?_push_of_some _ e))
  · have := S.size
    refine Nat.le_trans ?_ this
    show s.heap.objs.size ≤ ((s.heap.push emptyDict).push (instObj C s.heap.objs.size)).objs.size
    rw [hsz]; exact Nat.le_add_right _ 2
  · rw [hlow b (Heap.lt_size (hg _ _ e))]; exact e
theorem s_augattr {o value : Expr} {attr : Str} {tpos pos : Pos} {op : Operator} {rest : List Stmt} {Q : Flow → Shared → Prop}
    (h : wpAny M A (eval o env) (fun ov s₁ => wpAny M A (getAttr ov attr true) (fun old s₂ => wpAny M A (eval value env) (fun v s₃ => wpAny M A (inplaceOp op old v) (fun new s₄ =>
      wpAny M A (setAttr ov attr new) (fun _ s₅ => wpAny M A (execs rest env) Q E s₅) E s₄) E s₃) E s₂) E s₁) E s) :
    wpAny M A (execs (.AugAssign (.Attribute o attr tpos) op value pos :: rest) env) Q E s := wpAny_execs_cons (wpAny_AugAssign_AttributeAny h)
end
end

section
local macro_rules | `(tactic| walk_at "lk") => `(tactic| first | with_reducible assumption | with_reducible exact up_self _ _ _ | with_reducible exact up_get (by with_unfolding_all decide) (by walk_at "lk") | with_unfolding_all rfl)
local macro_rules | `(tactic| walk_at "g") => `(tactic| with_reducible first
  | refine s_assign ?_
  | refine s_setattr ?_
  | refine s_setitem ?_
  | refine s_assign2 ?_
  | refine s_ret ?_
  | refine s_if1 ?_
  | refine s_if ?_
  | refine s_for ?_
  | refine s_aug ?_
  | refine s_expr ?_
  | refine s_nil ?_
  | refine s_continue ?_
  | refine s_break ?_
  | refine t_cmp ?_
  | refine t_not ?_
  | refine t_or ?_
  | refine t_or1 ?_
  | refine t_and ?_
  | refine t_and1 ?_
  | refine e_or ?_
  | refine e_and ?_
  | refine e_bool1 ?_
  | refine e_attr ?_
  | refine GM.isupper ?_
  | refine GM.split ?_
  | refine GM.join ?_
  | refine GM.endswith ?_
  | refine endswith1 ?_
  | refine e_mcall ?_
  | refine e_call ?_
  | refine e_sub ?_
  | refine e_bin ?_
  | refine e_ite ?_
  | refine s_assert ?_
  | refine e_neg ?_
  | (refine neg_i (by assumption) ?_; intro _ _ _)
  | refine e_cmp ?_
  | refine e_slice_sn ?_
  | refine e_slice_ns ?_
  | refine e_slice_ss ?_
  | refine a_nil ?_
  | refine a_cons ?_
  | refine c_type ?_
  | refine c_builtin ?_
  | refine c_meth ?_
  | refine c_builtin0 ?_
  | (refine cint (by assumption) ?_; intro _ _ _)
  | (refine cstr (by assumption) ?_; intro _ _ _)
  | refine wpAny_Constant_none ?_
  | refine wpAny_Constant_bool ?_
  | refine ldl (by assumption) (by walk_at "lk") ?_
  | refine ldlN (by assumption) (by walk_at "lk") ?_
  | refine ldn (by assumption) (by with_unfolding_all rfl) ?_
  | (refine stl (by assumption) ?_; intro _ _)
  | (refine max2 (by assumption) (by with_unfolding_all assumption) ?_; intro _ _ _)
  | (refine min2 (by assumption) (by with_unfolding_all assumption) ?_; intro _ _ _)
  | (refine Mine.sub_int (by assumption) ?_; intro _ _ _)
  | (refine Mine.add_int (by assumption) ?_; intro _ _ _)
  | (refine Mine.mod_pos (by assumption) (by omega) ?_; intro _ _ _)
  | (refine Mine.div_pos (by assumption) (by omega) (by omega) ?_; intro _ _ _)
  | (refine Mine.len_str (by assumption) (by omega) ?_; intro _ _ _)
  | refine gm_append (by assumption) (by with_unfolding_all k_mem) ?_
  | (refine append0 (by assumption) (by omega) ?_; intro _ _ _)
  | (refine append1 (by assumption) (by omega) ?_; intro _ _ _)
  | (refine append2 (by assumption) (by omega) ?_; intro _ _ _)
  | refine e_tup ?_
  | refine e_listF ?_
  | refine eqI ?_
  | refine geI ?_
  | refine leI ?_
  | refine gtI ?_
  | refine eqS ?_
  | refine isNone ?_
  | refine isntNone ?_
  | refine And.intro rfl ?_
  | refine wpAny_truthy_bool ?_
  | refine t_val ?_)
local macro_rules | `(tactic| walk_at "gg") => `(tactic| repeat' (first | walk_at "g" | dsimp only))
local macro_rules | `(tactic| walk_at "h") => `(tactic| with_reducible first
  | refine s_assign ?_
  | refine s_setattr ?_
  | refine s_setitem ?_
  | refine s_assign2 ?_
  | refine s_ret ?_
  | refine s_if1 ?_
  | refine s_if ?_
  | refine s_for ?_
  | refine s_aug ?_
  | refine s_expr ?_
  | refine s_nil ?_
  | refine s_continue ?_
  | refine s_break ?_
  | refine e_or ?_
  | refine e_and ?_
  | refine e_bool1 ?_
  | refine e_attr ?_
  | refine GM.isupper ?_
  | refine GM.split ?_
  | refine GM.join ?_
  | refine GM.endswith ?_
  | refine endswith1 ?_
  | refine e_mcall ?_
  | refine e_call ?_
  | refine e_sub ?_
  | refine e_bin ?_
  | refine e_ite ?_
  | refine s_assert ?_
  | refine e_neg ?_
  | (refine neg_i (by assumption) ?_; intro _ _ _)
  | refine e_cmp ?_
  | refine e_slice_sn ?_
  | refine e_slice_ns ?_
  | refine e_slice_ss ?_
  | refine a_nil ?_
  | refine a_cons ?_
  | refine c_type ?_
  | refine c_builtin ?_
  | refine c_meth ?_
  | refine c_builtin0 ?_
  | (refine cint (by assumption) ?_; intro _ _ _)
  | (refine cstr (by assumption) ?_; intro _ _ _)
  | refine wpAny_Constant_none ?_
  | refine wpAny_Constant_bool ?_
  | refine ldl (by assumption) (by walk_at "lk") ?_
  | refine ldlN (by assumption) (by walk_at "lk") ?_
  | refine ldn (by assumption) (by with_unfolding_all rfl) ?_
  | (refine stl (by assumption) ?_; intro _ _)
  | (refine max2 (by assumption) (by with_unfolding_all assumption) ?_; intro _ _ _)
  | (refine min2 (by assumption) (by with_unfolding_all assumption) ?_; intro _ _ _)
  | (refine Mine.sub_int (by assumption) ?_; intro _ _ _)
  | (refine Mine.add_int (by assumption) ?_; intro _ _ _)
  | (refine Mine.mod_pos (by assumption) (by omega) ?_; intro _ _ _)
  | (refine Mine.div_pos (by assumption) (by omega) (by omega) ?_; intro _ _ _)
  | (refine Mine.len_str (by assumption) (by omega) ?_; intro _ _ _)
  | refine gm_append (by assumption) (by with_unfolding_all k_mem) ?_
  | (refine append0 (by assumption) (by omega) ?_; intro _ _ _)
  | (refine append1 (by assumption) (by omega) ?_; intro _ _ _)
  | (refine append2 (by assumption) (by omega) ?_; intro _ _ _)
  | refine e_tup ?_
  | refine e_listF ?_
  | refine eqI ?_
  | refine geI ?_
  | refine leI ?_
  | refine gtI ?_
  | refine eqS ?_
  | refine isNone ?_
  | refine isntNone ?_
  | refine And.intro rfl ?_
  | refine wpAny_truthy_bool ?_)
local macro_rules | `(tactic| walk_at "hh") => `(tactic| repeat' (first | walk_at "h" | dsimp only))

-- PART F26 --
section
open PySem PySem.W PySem.Calls PyProof.Rows
section
variable {prog : Program} {w : World} {A : Around} {s : Shared} {g : Mem}
theorem ctx_new (hr : Room A 1) (B : Base w g) (hg : Le g s.heap.get?) {told : T} {t u : Tok} (ht : told.length ≤ 24)
    {R : Result → Shared → Prop} (h : ∀ x cdx sl od mm n vs s' g', Post [] s g s' g' → s.heap.objs.size ≤ cdx → s.heap.objs.size ≤ sl → cdx ≠ sl → s'.heap.get? cdx = some od → s'.heap.get? sl = some (lst vs n) → g' cdx = none → g' sl = none → g' x = some (instObj 625 cdx) → All2 IsT vs [tRoot] →
      NsO 4 od mm → mm "pos" = some (.int ((0 : Nat) : Int) u) → (∃ te, mm "end" = some (.int (told.length : Int) te)) → mm "stack" = some (.ref sl) → R (.ok (.ret (.ref x))) s') :
    codeAny (model prog w) A (.call (.ref 625) ⟨[.str (S told) t, .int 0 u], []⟩) R s := by
  refine make (fI := 615) (fun x => [("self", x), ("text", .str (S told) t), ("pos", .int 0 u), ("stack", .none), ("end", .none)]) B hg (by kernel_rfl) (by kernel_rfl) (by kernel_rfl) rfl (by kernel_rfl) (by have := hr.dp; omega) (fun x s' X' => binds_K X' rfl rfl rfl rfl rfl) (fun x => rfl) (by decide) fun dx tk L s₁ hdx hle S₁ => ?_
  have hx : (g.put (dx + 1) (instObj 625 dx)) (dx + 1) = some (instObj 625 dx) := Mem.put_self ..
  have hh := hr.hd
  walk_at "gg"
  refine set_field (by assumption) (St.gg (by assumption) _ _ hx) .nil (by omega) (by kernel_rfl) (by kernel_rfl) (by kernel_rfl) (by kernel_rfl) ?_; intro od₂ s₂ N₂ S₂
  walk_at "gg"
  refine set_field (by assumption) (St.gg (by assumption) _ _ hx) N₂ (by omega) (by kernel_rfl) (by kernel_rfl) (by kernel_rfl) (by kernel_rfl) ?_; intro od₃ s₃ N₃ S₃
  walk_at "gg"
  refine truthy_none ?_
  rw [if_neg (by decide)]
  walk_at "gg"
  rename_i S₄
  refine set_field S₄ (St.gg (by assumption) _ _ hx) N₃ (by omega) (by kernel_rfl) (by kernel_rfl) (by kernel_rfl) (by kernel_rfl) ?_; intro od₅ s₅ N₅ S₅
  walk_at "gg"
  refine truthy_none ?_
  rw [if_neg (by decide)]
  walk_at "gg"
  rw [str_root]
  refine newLstC (vs := [.str (S tRoot) _]) (by assumption) (by simp) ?_; intro sl s₆ S₆ hsl
  walk_at "gg"
  refine set_field S₆.swap (St.gg S₆ _ _ hx) N₅ (by omega) (by kernel_rfl) (by kernel_rfl) (by kernel_rfl) (by kernel_rfl) ?_; intro od₇ s₇ N₇ S₇
  walk_at "gg"
  have hsz : s.heap.objs.size ≤ ((s.heap.push emptyDict).push (instObj 625 dx)).objs.size := by
    rw [Heap.size_push, Heap.size_push]; exact Nat.le_add_right _ 2
  have hne : dx ≠ sl := by
    have := S₇.nd
    simp only [List.map_cons, List.nodup_cons, List.mem_cons, not_or] at this
    exact this.1.1
  refine h (dx + 1) dx sl od₇ _ 0 _ s₇ _ (made_open (t := tk) hg hdx S₇) (Nat.le_of_eq hdx.symm) (Nat.le_trans hsz hsl) hne S₇.cell0 (S₇.cell (List.mem_cons_of_mem _ (List.mem_cons_self ..))) (S₇.cc _ (List.mem_cons_self ..)).2.2.1 (S₇.cc (sl, lst _ 0) (List.mem_cons_of_mem _ (List.mem_cons_self ..))).2.2.1 (S₇.grow _ _ hx) (And.intro ⟨_, rfl⟩ trivial) N₇ ?_ ?_ (up_self _ _ _)
  · rw [up_ne _ (by decide), up_ne _ (by decide), up_self]; rfl
  · exact ⟨_, by rw [up_ne _ (by decide), up_self]⟩
end
end

-- PART F27 --
section
open PySem PySem.W PySem.Calls PyProof.Rows
section
variable {prog : Program} {w : World} {A : Around} {s : Shared} {g : Mem}
theorem ctx_get {E : Value → Shared → Prop} {s₀ : Shared} {g₀ : Mem} {X : List Addr} {L cx cdx : Addr} {m : Str → Option Value} {c : List (Addr × Obj)} {od : Obj} {k : Nat} {mm : Str → Option Value} {name : Str} {v : Value} {expr : Bool} {Q : Value → Shared → Prop} (S : St w s₀ g₀ X L m c g s) (hx : g cx = some (instObj 625 cdx)) (hm : (cdx, od) ∈ c) (N : NsO k od mm) (hl : mm name = some v) (hv : handedIn v = true) (hf : findIn (KK w) (.ref 625) name = some none)
    (h : ∀ s', St w s₀ g₀ X L m c g s' → Q v s') : wpAny (model prog w) A (getAttr (.ref cx) name expr) Q E s :=
  get_field S ⟨S.gg _ _ hx, S.cell hm⟩ (by kernel_rfl) (by kernel_rfl) hf ((N.look name).trans (congrArg some hl)) hv h
theorem St.last4 {s₀ : Shared} {g₀ : Mem} {X : List Addr} {L : Addr} {m : Str → Option Value} {c : List (Addr × Obj)} {p q r t : Addr × Obj} (S : St w s₀ g₀ X L m (p :: q :: r :: t :: c) g s) : St w s₀ g₀ X L m (t :: p :: q :: r :: c) g s :=
  S.cells (fun x h => by simp only [List.mem_cons] at h ⊢; rcases h with h | h | h | h | h <;> simp [h]) (by
    have := S.nd
    simp only [List.map_cons, List.nodup_cons, List.mem_cons, not_or] at this ⊢
    obtain ⟨⟨h1, h2, h3, h4⟩, ⟨h5, h6, h7⟩, ⟨h8, h9⟩, h10, h11⟩ := this
    exact ⟨⟨Ne.symm h3, Ne.symm h6, Ne.symm h8, h10⟩, ⟨h1, h2, h4⟩, ⟨h5, h7⟩, h9, h11⟩)
theorem St.unlast4 {s₀ : Shared} {g₀ : Mem} {X : List Addr} {L : Addr} {m : Str → Option Value} {c : List (Addr × Obj)} {p q r t : Addr × Obj} (S : St w s₀ g₀ X L m (t :: p :: q :: r :: c) g s) : St w s₀ g₀ X L m (p :: q :: r :: t :: c) g s := S.last4.last4.last4
def GW2 (prog : Program) (w : World) (t₁ Lg : Addr) (gC : Mem) (ks : List (T × List T)) (loud : Bool) (told : T) (t : Tok) (pd : Addr) (q : T) (p : Nat) (s₀ s : Shared) : Prop :=
  ∃ g₀ X m c g cx cdx od mm sl la n vs us tp te, St w s₀ g₀ X Lg m c g s ∧ GX t₁ Lg gC s₀ g₀ X ∧ Le gC g ∧ c = [(cdx, od), (sl, lst vs n)] ∧ All2 IsT vs (stackOf q) ∧ LstAt gC la us ∧ All2 (IsPRow gC loud) us (rulesOf ks q) ∧ hasT ks q = true ∧ p ≤ told.length ∧
    m "text" = some (.str (S told) t) ∧ m "tokendefs" = some (.ref pd) ∧ m "ctx" = some (.ref cx) ∧ m "statetokens" = some (.ref la) ∧
    g cx = some (instObj 625 cdx) ∧ NsO 4 od mm ∧ mm "pos" = some (.int (p : Int) tp) ∧ mm "end" = some (.int (told.length : Int) te) ∧ mm "stack" = some (.ref sl)
theorem gen644_spec (hr : Room A 1) (B : Base w g) (hg : Le g s.heap.get?) {C pr x : Addr} (LC : LexCls w C pr) {loud : Bool} {ks : List (T × List T)} {told : T} {t : Tok} {rows : List Row} (K : IsLexer prog w g C x loud (tableOf ks ks.length)) (H : Trie ks) (ho : KsOk ks) (ht : told.length ≤ 24) (hlex : Lex ks loud true told [] 0 rows)
    {R : Result → Shared → Prop} (h : ∀ Lg ga oL s' g' nm qn code, PostG s g s' g' → s.heap.objs.size ≤ Lg → s.heap.objs.size ≤ ga → g' Lg = none → s'.heap.get? Lg = some oL → g' ga = some (genO s.gens.size nm qn) → s'.gens = s.gens.push (.fresh code) → GenReady prog w 6 Lg oL code g' rows → R (.ok (.ret (.ref ga))) s') :
    codeAny (model prog w) A (.call (.ref 644) ⟨[.ref x, .str (S told) t], []⟩) R s := by
  refine gen_call (f := 644) [("self", .ref x), ("text", .str (S told) t), ("context", .none)] B hg rfl (by kernel_rfl) hr.lt (binds_K (B.mono hg).K rfl rfl rfl rfl rfl) rfl (by decide) fun Lg ga oL s' gC nm qn hP hLg hga hgL hoL hns hgen hgens => h Lg ga oL s' gC nm qn _ hP hLg hga hgL hoL hgen hgens fun A₁ s₁ t₁ hr₁ hC ho₁ ht₁ hLt hgt => ?_
  obtain ⟨dx, od, k, mm, pd, odp, I, N, hmp, hmn, hpd, Kp, hpm⟩ := id K
  have BC : Base w gC := B.mono hP.grow
  have S₁ : St w s₁ gC [Lg] Lg (lk [("self", .ref x), ("text", .str (S told) t), ("context", .none)]) [] gC s₁ := ⟨BC, hns _ ho₁, fun _ _ _ e => e, .inr (List.mem_cons_self ..), hC, fun _ _ e => e, fun _ _ => rfl, hgL, (fun _ h => nomatch h), .nil, rfl, rfl, Nat.le_refl _⟩
  have X₁ : GX t₁ Lg gC s₁ gC [Lg] := ⟨ht₁, fun b hb => .inl (List.mem_singleton.mp hb), fun _ _ e _ => e⟩
  refine ss_func ?_
  have hF : ∀ b e, Fine A₁ (.func b e) [] 5 := fun b e => fine_func hr₁
  have hh := hr₁.hd
  refine ss_plain ?_
  walk_at "gg"
  have I' := I.mono hP.grow
  have hgk := hP.grow
  refine get_field (v := .ref pd) (by assumption) (I'.mono (St.gg (by assumption))) LC.ga LC.hd (LC.own_get (by simp)).2 ((N.look "_tokens").trans (congrArg some hmp)) rfl ?_; intro s₂ S₂
  walk_at "gg"
  have Kp' : IsProc prog w gC loud odp (tableOf ks ks.length) := by
    obtain ⟨kvs, h1, h2⟩ := Kp
    exact ⟨kvs, h1, h2.mono fun _ _ x => ⟨x.1, x.2.mono hgk⟩⟩
  have hpd' := hgk _ _ hpd
  refine ss_plain ?_
  walk_at "gg"
  refine truthy_none ?_
  rw [if_pos (by decide)]
  walk_at "gg"
  refine c_fn (by assumption) (by kernel_rfl) ?_
  walk_at "gg"
  rename_i s₃ S₃
  refine St.kinH S₃ ?_
  refine wpAny_call (ctx_new ((hF _ _).2.2.mono (by omega)) S₃.baseG S₃.gg ht ?_)
  intro cx cdx sl odc mc nl vs s₄ g₄ P₄ hcd hsl hne hco hlo hcg hlg hcx hvs Nc hc1 hc2 hc3
  obtain ⟨te, hc2⟩ := hc2
  have S₄ := St.after S₃ P₄
  have hLs : Lg < s₃.heap.objs.size := S₃.lt
  have S₄ := (S₄.addCell (a := sl) (Nat.le_trans S₃.size hsl) hlo hlg (Nat.ne_of_gt (Nat.lt_of_lt_of_le hLs hsl)) (by intro p hp; cases hp)).addCell (a := cdx) (Nat.le_trans S₃.size hcd) hco hcg (Nat.ne_of_gt (Nat.lt_of_lt_of_le hLs hcd)) (by intro p hp; rcases List.mem_singleton.mp hp with rfl; exact Ne.symm hne)
  walk_at "gg"
  rw [str_root]
  obtain ⟨kvs, D, la, us, hv₁, hla, hus⟩ := proc_get Kp' ho (q := []) H.nil
  refine d_get (by assumption) (St.gg (by assumption) _ _ (P₄.grow _ _ hpd')) D hv₁ ?_; intro s₅ S₅
  walk_at "gg"
  rename_i s₅ S₅
  refine ss_while (hF _ _) fun fs' hF' => ?_
  refine lex_loop (ks := ks) (loud := loud) (wide := true) (told := told) (rows := rows) (GW2 prog w t₁ Lg gC ks loud told t pd) ?_ hlex (List.suffix_refl _)
    ⟨gC, _, _, _, g₄, cx, cdx, odc, mc, sl, la, nl, vs, us, _, te, S₅, X₁, P₄.grow, rfl, hvs, hla, hus, H.nil, Nat.zero_le _, by walk_at "lk", by walk_at "lk", by walk_at "lk", by walk_at "lk", hcx, Nc, hc1, hc2, hc3⟩
  rintro q p n s₀ s₆ ⟨g₀, X, m, c, g₆, cx, cdx, od, mm, sl, la, nl, vs, us, tp, te, S₆, X₆, hl₆, rfl, hvs, hla, hus, hq, hp, hm1, hm2, hm3, hm5, hcx, N, hn1, hn2, hn3⟩ hnx
  refine lp_while ?_
  walk_at "gg"
  refine truthyI ⟨rfl, ?_⟩
  refine ss_for hF' ?_
  walk_at "gg"
  refine it_lst (by assumption) (hla.mono hl₆) ?_; intro it oi s₇ S₇ hoi
  intro fs₂ hF₂
  have hul := hus.length
  have hIt : ∀ {A' : Around}, A'.handled = none → Iter prog w A' it us.length gC (fun i o => o.cls = .type "list_iterator" ∧ o.data = .fields #[.ref la, .int i 0]) (fun i v => us[i]? = some v) := fun hA => iter_lst hA hla
  refine idx_loop (N := us.length) (fun i s => ∃ g' m' oi, St w s₀ g₀ X Lg m' [(it, oi), (cdx, od), (sl, lst vs nl)] g' s ∧ (oi.cls = .type "list_iterator" ∧ oi.data = .fields #[.ref la, .int (i : Int) 0]) ∧ Le g₆ g' ∧ (∀ j r, j < i → (rulesOf ks q)[j]? = some r → hits told p r = false) ∧
    m' "text" = some (.str (S told) t) ∧ m' "tokendefs" = some (.ref pd) ∧ m' "ctx" = some (.ref cx) ∧ m' "statetokens" = some (.ref la)) ?_
    ⟨g₆, m, oi, S₇, hoi, Le.refl _, fun j r hj => absurd hj (Nat.not_lt_zero j), hm1, hm2, hm3, hm5⟩
  clear S₇ S₆ hoi hm1 hm2 hm3 hm5
  rintro i s₈ hi ⟨g₈, m₈, oi₈, S₈, hoi₈, hl₈', hno, hm1, hm2, hm3, hm4⟩ hmiss
  have hl₈ : Le gC g₈ := hl₆.trans hl₈'
  have hcx₈ := hl₈' _ _ hcx
  refine lp_for (next_it S₈ (hIt hF₂.2.2.hd) hoi₈ hl₈ hi (fun hlt v oi₉ s₉ hv hoi₉ S₉ => ?_) fun hend s₉ S₉ => ?_)
  · obtain ⟨r, hri, hrow⟩ := All2.get hus hv
    obtain ⟨a, fv, av, nv, rfl, htup, hmv, hcase⟩ := prow_parts hrow ((kText w).mono BC.kg) ((kEsc w).mono BC.kg) (fun c x nm e => by
      have hm := List.mem_of_getElem? hri
      rw [e] at hm
      unfold rulesOf at hm
      rcases List.mem_append.mp hm with hm | hm
      · obtain ⟨c', nm', _, _, e'⟩ := mem_steps hm
        cases e'; simp
      · have := List.mem_singleton.mp hm
        split at this <;> cases this)
    refine lo_other (St.cell0 S₉) hoi₉.1 hoi₉.2 (by decide) ?_
    refine as_triple S₉ hF₂.2.2.hd ((htup.mono hl₈).mono S₉.gg) ?_; intro s₁₀ S₁₀
    have hr₂ := hF₂.2.2
    obtain ⟨m₁₀, ⟨ha1, ha2, ha3, hb1, hb2, hb3, hb5⟩, T₁₀⟩ : ∃ m₁₀ : Str → Option Value, (m₁₀ "rexmatch" = some fv ∧ m₁₀ "action" = some av ∧ m₁₀ "new_state" = some nv ∧ m₁₀ "text" = some (.str (S told) t) ∧ m₁₀ "tokendefs" = some (.ref pd) ∧ m₁₀ "ctx" = some (.ref cx) ∧ m₁₀ "statetokens" = some (.ref la)) ∧ St w s₀ g₀ X Lg m₁₀ [(it, oi₉), (cdx, od), (sl, lst vs nl)] g₈ s₁₀ :=
      ⟨_, ⟨by walk_at "lk", by walk_at "lk", by walk_at "lk", by walk_at "lk", by walk_at "lk", by walk_at "lk", by walk_at "lk"⟩, S₁₀⟩
    clear S₁₀
    refine ss_plain ?_
    walk_at "gg"
    refine wp_mid (fun mv s' => ∃ g', Le g₈ g' ∧ St w s₀ g₀ X Lg m₁₀ [(it, oi₉), (cdx, od), (sl, lst vs nl)] g' s' ∧ ((hits told p r = true ∧ ((IsPM g' mv p [valOf told p r] ∧ ∃ nm, IsTok gC av nm ∧ tokOf loud r = some nm) ∨ (IsPs g' mv p ∧ av = .none ∧ tokOf loud r = none ∧ valOf told p r = []))) ∨ (hits told p r = false ∧ mv = .none))) ?_ ?_
    · skip
      rcases hcase with ⟨rws, nm, ⟨bq, pa, rfl, hbq, Kpl⟩, hfits, hwf, hrl, htk, htok⟩ | ⟨rfl, rfl, htok, hhit, hval⟩
      · refine c_bound (w := w) (self := .ref pa) (f := 712) (by kernel_rfl) ?_
        walk_at "gg"
        refine ctx_get T₁₀ hcx₈ (by simp) N hn1 rfl (by kernel_rfl) ?_; intro s₂₁ T₂₁
        walk_at "gg"
        refine ctx_get T₂₁ hcx₈ (by simp) N hn2 rfl (by kernel_rfl) ?_; intro s₂₂ T₂₂
        walk_at "gg"
        refine St.meth T₂₂ (hl₈ _ _ hbq) ?_
        refine call_bound T₂₂ (hl₈ _ _ hbq) ?_
        refine match_spec (hr₂.mono (by omega)) T₂₂.baseG T₂₂.gg (Kpl.mono hl₈) (.inr ⟨rfl, te, rfl⟩) hp (by omega) hwf hrl ?_
        intro mv s₁₁ g₁₁ P₁₁ hmv
        have S₁₁ := St.after T₂₂ P₁₁
        rw [hfits] at hmv
        refine ⟨g₁₁, P₁₁.grow, S₁₁, ?_⟩
        cases hh : hits told p r with
        | true => rw [hh] at hmv; exact .inl ⟨rfl, .inl ⟨hmv, nm, htk, htok⟩⟩
        | false => rw [hh] at hmv; exact .inr ⟨rfl, hmv⟩
      · refine c_fn T₁₀ (by kernel_rfl) ?_
        walk_at "gg"
        refine ctx_get T₁₀ hcx₈ (by simp) N hn1 rfl (by kernel_rfl) ?_; intro s₂₁ T₂₁
        walk_at "gg"
        refine ctx_get T₂₁ hcx₈ (by simp) N hn2 rfl (by kernel_rfl) ?_; intro s₂₂ T₂₂
        walk_at "gg"
        refine St.kinH T₂₂ ?_
        refine wpAny_call (nothing_spec (hr₂.mono (by omega)) T₂₂.baseG T₂₂.gg (.inr rfl) ?_)
        intro mv s₁₁ g₁₁ P₁₁ K₁₁
        have S₁₁ := St.after T₂₂ P₁₁
        exact ⟨g₁₁, P₁₁.grow, S₁₁, .inl ⟨hhit _ _, .inr ⟨K₁₁, rfl, htok, hval _ _⟩⟩⟩
    rintro mv s₁₁ ⟨g₁₁, hl₁₁, S₁₁, hres⟩
    walk_at "gg"
    rename_i s₁₂ S₁₂
    refine ss_if1 ?_
    refine wp_mid (fun b s' => b = hits told p r ∧ St w s₀ g₀ X Lg (up m₁₀ "m" mv) [(it, oi₉), (cdx, od), (sl, lst vs nl)] g₁₁ s') ?_ ?_
    · walk_at "gg"
      rcases hres with ⟨hh, ⟨Km, _⟩ | ⟨Km, _⟩⟩ | ⟨hh, rfl⟩
      · obtain ⟨ma, mdx, mod, _, _, rfl, Im, _⟩ := Km
        refine truthy_own S₁₂ (Im.mono S₁₂.gg) (by kernel_rfl) (by kernel_rfl) ⟨hh.symm, S₁₂⟩
      · obtain ⟨ma, mdx, mod, _, _, rfl, Im, _⟩ := Km
        refine truthy_own S₁₂ (Im.mono S₁₂.gg) (by kernel_rfl) (by kernel_rfl) ⟨hh.symm, S₁₂⟩
      · exact truthy_none ⟨hh.symm, S₁₂⟩
    rintro b s₁₃ ⟨rfl, S₁₃⟩
    have hl₁ := hl₈.trans hl₁₁
    have hcx₁ := hl₁₁ _ _ hcx₈
    cases hh : hits told p r with
    | false =>
      rw [if_neg (by decide)]
      refine ss_nil ?_
      refine hmiss hlt _ ⟨g₁₁, _, oi₉, S₁₃, hoi₉, hl₈'.trans hl₁₁, fun j r' hj hr' => ?_, by walk_at "lk", by walk_at "lk", by walk_at "lk", by walk_at "lk"⟩
      rcases Nat.lt_succ_iff_lt_or_eq.mp hj with hj | rfl
      · exact hno j r' hj hr'
      · rw [hri] at hr'; cases hr'; exact hh
    | true =>
      rw [if_pos rfl]
      have hfind : (rulesOf ks q).find? (hits told p) = some r := find_at hri hh hno
      have hturn := turn_hit (loud := loud) (wide := true) hfind
      have hpl := hit_len hh hp
      rcases hnx with ⟨hx, _⟩ | ⟨r₀, q', p', rs, hx, hsuf, hn, hgo⟩
      · rw [hturn] at hx; cases hx
      rw [hturn] at hx
      cases hx
      subst hn
      refine ss_if1_mid (fun n' s₀' s' => ∃ g₀' X' g' od' mm' tp', St w s₀' g₀' X' Lg (up m₁₀ "m" mv) [(it, oi₉), (cdx, od'), (sl, lst vs nl)] g' s' ∧ GX t₁ Lg gC s₀' g₀' X' ∧ Le g₁₁ g' ∧ n' = rs.length ∧ NsO 4 od' mm' ∧ mm' "pos" = some (.int ((p + (valOf told p r).length : Nat) : Int) tp') ∧ mm' "end" = some (.int (told.length : Int) te) ∧ mm' "stack" = some (.ref sl)) ?_ ?_
      · skip
        walk_at "gg"
        rcases hres with ⟨_, ⟨Km, nm, htk, htok⟩ | ⟨_, rfl, htok, hval⟩⟩ | ⟨hh', _⟩
        · have hav : (!av == Value.none) = true := by
            obtain ⟨ta, _, _, _, rfl, _⟩ := htk; rfl
          rw [if_pos hav]
          have htell : tellOf told p loud r = [⟨p, nm, valOf told p r⟩] := by unfold tellOf; rw [htok]
          rw [htell] at hsuf ⊢
          refine ss_if_mid ?_
          walk_at "gg"
          obtain ⟨ta, tdx, tod, tnv, rfl, It, Nt, _⟩ := id htk
          refine type_own ((It.mono (hl₁)).mono S₁₃.gg) ?_
          walk_at "gg"
          refine wpAny_is_ref_self ?_
          walk_at "gg"
          refine ss_yield hF₂ ?_
          walk_at "gg"
          refine ctx_get S₁₃ hcx₁ (by simp) N hn1 rfl (by kernel_rfl) ?_; intro s₃₁ S₃₁
          walk_at "gg"
          obtain ⟨ma, mdx, mod, mt, mpv, rfl, Im, Nm, Km'⟩ := id Km
          refine get_meth (f := 685) S₃₁ (Im.mono S₃₁.gg) (by kernel_rfl) (by kernel_rfl) (by kernel_rfl) (by kernel_rfl) ((Nm.look "group").trans (congrArg some ((up_ne _ (by decide)).trans (up_ne _ (by decide))))) ?_
          walk_at "gg"
          refine c_fm0 S₃₁ (by kernel_rfl) ?_
          refine wpAny_call (flat_group (hr₂.mono (by omega)) S₃₁.baseG S₃₁.gg Km (by simp) (by have := hpl; simp; omega) ?_)
          intro tv s₁₄ P₁₄
          have S₁₄ := St.after S₃₁ P₁₄
          walk_at "gg"
          refine newRow (gC := gC) (t₁ := t₁) (r := ⟨p, nm, valOf told p r⟩) S₁₄ X₆.size rfl htk (by rw [List.flatten_cons, List.flatten_nil, List.append_nil]; exact ⟨_, rfl⟩) ?_
          intro rv g₁₅ s₁₅ hl₁₅ S₁₅ hrow₁₅
          intro kap hk
          refine g_yield X₆ S₁₅ (fun z hz => ?_) (row_idx hsuf) hrow₁₅ (fun s₁₆ S₁₆ X₁₆ => ?_) hk
          · rcases List.mem_cons.mp hz with rfl | hz
            · rw [hoi₉.1]; decide
            · rcases List.mem_cons.mp hz with rfl | hz
              · exact N.cls
              · rcases List.mem_singleton.mp hz with rfl
                exact (by decide : (Value.type "list" : Value) ≠ .type "tuple")
          · refine ss_plain ?_
            walk_at "gg"
            refine get_meth (f := 679) S₁₆ ((Im.mono hl₁₅).mono S₁₆.gg) (by kernel_rfl) (by kernel_rfl) (by kernel_rfl) (by kernel_rfl) ((Nm.look "end").trans (congrArg some ((up_ne _ (by decide)).trans (up_ne _ (by decide))))) ?_
            walk_at "gg"
            refine c_fm0 S₁₆ (by kernel_rfl) ?_
            refine wpAny_call (end_spec (hr₂.mono (by omega)) S₁₆.baseG S₁₆.gg (Km.mono hl₁₅) (by simp) (by have := hpl; simp; omega) ?_)
            intro tv₂ s₁₈ P₁₈
            have S₁₈ := St.after S₁₆ P₁₈
            walk_at "gg"
            refine set_same S₁₈.swap (S₁₈.gg _ _ (hl₁₅ _ _ hcx₁)) N (by omega) (by rw [hn1]; rfl) (by kernel_rfl) (by kernel_rfl) (by kernel_rfl) (by kernel_rfl) ?_; intro od₁₉ s₁₉ N₁₉ S₁₉
            walk_at "gg"
            refine ss_nil ?_
            refine ss_nil ?_
            refine ⟨rfl, _, _, g₁₅, od₁₉, _, tv₂, S₁₉.swap, X₁₆, hl₁₅, by simp, N₁₉, ?_, ?_, ?_⟩
            · rw [up_self, List.flatten_cons, List.flatten_nil, List.append_nil]
            · rw [up_ne _ (by decide)]; exact hn2
            · rw [up_ne _ (by decide)]; exact hn3
        · rw [if_neg (by decide)]
          have htell : tellOf told p loud r = [] := by unfold tellOf; rw [htok]
          exact ⟨g₀, X, g₁₁, od, mm, tp, S₁₃, X₆, Le.refl _, by rw [htell]; rfl, N, by rw [hval, List.length_nil, Nat.add_zero]; exact hn1, hn2, hn3⟩
        · rw [hh] at hh'; cases hh'
      · rintro n' s₀' s₁₇ ⟨g₀', X', g₁₇, od₁₇, mm₁₇, tp', S₁₇, X₁₇, hl₁₇, rfl, N₁₇, hk1, hk2, hk3⟩
        have hlC : Le gC g₁₇ := hl₁.trans hl₁₇
        have hcx₁₇ := hl₁₇ _ _ hcx₁
        obtain ⟨hmvh, hmvq⟩ := rule_move H (List.mem_of_getElem? hri)
        refine ss_plain ?_
        refine wp_mid (fun f s' => f = .next ∧ ∃ g' m' la' n' vs' us', St w s₀' g₀' X' Lg m' [(it, oi₉), (cdx, od₁₇), (sl, lst vs' n')] g' s' ∧ Le g₁₇ g' ∧ All2 IsT vs' (stackOf ((moveOf r).getD q)) ∧ LstAt gC la' us' ∧ All2 (IsPRow gC loud) us' (rulesOf ks ((moveOf r).getD q)) ∧ hasT ks ((moveOf r).getD q) = true ∧
          m' "text" = some (.str (S told) t) ∧ m' "tokendefs" = some (.ref pd) ∧ m' "ctx" = some (.ref cx) ∧ m' "statetokens" = some (.ref la')) ?_ ?_
        · skip
          walk_at "gg"
          cases hmo : moveOf r with
          | none =>
            rw [hmo] at hmv
            have hmv : nv = .none := hmv
            subst hmv
            rw [if_neg (by decide)]
            walk_at "gg"
            exact ⟨g₁₇, _, la, nl, vs, us, S₁₇, Le.refl _, hvs, hla, hus, hq, by walk_at "lk", by walk_at "lk", by walk_at "lk", by walk_at "lk"⟩
          | some x =>
            rw [hmo] at hmv hmvh hmvq
            have hmv : IsNS gC nv x := hmv
            have hhx := hmvh x rfl
            by_cases hx : x = []
            · unfold IsNS at hmv
              rw [if_pos hx] at hmv
              obtain ⟨tn, rfl⟩ := hmv
              have hqn := hmvq (by rw [hx])
              rw [if_pos (show (!Value.int (-1) tn == Value.none) = true from rfl)]
              walk_at "gg"
              refine isinst_int S₁₇ (b := false) (by kernel_rfl) ?_; intro s₁₉ S₁₉
              walk_at "gg"
              rw [if_neg (by decide)]
              walk_at "gg"
              refine isinst_int S₁₉ (b := true) (by kernel_rfl) ?_; intro s₂₀ S₂₀
              walk_at "gg"
              rw [if_pos (by decide)]
              walk_at "gg"
              unfold stackOf at hvs
              rw [if_neg hqn] at hvs
              obtain ⟨v1, v2, rfl, hv1, hv2⟩ : ∃ v1 v2, vs = [v1, v2] ∧ IsT v1 tRoot ∧ IsT v2 (113 :: q) := all2_two hvs
              refine absI S₂₀ ?_; intro ta s₂₁ S₂₁
              walk_at "gg"
              refine ctx_get S₂₁ hcx₁₇ (by simp) N₁₇ hk3 rfl (by kernel_rfl) ?_; intro s₃₂ S₃₂
              walk_at "gg"
              refine len_list (vs := [v1, v2]) S₃₂ ⟨lst [v1, v2] nl, S₃₂.cell (by simp), lst_is _ _⟩ (by simp) ?_; intro tl s₂₂ S₂₂
              walk_at "gg"
              rw [if_neg (by simp)]
              refine s_del ?_
              walk_at "gg"
              refine ctx_get S₂₂ hcx₁₇ (by simp) N₁₇ hk3 rfl (by kernel_rfl) ?_; intro s₃₃ S₃₃
              walk_at "gg"
              refine del_last2 S₃₃.rot ?_; intro n₂₃ s₂₃ S₂₃
              walk_at "gg"
              refine ctx_get S₂₃.unrot hcx₁₇ (by simp) N₁₇ hk3 rfl (by kernel_rfl) ?_; intro s₃₄ S₃₄
              walk_at "gg"
              obtain ⟨tv1, rfl⟩ := hv1
              rename_i S₂₃'
              refine item_last (vs := [.str (S tRoot) tv1]) S₂₃' ⟨lst _ n₂₃, S₂₃'.cell (by simp), lst_is _ _⟩ rfl ?_
              obtain ⟨kvs, D, la', us', hv', hla', hus'⟩ := proc_get Kp' ho (q := []) H.nil
              refine d_get S₂₃' (S₂₃'.gg _ _ (hlC _ _ hpd')) D hv' ?_; intro s₂₄ S₂₄
              walk_at "gg"
              rename_i s₂₅ S₂₅
              subst hx
              exact ⟨g₁₇, _, la', n₂₃, _, us', S₂₅, Le.refl _, ⟨⟨_, rfl⟩, trivial⟩, hla', hus', H.nil, by walk_at "lk", by walk_at "lk", by walk_at "lk", by walk_at "lk"⟩
            · unfold IsNS at hmv
              rw [if_neg hx] at hmv
              obtain ⟨na, nvs, rfl, hnt, hnv⟩ := hmv
              obtain ⟨w1, w2, rfl, hw1, hw2⟩ := all2_two hnv
              rw [if_pos (show (!Value.ref na == Value.none) = true from rfl)]
              walk_at "gg"
              refine isinst_tup S₁₇ ((hnt.mono hlC).mono S₁₇.gg) (b := true) (by kernel_rfl) ?_; intro s₁₉ S₁₉
              walk_at "gg"
              rw [if_pos rfl]
              walk_at "gg"
              refine it_tup S₁₉ (hnt.mono hlC) ?_; intro it₂ o₂ s₂₀ S₂₀ ho₂
              refine for_iter S₂₀ ho₂ (Le.refl _) (iter_tup (A := A₁.over _ _) hr₂.hd (hnt.mono hlC)) (fun i g' m' c' => (∃ n' vs', c' = [(it, oi₉), (cdx, od₁₇), (sl, lst vs' n')] ∧ All2 IsT vs' (if i = 0 then stackOf q else if i = 1 then [tRoot] else [tRoot, 113 :: x])) ∧
                m' "text" = some (.str (S told) t) ∧ m' "tokendefs" = some (.ref pd) ∧ m' "ctx" = some (.ref cx)) ⟨⟨nl, vs, rfl, hvs⟩, by walk_at "lk", by walk_at "lk", by walk_at "lk"⟩ ?_ ?_
              · rintro j g' m' c' s₂₁ o₃ v E' hj hvj hle ⟨⟨n', vs', rfl, hvs'⟩, e1, e2, e3⟩ S₂₁
                have hcx' := hle _ _ hcx₁₇
                have hj2 : j < 2 := hj
                rcases (by omega : j = 0 ∨ j = 1) with rfl | rfl
                · obtain ⟨tw, rfl⟩ := hw1
                  obtain rfl : _ = v := by simpa using hvj
                  walk_at "gg"
                  rw [str_pop]
                  refine eqS ?_
                  walk_at "gg"
                  rw [if_pos (by simp)]
                  by_cases hq0 : q = []
                  · obtain ⟨v1, rfl, hv1⟩ : ∃ v1, vs' = [v1] ∧ IsT v1 tRoot := by
                      rw [if_pos rfl] at hvs'
                      unfold stackOf at hvs'
                      rw [if_pos hq0] at hvs'
                      exact all2_one hvs'
                    walk_at "gg"
                    rename_i S₂₂
                    refine ctx_get S₂₂ hcx' (by simp) N₁₇ hk3 rfl (by kernel_rfl) ?_; intro s₃₂ S₃₂
                    walk_at "gg"
                    refine len_list (vs := [v1]) S₃₂ ⟨lst [v1] n', S₃₂.cell (by simp), lst_is _ _⟩ (by simp) ?_; intro tl s₂₃ S₂₃
                    walk_at "gg"
                    rw [if_neg (by simp)]
                    walk_at "gg"
                    exact ⟨g', _, _, hle, by assumption, ⟨n', [v1], rfl, hv1, trivial⟩, by walk_at "lk", by walk_at "lk", by walk_at "lk"⟩
                  · obtain ⟨v1, v2, rfl, hv1, hv2⟩ : ∃ v1 v2, vs' = [v1, v2] ∧ IsT v1 tRoot ∧ IsT v2 (113 :: q) := by
                      rw [if_pos rfl] at hvs'
                      unfold stackOf at hvs'
                      rw [if_neg hq0] at hvs'
                      exact all2_two hvs'
                    walk_at "gg"
                    rename_i S₂₂
                    refine ctx_get S₂₂ hcx' (by simp) N₁₇ hk3 rfl (by kernel_rfl) ?_; intro s₃₂ S₃₂
                    walk_at "gg"
                    refine len_list (vs := [v1, v2]) S₃₂ ⟨lst [v1, v2] n', S₃₂.cell (by simp), lst_is _ _⟩ (by simp) ?_; intro tl s₂₃ S₂₃
                    walk_at "gg"
                    rw [if_pos (by simp)]
                    refine s_exprA ?_
                    walk_at "gg"
                    rename_i S₂₄
                    refine ctx_get S₂₄ hcx' (by simp) N₁₇ hk3 rfl (by kernel_rfl) ?_; intro s₃₃ S₃₃
                    refine gm_pop (vs := [v1, v2]) (n := n') S₃₃ (by simp) ?_
                    refine c_pop2 S₃₃.last4 ?_; intro n₂₅ s₂₅ S₂₅
                    walk_at "gg"
                    exact ⟨g', _, _, hle, S₂₅.unlast4, ⟨n₂₅, [v1], rfl, hv1, trivial⟩, by walk_at "lk", by walk_at "lk", by walk_at "lk"⟩
                · obtain ⟨tw, rfl⟩ := hw2
                  obtain rfl : _ = v := by simpa using hvj
                  obtain ⟨v1, rfl, hv1⟩ : ∃ v1, vs' = [v1] ∧ IsT v1 tRoot := all2_one hvs'
                  walk_at "gg"
                  rw [str_pop]
                  refine eqS ?_
                  walk_at "gg"
                  rw [if_neg (by simp [tPop])]
                  walk_at "gg"
                  rw [str_push]
                  refine eqS ?_
                  walk_at "gg"
                  rw [if_neg (by simp [tPush])]
                  walk_at "gg"
                  rename_i S₂₂
                  refine ctx_get S₂₂ hcx' (by simp) N₁₇ hk3 rfl (by kernel_rfl) ?_; intro s₃₂ S₃₂
                  refine gm_append (vs := [v1]) (n := n') S₃₂ (by simp) ?_
                  walk_at "gg"
                  refine append0 (vs := [v1]) (n := n') S₃₂.last4 (by simp) ?_; intro n₂₅ s₂₅ S₂₅
                  walk_at "gg"
                  exact ⟨g', _, _, hle, S₂₅.unlast4, ⟨_, [v1, .str (S (113 :: x)) tw], rfl, hv1, ⟨_, rfl⟩, trivial⟩, by walk_at "lk", by walk_at "lk", by walk_at "lk"⟩
              · rintro g' m' c' s₂₁ E' hle ⟨⟨n', vs', rfl, hvs'⟩, e1, e2, e3⟩ S₂₁
                have hcx' := hle _ _ hcx₁₇
                obtain ⟨v1, v2, rfl, hv1, hv2⟩ : ∃ v1 v2, vs' = [v1, v2] ∧ IsT v1 tRoot ∧ IsT v2 (113 :: x) := all2_two hvs'
                obtain ⟨tv2, rfl⟩ := hv2
                walk_at "gg"
                refine ctx_get S₂₁ hcx' (by simp) N₁₇ hk3 rfl (by kernel_rfl) ?_; intro s₃₂ S₃₂
                walk_at "gg"
                rename_i S₂₂
                refine item_last S₂₂ ⟨lst [v1, .str (S (113 :: x)) tv2] n', S₂₂.cell (by simp), lst_is _ _⟩ rfl ?_
                obtain ⟨kvs, D, la', us', hv', hla', hus'⟩ := proc_get Kp' ho hhx
                unfold stName at hv'
                rw [if_neg hx] at hv'
                refine d_get S₂₂ (S₂₂.gg _ _ (hle _ _ (hlC _ _ hpd'))) D hv' ?_; intro s₂₃ S₂₃
                walk_at "gg"
                rename_i S₂₄
                exact ⟨g', _, la', n', _, us', S₂₄, hle, by unfold stackOf; rw [Option.getD_some, if_neg hx]; exact ⟨hv1, ⟨_, rfl⟩, trivial⟩, hla', hus', hhx, by walk_at "lk", by walk_at "lk", by walk_at "lk", by walk_at "lk"⟩
        · rintro f s₁₉ ⟨rfl, g', m', la', n', vs', us', S₁₉, hl₁₉, hvs', hla', hus', hq', e1, e2, e3, e5⟩
          dsimp only
          refine ss_break ?_
          refine ss_nil ?_
          exact hgo _ _ ⟨g₀', X', m', _, g', cx, cdx, od₁₇, mm₁₇, sl, la', n', vs', us', tp', te, S₁₉.drop, X₁₇, hlC.trans hl₁₉, rfl, hvs', hla', hus', hq', hpl, e1, e2, e3, e5, hl₁₉ _ _ hcx₁₇, N₁₇, hk1, hk2, hk3⟩
  · have hfind : (rulesOf ks q).find? (hits told p) = none := by
      rw [List.find?_eq_none]
      intro r' hr'
      obtain ⟨j, hj⟩ := List.mem_iff_getElem?.mp hr'
      have hjl : j < (rulesOf ks q).length := by
        rcases Nat.lt_or_ge j (rulesOf ks q).length with z | z
        · exact z
        · rw [List.getElem?_eq_none z] at hj; cases hj
      rw [hno j r' (by omega) hj]; simp
    have hturn := turn_miss (loud := loud) (wide := true) hfind
    refine ss_if1 ?_
    walk_at "gg"
    refine ctx_get S₉ hcx₈ (by simp) N hn1 rfl (by kernel_rfl) ?_; intro s₂₁ S₂₁
    walk_at "gg"
    refine ctx_get S₂₁ hcx₈ (by simp) N hn2 rfl (by kernel_rfl) ?_; intro s₂₂ S₂₂
    walk_at "gg"
    refine min2 (by assumption) (by exact hF₂.2.2.hd) ?_; intro _ _ _
    walk_at "gg"
    split
    · rename_i s₁₀ S₁₀ hge
      have hpe : p = told.length := by have := of_decide_eq_true hge; omega
      have hn0 : told[p]? = none := List.getElem?_eq_none (by omega)
      rw [hn0] at hturn
      rcases hnx with ⟨_, rfl⟩ | ⟨r₀, q', p', rs, hx, _⟩
      · refine ss_break ?_
        refine ss_nil ?_
        exact ⟨rfl, rfl, X₆.keep S₁₀, S₁₀.gens⟩
      · rw [hturn] at hx; cases hx
    · rename_i s₁₀ S₁₀ hge
      have hlt : p < told.length := by
        rcases Nat.lt_or_ge p told.length with z | z
        · exact z
        · exact absurd (decide_eq_true (by omega)) hge
      obtain ⟨ch, hch⟩ : ∃ ch, told[p]? = some ch := ⟨_, List.getElem?_eq_getElem hlt⟩
      rw [hch] at hturn
      rcases hnx with ⟨hx, _⟩ | ⟨r₀, q', p', rs, hx, hsuf, hn, hgo⟩
      · rw [hturn] at hx; dsimp only at hx; split at hx <;> cases hx
      rw [hturn] at hx
      dsimp only at hx
      subst hn
      refine ss_if1 ?_
      walk_at "gg"
      refine ctx_get S₁₀ hcx₈ (by simp) N hn1 rfl (by kernel_rfl) ?_; intro s₂₃ S₂₃
      refine item_str S₂₃ (by omega) (by omega) (by rw [Int.toNat_natCast]; exact hch) ?_; intro tc s₁₁ S₁₁
      walk_at "gg"
      rw [str_nl]
      refine eqS ?_
      walk_at "gg"
      by_cases hc10 : ch = 10
      · rw [if_pos hc10] at hx
        cases hx
        subst hc10
        rw [if_pos (by simp)]
        refine ss_plain ?_
        walk_at "gg"
        refine newLstC (vs := [.str (S tRoot) _]) (by assumption) (by simp) ?_; intro sl₂ s₁₂ S₁₂ hsl₂
        walk_at "gg"
        refine set_same S₁₂.swap (S₁₂.gg _ _ hcx₈) N (by omega) (by rw [hn3]; rfl) (by kernel_rfl) (by kernel_rfl) (by kernel_rfl) (by kernel_rfl) ?_; intro od₂₄ s₂₄ N₂₄ S₂₄
        walk_at "gg"
        refine ss_plain ?_
        walk_at "gg"
        obtain ⟨kvs, D, la', us', hv', hla', hus'⟩ := proc_get Kp' ho (q := []) H.nil
        refine d_get (by assumption) (St.gg (by assumption) _ _ (hl₈ _ _ hpd')) D hv' ?_; intro s₁₃ S₁₃
        walk_at "gg"
        refine ss_yield (hF₂.same rfl rfl) ?_
        walk_at "gg"
        rename_i S₂₅
        refine ctx_get S₂₅ hcx₈ (by simp) N₂₄ (by rw [up_ne _ (by decide)]; exact hn1) rfl (by kernel_rfl) ?_; intro s₂₆ S₂₆
        walk_at "gg"
        rename_i S₁₄
        refine newRow (gC := gC) (t₁ := t₁) (r := ⟨p, nlOf true, [10]⟩) S₁₄ X₆.size rfl ((kText w).mono BC.kg) ⟨_, rfl⟩ ?_
        intro rv g₁₅ s₁₅ hl₁₅ S₁₅ hrow₁₅
        intro kap hk
        refine g_yield X₆ S₁₅ (fun z hz => ?_) (row_idx hsuf) hrow₁₅ (fun s₁₆ S₁₆ X₁₆ => ?_) hk
        · rcases List.mem_cons.mp hz with rfl | hz
          · exact N₂₄.cls
          · rcases List.mem_cons.mp hz with rfl | hz
            · exact (by decide : (Value.type "list" : Value) ≠ .type "tuple")
            · rcases List.mem_singleton.mp hz with rfl
              exact (by decide : (Value.type "list" : Value) ≠ .type "tuple")
        · refine ss_plain ?_
          refine s_augattr ?_
          walk_at "gg"
          refine ctx_get S₁₆ (hl₁₅ _ _ hcx₈) (by simp) N₂₄ (by rw [up_ne _ (by decide)]; exact hn1) rfl (by kernel_rfl) ?_; intro s₂₇ S₂₇
          walk_at "gg"
          refine iadd_i (by assumption) ?_; intro _ _ S₂₈
          refine set_same S₂₈ (S₂₈.gg _ _ (hl₁₅ _ _ hcx₈)) N₂₄ (by omega) (by rw [up_ne _ (by decide), hn1]; rfl) (by kernel_rfl) (by kernel_rfl) (by kernel_rfl) (by kernel_rfl) ?_; intro od₂₉ s₂₉ N₂₉ S₂₉
          walk_at "gg"
          refine ss_continue ?_
          refine hgo _ _ ⟨_, _, _, _, g₁₅, cx, cdx, od₂₉, _, sl₂, la', _, _, us', _, te, S₂₉.rot.drop, X₁₆, hl₈.trans hl₁₅, rfl, ⟨?_, trivial⟩, hla', hus', H.nil, hlt, by walk_at "lk", by walk_at "lk", by walk_at "lk", by walk_at "lk", hl₁₅ _ _ hcx₈, N₂₉, up_self _ _ _, ?_, ?_⟩
          · exact ⟨_, rfl⟩
          · rw [up_ne _ (by decide), up_ne _ (by decide)]; exact hn2
          · rw [up_ne _ (by decide), up_self]
      · rw [if_neg hc10] at hx
        cases hx
        rw [if_neg (by simp [hc10])]
        refine ss_yield (hF₂.same rfl rfl) ?_
        walk_at "gg"
        rename_i S₁₂
        refine ctx_get S₁₂ hcx₈ (by simp) N hn1 rfl (by kernel_rfl) ?_; intro s₂₆ S₂₆
        walk_at "gg"
        refine ctx_get S₂₆ hcx₈ (by simp) N hn1 rfl (by kernel_rfl) ?_; intro s₂₇ S₂₇
        refine item_str S₂₇ (by omega) (by omega) (by rw [Int.toNat_natCast]; exact hch) ?_; intro tc₂ s₁₃ S₁₃
        walk_at "gg"
        refine newRow (gC := gC) (t₁ := t₁) (r := ⟨p, [tError], [ch]⟩) S₁₃ X₆.size rfl ((kError w).mono BC.kg) ⟨_, rfl⟩ ?_
        intro rv g₁₅ s₁₅ hl₁₅ S₁₅ hrow₁₅
        intro kap hk
        refine g_yield X₆ S₁₅ (fun z hz => ?_) (row_idx hsuf) hrow₁₅ (fun s₁₆ S₁₆ X₁₆ => ?_) hk
        · rcases List.mem_cons.mp hz with rfl | hz
          · exact N.cls
          · rcases List.mem_singleton.mp hz with rfl
            exact (by decide : (Value.type "list" : Value) ≠ .type "tuple")
        · refine ss_plain ?_
          refine s_augattr ?_
          walk_at "gg"
          refine ctx_get S₁₆ (hl₁₅ _ _ hcx₈) (by simp) N hn1 rfl (by kernel_rfl) ?_; intro s₂₈ S₂₈
          walk_at "gg"
          refine iadd_i (by assumption) ?_; intro _ _ S₂₉
          refine set_same S₂₉ (S₂₉.gg _ _ (hl₁₅ _ _ hcx₈)) N (by omega) (by rw [hn1]; rfl) (by kernel_rfl) (by kernel_rfl) (by kernel_rfl) (by kernel_rfl) ?_; intro od₃₀ s₃₀ N₃₀ S₃₀
          walk_at "gg"
          refine ss_nil ?_
          refine ss_nil ?_
          refine hgo _ _ ⟨_, _, _, _, g₁₅, cx, cdx, od₃₀, _, sl, la, _, _, us, _, te, S₃₀, X₁₆, hl₈.trans hl₁₅, rfl, hvs, hla, hus, hq, hlt, by walk_at "lk", by walk_at "lk", by walk_at "lk", by walk_at "lk", hl₁₅ _ _ hcx₈, N₃₀, up_self _ _ _, ?_, ?_⟩
          · rw [up_ne _ (by decide)]; exact hn2
          · rw [up_ne _ (by decide)]; exact hn3
end
end

-- PART F28 --
section
open PySem PySem.W PySem.Calls PyProof.Rows
section
variable {prog : Program} {w : World} {A : Around} {E : Value → Shared → Prop} {R : Result → Shared → Prop} {s₀ s s' : Shared} {g₀ g g' gC : Mem} {X : List Addr} {L Lg t₁ : Addr} {m m' : Str → Option Value} {c c' : List (Addr × Obj)} {env : Env} {rows : List Row} {gi i : Nat}
theorem St.regens (S : St w s₀ g₀ X L m c g s) (gens : Array GenState) : St w { s₀ with gens := gens } g₀ X L m c g { s with gens := gens } := ⟨S.base, S.ns, S.keep, S.above, S.gg, S.grow, S.low, S.gL, S.cc, S.nd, rfl, S.os, S.size⟩
theorem St.root (S : St w s₀ g₀ X L m c g s) : St w s g (L :: c.map (·.1)) L m c g s :=
  ⟨S.baseG, S.ns, fun _ _ _ e => e, .inr (List.mem_cons_self ..), S.gg, fun _ _ e => e, fun _ _ => rfl, S.gL, fun p hp => ⟨(S.cc p hp).1, (S.cc p hp).2.1, (S.cc p hp).2.2.1, .inr (List.mem_cons_of_mem _ (List.mem_map_of_mem hp))⟩, S.nd, rfl, rfl, Nat.le_refl _⟩
theorem St.trans (S : St w s₀ g₀ X L m c g s) (T : St w s g (L :: c.map (·.1)) L m' c' g' s') (hc : c'.map (·.1) = c.map (·.1)) : St w s₀ g₀ X L m' c' g' s' := by
  refine ⟨S.base, T.ns, fun b o hb e => T.keep b o (fun hm => ?_) (S.keep b o hb e), S.above, T.gg, fun b o e => T.grow _ _ (S.grow _ _ e), fun b hb => ?_, T.gL, fun p hp => ?_, T.nd, T.gens.trans S.gens, T.os.trans S.os, Nat.le_trans S.size T.size⟩
  · have hlt := Heap.lt_size e
    rcases List.mem_cons.mp hm with rfl | hm
    · rcases S.above with z | z
      · exact absurd hlt (Nat.not_lt.mpr z)
      · exact hb z
    · obtain ⟨p, hp, rfl⟩ := List.mem_map.mp hm
      rcases (S.cc p hp).2.2.2 with z | z
      · exact absurd hlt (Nat.not_lt.mpr z)
      · exact hb z
  · rw [T.low b (Nat.lt_of_lt_of_le hb S.size)]; exact S.low b hb
  · have z := T.cc p hp
    have : p.1 ∈ c.map (·.1) := hc ▸ List.mem_map_of_mem hp
    obtain ⟨q, hq, e⟩ := List.mem_map.mp this
    have z2 := (S.cc q hq).2.2.2
    rw [e] at z2
    exact ⟨z.1, z.2.1, z.2.2.1, z2⟩
theorem GAt.frame' (G : GAt prog w A gi t₁ Lg gC rows i s) (hg : s'.gens = s.gens) (hk : ∀ b o, b = Lg ∨ t₁ ≤ b → s.heap.get? b = some o → s'.heap.get? b = some o) (hz : s.heap.objs.size ≤ s'.heap.objs.size) : GAt prog w A gi t₁ Lg gC rows i s' :=
  let ⟨gs, h1, h2⟩ := G
  ⟨gs, by rw [hg]; exact h1, fun s'' hc => h2 s'' ⟨fun b o hb e => hc.1 b o hb (hk b o hb e), hc.2.1, Nat.le_trans hz hc.2.2⟩⟩
theorem comp_frameG {ga : Addr} {elt target iter : Expr} {ifs : List Expr} {scope : Scope} {cl : List (Str × Addr)} {pos : Pos} {Q : Value → Shared → Prop} {it : Addr} {o : Obj} (S : St w s₀ g₀ X L m ((it, o) :: c) g s)
    (hself : ∀ (s' : Shared) (Q' E' : Value → Shared → Prop), Le g s'.heap.get? → Q' (.ref ga) s' → wpAny (model prog w) A (pyIter (.ref ga)) Q' E' s')
    (hcell : ∀ y ∈ scope.names, y.2 ≠ .cell) (hkind : scope.kind = .function)
    (h : ∀ C D s₃, s.heap.objs.size ≤ C → s.heap.objs.size ≤ D → St w s g [it] C (fun _ => none) [(D, lst [] 0), (it, o)] g s₃ → codeAny (model prog w) A (.compLoop (.ListComp elt [⟨target, iter, ifs, 0⟩] scope pos) 0 (.ref ga) (.ref D) (compEnvC scope cl C env))
      (fun r s' => r = .ok .next ∧ ∃ m' n vs g', St w { s with gens := s'.gens } g [it] C m' [(D, lst vs n)] g' s' ∧ ∀ s'' g'', Le g' g'' → s''.gens = s'.gens → Post [it] { s with gens := s''.gens } g s'' g'' → LstAt g'' D vs → Q (.ref D) s'') s₃) :
    CompGo prog w A E env elt target iter ifs scope cl pos Q (.ref ga) s := by
  unfold CompGo
  refine wpAny_newObj_type (wpAny_newFunctionEnv hcell (by intro y hy; simp at hy) (fun h₁ hns₁ hsb₁ => ?_) hkind)
  have hit := S.cc (it, o) (List.mem_cons_self ..)
  have hitlt := Heap.lt_size hit.1
  have hC : (s.heap.push { cls := .type "list", dict := none, data := .seq ([] : List Value).toArray }).objs.size = s.heap.objs.size + 1 := Heap.size_push ..
  have k : ∀ b o, (s.heap.push { cls := .type "list", dict := none, data := .seq ([] : List Value).toArray }).get? b = some o → h₁.get? b = some o := fun b o e =>
    hsb₁.extBut b o (Nat.ne_of_lt (Heap.lt_size e)) (Heap.get?_push_of_some _ e)
  have k0 : ∀ b o, s.heap.get? b = some o → h₁.get? b = some o := fun b o e => k b o (Heap.get?_push_of_some _ e)
  have SC : St w s g [it] (s.heap.push { cls := .type "list", dict := none, data := .seq ([] : List Value).toArray }).objs.size (fun _ => none) [(s.heap.objs.size, lst [] 0), (it, o)] g { s with heap := h₁, toks := s.toks + ([] : List (Str × Value)).length } := by
    refine ⟨S.baseG, hns₁, fun b o _ e => k0 b o e, .inl (by rw [hC]; exact Nat.le_succ _), fun b o e => k0 b o (S.gg b o e), fun _ _ e => e, fun _ _ => rfl, S.none_at ?_, fun p hp => ?_, ?_, rfl, rfl, ?_⟩
    · cases q : s.heap.get? (s.heap.push { cls := .type "list", dict := none, data := .seq ([] : List Value).toArray }).objs.size with
      | none => rfl
      | some o' => have := Heap.lt_size q; rw [hC] at this; exact absurd this (Nat.not_lt.mpr (Nat.le_succ _))
    · rcases List.mem_cons.mp hp with rfl | hp
      · exact ⟨k _ _ (Heap.get?_push_size _ rfl), by rw [hC]; exact Nat.ne_of_lt (Nat.lt_succ_self _), S.none_at (get_size _), .inl (Nat.le_refl _)⟩
      · rcases List.mem_singleton.mp hp with rfl
        exact ⟨k0 _ _ hit.1, by rw [hC]; exact Nat.ne_of_lt (Nat.lt_succ_of_lt hitlt), hit.2.2.1, .inr (List.mem_singleton.mpr rfl)⟩
    · simp only [List.map_cons, List.map_nil, List.nodup_cons, List.mem_singleton, List.not_mem_nil, not_false_eq_true, List.nodup_nil, and_true]
      exact Nat.ne_of_gt hitlt
    · exact Nat.le_of_lt (Nat.lt_of_lt_of_le (Nat.lt_of_lt_of_le (Nat.lt_succ_self _) (Nat.le_of_eq hC.symm)) (Nat.le_of_lt hns₁.lt))
  have loop := h _ _ _ (by rw [hC]; exact Nat.le_succ _) (Nat.le_refl _) SC
  have fin : codeAny (model prog w) A (.compLoop (.ListComp elt [⟨target, iter, ifs, 0⟩] scope pos) 0 (.ref ga) (.ref s.heap.objs.size) (compEnvC scope cl (s.heap.push { cls := .type "list", dict := none, data := .seq ([] : List Value).toArray }).objs.size env))
      (compPost (model prog w) A E none Q (.ref s.heap.objs.size) (s.heap.push { cls := .type "list", dict := none, data := .seq ([] : List Value).toArray }).objs.size) { s with heap := h₁, toks := s.toks + ([] : List (Str × Value)).length } := by
    refine codeAny_mono loop fun r s' hr => ?_
    obtain ⟨rfl, m', n, vs, g', S', hQ⟩ := hr
    refine ⟨m', S'.ns, fun h' hs' => ?_⟩
    have hn := S'.cc _ (List.mem_cons_self ..)
    have SF := S'.freeze (by simp only [List.mem_singleton]; exact Nat.ne_of_gt hitlt)
    exact hQ _ _ (Mem.le_put hn.2.2.1) rfl (SF.postL (by rw [hC]; exact Nat.le_succ _) hs') ⟨_, Mem.put_self .., lst_is _ _⟩
  exact codeAny_compStart_list fin (hself _ _ _ SC.gg fin)
theorem comp_gen {k : Nat} {ga : Addr} {oL : Obj} {nm qn : Value} {code : Code} {elt target iter : Expr} {ifs : List Expr} {scope : Scope} {cl : List (Str × Addr)} {pos : Pos} {Q : Value → Shared → Prop} (hr : Room A (k + 1)) (S : St w s₀ g₀ X L m ((Lg, oL) :: c) g s)
    (hgen : g ga = some (genO gi nm qn)) (hgs : s.gens[gi]? = some (.fresh code)) (hready : GenReady prog w k Lg oL code gC rows) (hC : Le gC g) (hN : rows.length ≤ 10000)
    (Inv : Nat → Mem → List Value → Prop) (h0 : Inv 0 g [])
    (turn : ∀ i r v g' m' vs nD C D oL' s' E', rows[i]? = some r → TokRow g' v r → Le g g' → Inv i g' vs → St w s' g' [C, D, Lg] C m' [(D, lst vs nD), (Lg, oL')] g' s' →
      wpAny (model prog w) A (letOwnedTupleGo target (.ref ga) v) (fun _ s₁' => wpAny (model prog w) A (assign target (compEnvC scope cl C env) v) (fun _ s₂ => wpAny (model prog w) A (tests ifs (compEnvC scope cl C env)) (fun ok s₃ => ok = true ∧
        wpAny (model prog w) A (eval elt (compEnvC scope cl C env)) (fun x s₄ => ∃ g'' m'', Le g' g'' ∧ St w s' g' [C, D, Lg] C m'' [(D, lst vs nD), (Lg, oL')] g'' s₄ ∧ (∀ b o, g'' b = some o → g' b = some o ∨ o.cls = .type "tuple") ∧ Inv (i + 1) g'' (vs ++ [x])) E' s₃) E' s₂) E' s₁') E' s')
    (done : ∀ D vs g' s', Inv rows.length g' vs → Le g g' → St w { s₀ with gens := s'.gens } g₀ X L m c g' s' → LstAt g' D vs → GenOnly gi s.gens s'.gens → s'.gens[gi]? = some .finished → Q (.ref D) s')
    (hInv : ∀ i g' g'' vs, Le g' g'' → Inv i g' vs → Inv i g'' vs)
    (hcell : ∀ y ∈ scope.names, y.2 ≠ .cell := by decide) (hkind : scope.kind = .function := by with_unfolding_all rfl) :
    CompGo prog w A E env elt target iter ifs scope cl pos Q (.ref ga) s := by
  have hh := hr.hd
  refine comp_frameG S (fun s' Q' E' hg hQ => wpAny_pyIter_gen ⟨_, _, _, hg _ _ hgen, rfl, rfl, rfl⟩ hQ) hcell hkind fun C D s₃ hCs hDs S₃ => ?_
  have hLs : Lg < s.heap.objs.size := Heap.lt_size (S.cc _ (List.mem_cons_self ..)).1
  have hLt : Lg < s₃.heap.objs.size := Nat.lt_of_lt_of_le hLs S₃.size
  have hDt : D < s₃.heap.objs.size := Heap.lt_size S₃.cell0
  have hCt : C < s₃.heap.objs.size := S₃.lt
  have hglt : ∀ b o, g b = some o → b < s₃.heap.objs.size := fun b o e => Heap.lt_size (S₃.gg _ _ e)
  refine comp_turns (fun kk s' => ∃ i g' m' vs nD oL', kk + i = rows.length ∧ vs.length ≤ i ∧ Le g g' ∧ St w { s with gens := s'.gens } g [Lg] C m' [(D, lst vs nD), (Lg, oL')] g' s' ∧ GAt prog w A.in1 gi s₃.heap.objs.size Lg gC rows i s' ∧ (∀ b o, g' b = some o → b < s₃.heap.objs.size ∨ o.cls = .type "tuple") ∧ Inv i g' vs ∧ GenOnly gi s.gens s'.gens) ?_ rows.length
    ⟨0, g, _, [], 0, oL, rfl, Nat.le_refl _, Le.refl _, S₃.reg, ⟨.fresh code, by rw [S₃.gens]; exact hgs, fun s'' hk => ⟨rfl, hready _ s'' _ hr.in1 hk.2.1 (hk.1 Lg oL (.inl rfl) (S₃.cell (by simp))) hk.2.2 hLt fun b o e => hglt _ _ (hC _ _ e)⟩⟩, fun b o e => .inl (hglt b o e), h0, by rw [S₃.gens]; exact ⟨rfl, fun _ _ => rfl⟩⟩
  rintro kk s' E' ⟨i, g', m', vs, nD, oL', hk, hvl, hle, S', G', htup, hI, hGO⟩
  refine next_gen (A := A) hh hr.lt S'.swap (hle _ _ hgen) G' (hC.trans hle) S₃.size hCt (fun p hp => by rcases List.mem_singleton.mp hp with rfl; exact hDt) hLt htup (fun hlt r v oL'' a o s'' hri hta hot hle' S'' hrow hGO' G'' => ?_) fun hle' oL'' s'' S'' hGO' hfin => ?_
  · have T := S''.swap
    have R := T.root
    have hI' := hInv _ _ _ _ hle' hI
    refine wpAny_mono (turn i r v _ m' vs nD C D oL'' s'' E' hri hrow (hle.trans hle') hI' R) (fun _ s₁ h₁ => wpAny_mono h₁ (fun _ s₂ h₂ => wpAny_mono h₂ (fun ok s₅ h₅ => ?_) fun _ _ x => x) fun _ _ x => x) fun _ _ x => x
    obtain ⟨rfl, h₅⟩ := h₅
    rw [if_pos rfl]
    refine wpAny_mono h₅ (fun x s₆ h₆ => ?_) fun _ _ x => x
    obtain ⟨g₆, m₆, hle₆, R₆, htup₆, hI₆⟩ := h₆
    refine append0 R₆ (by omega) fun n₇ s₇ R₇ => ⟨kk - 1, by omega, i + 1, g₆, m₆, vs ++ [x], n₇, oL'', by omega, by simp; omega, (hle.trans hle').trans hle₆, ?_, ?_, fun b o' e => ?_, hI₆, ?_⟩
    · have T₇ := T.trans R₇ rfl
      have e : s₇.gens = s''.gens := R₇.gens
      rw [e]; exact T₇
    · refine G''.frame' R₇.gens (fun b o' hb e => ?_) R₇.size
      rcases hb with rfl | hb
      · have e2 := T.cell (a := b) (o := oL'') (by simp)
        rw [e2] at e; cases e
        exact R₇.cell (by simp)
      · refine R₇.keep b o' (fun hm => ?_) e
        have hlt : b < s₃.heap.objs.size := by
          simp only [List.mem_cons, List.not_mem_nil, or_false] at hm
          rcases hm with rfl | rfl | rfl
          · exact hCt
          · exact hDt
          · exact hLt
        exact absurd hlt (Nat.not_lt.mpr hb)
    · rcases htup₆ b o' e with h | h
      · by_cases q : b = a
        · subst q; rw [Mem.put_self] at h; cases h; exact .inr hot
        · rw [Mem.put_ne _ _ q] at h; exact htup b o' h
      · exact .inr h
    · rw [R₇.gens]; exact hGO.trans hGO'
  · refine ⟨rfl, m', nD, vs, g', S''.drop, fun s₇ g₇ hle₇ hg₇ P₇ hl₇ => ?_⟩
    have hin : i = rows.length := by omega
    rw [hin] at hI
    have S₇ := (S.regens s₇.gens).after1 P₇
    exact done D vs g₇ s₇ (hInv _ _ _ _ hle₇ hI) (hle.trans hle₇) S₇ hl₇ (by rw [hg₇]; exact hGO.trans hGO') (by rw [hg₇]; exact hfin)
end
end

-- PART F29 --
section
open PySem PySem.W PySem.Calls PyProof.Rows
section
variable {M : Model} {prog : Program} {w : World} {A : Around} {E : Value → Shared → Prop} {s₀ s : Shared} {g₀ g gC : Mem} {X : List Addr} {L Lg : Addr} {m : Str → Option Value} {c : List (Addr × Obj)} {rows : List Row}
theorem newTupX {vs : List Value} {Q : Value → Shared → Prop} (S : St w s₀ g₀ X L m c g s) (hsz : vs.length ≤ 1000) (h : ∀ a s', g a = none → St w s₀ g₀ X L m c (g.put a (tup vs)) s' → Q (.ref a) s') : wpAny M A (newTuple vs) Q E s :=
  wpAny_newObj_type (h _ _ (S.none_at (get_size _)) (S.pushF (tup vs) s.toks)) (by show vs.toArray.size ≤ _; rw [List.size_toArray, sizeLine_eq]; omega)
theorem flat_list (hr : Room A 2) (B : Base w g) (hg : Le g s.heap.get?) {la : Addr} {vs : List Value} (hl : LstAt g la vs) (hv : All2 (TokRow g) vs rows) (hN : rows.length ≤ 10000)
    {R : Result → Shared → Prop} (h : ∀ D us s' g', Post [] s g s' g' → LstAt g' D us → All2 (IsRow g') us rows → R (.ok (.ret (.ref D))) s') :
    codeAny (model prog w) A (.call (.ref 797) ⟨[.ref la], []⟩) R s := by
  refine callF (g := g) [("rows", .ref la)] B hg (f := 797) rfl (by kernel_rfl) hr.lt (BindsTo.of_eq rfl) rfl (by decide) fun L s₁ S₁ => ?_
  have hh := hr.hd
  have hvl := hv.length
  walk_at "gg"
  refine e_comp [] rfl ?_
  walk_at "gg"
  refine it_lst S₁ hl ?_; intro it o s₂ S₂ ho
  have hh' : ∀ e, (A.deeper e).handled = none := fun _ => hh
  refine comp_go S₂ ho (Le.refl _) (iter_lst (hh' _) hl) (fun s' Q' E' e q => wpAny_pyIter_listiter ⟨o, e, ho⟩ q) (by omega) (fun i g' us => All2 (IsRow g') us (rows.take i)) trivial ?_ ?_ (fun i g' g'' vs hle h => h.mono fun _ _ x => x.mono hle)
  · intro i v g' m' us nD C D s₃ o' E' _ hvi hle hI S₃ ho'
    obtain ⟨r, hri, hrow⟩ := All2.get hv hvi
    obtain ⟨a, v1, v2, v3, t, rfl, h2, rfl, h4, h5⟩ := hrow
    refine lo_other S₃.drop.cell0 ho'.1 ho'.2 (by decide) ?_
    refine as_triple S₃ hh ((h2.mono hle).mono S₃.gg) ?_; intro s₄ S₄
    refine t_nil ?_
    rw [if_pos rfl]
    walk_at "gg"
    refine tok_names S₄ (h4.mono hle) ?_; intro na ns s₅ S₅ hna hns
    walk_at "gg"
    refine newTupX S₅ (by simp) ?_; intro ta s₇ hta S₇
    have hle₇ := Mem.le_put (o := tup [.int (r.p : Int) t, .ref na, v3]) hta
    refine ⟨_, _, hle₇, S₇, ?_⟩
    refine all2_take_succ (hI.mono fun _ _ x => x.mono hle₇) hri ?_
    exact ⟨ta, _, _, _, t, rfl, ⟨_, Mem.put_self .., tup_is _⟩, rfl, ⟨na, ns, rfl, hna.mono hle₇, hns⟩, h5⟩
  · intro D us g' s₃ hI hle S₃ hD _
    walk_at "gg"
    rw [hvl, List.take_length] at hI
    exact h D us _ g' S₃.post hD hI
theorem flat_gen (hr : Room A 8) (B : Base w g) (hg : Le g s.heap.get?) {ga gi : Nat} {oL : Obj} {nm qn : Value} {code : Code} (hgen : g ga = some (genO gi nm qn)) (hgs : s.gens[gi]? = some (.fresh code)) (hready : GenReady prog w 6 Lg oL code gC rows) (hC : Le gC g) (hN : rows.length ≤ 10000)
    (hL : s.heap.get? Lg = some oL) (hLn : g Lg = none)
    {R : Result → Shared → Prop} (h : ∀ D us s' g', Post [Lg] { s with gens := s'.gens } g s' g' → GenOnly gi s.gens s'.gens → s'.gens[gi]? = some .finished → LstAt g' D us → All2 (IsRow g') us rows → R (.ok (.ret (.ref D))) s') :
    codeAny (model prog w) A (.call (.ref 797) ⟨[.ref ga], []⟩) R s := by
  refine enterX (g := g) (c := [(Lg, oL)]) (binds := [("rows", .ref ga)]) B hg (fun p hp' => by rcases List.mem_singleton.mp hp' with rfl; exact ⟨hL, hLn⟩) (by simp) (f := 797) rfl (by kernel_rfl) hr.lt (BindsTo.of_eq rfl) (locs rfl) (by decide) fun L s₁ S₁ => ?_
  have hh := hr.hd
  walk_at "gg"
  refine e_comp [] rfl ?_
  walk_at "gg"
  refine wpAny_pyIter_gen ⟨_, _, _, S₁.gg _ _ hgen, rfl, rfl, rfl⟩ ?_
  have hr' : ∀ e, Room (A.deeper e) 7 := fun e => hr.deeper e
  refine comp_gen (k := 6) (hr' _) S₁ hgen (by rw [S₁.gens]; exact hgs) hready hC hN (fun i g' us => All2 (IsRow g') us (rows.take i)) trivial ?_ ?_ (fun i g' g'' vs hle h => h.mono fun _ _ x => x.mono hle)
  · intro i r v g' m' us nD C D oL' s₃ E' hri hrow hle hI S₃
    obtain ⟨a, v1, v2, v3, t, rfl, h2, rfl, h4, h5⟩ := hrow
    refine lo_other (S₃.gg _ _ (hle _ _ hgen)) rfl rfl (by decide) ?_
    refine as_triple S₃ hh (h2.mono S₃.gg) ?_; intro s₄ S₄
    refine t_nil ⟨rfl, ?_⟩
    walk_at "gg"
    refine tok_names S₄ h4 ?_; intro na ns s₅ S₅ hna hns
    walk_at "gg"
    refine newTupX S₅ (by simp) ?_; intro ta s₇ hta S₇
    have hle₇ := Mem.le_put (o := tup [.int (r.p : Int) t, .ref na, v3]) hta
    refine ⟨_, _, hle₇, S₇, fun b o e => ?_, ?_⟩
    · by_cases q : b = ta
      · subst q; rw [Mem.put_self] at e; cases e; exact .inr rfl
      · rw [Mem.put_ne _ _ q] at e; exact .inl e
    · refine all2_take_succ (hI.mono fun _ _ x => x.mono hle₇) hri ?_
      exact ⟨ta, _, _, _, t, rfl, ⟨_, Mem.put_self .., tup_is _⟩, rfl, ⟨na, ns, rfl, hna.mono hle₇, hns⟩, h5⟩
  · intro D us g' s₃ hI hle S₃ hD hGO hfin
    walk_at "gg"
    rw [List.take_length] at hI
    rw [S₁.gens] at hGO
    exact h D us _ g' S₃.post hGO hfin hD hI
end
end

end

-- PART B26 --
section
open PySem PySem.W PySem.Calls PyProof.Rows
theorem list_ifill : fillsInplaceSlot (.type "list") "add" (Operator.Add == .Add) = pure false := by
  unfold fillsInplaceSlot
  show (typeLookup (.type "list") (dunderI "add") >>= fun fi => pure (fi.isSome && !isSeqSlot fi)) = pure false
  rw [F.slot_list_iadd.lookup]
  exact congrArg (pure : Bool → Sem Bool) (by decide +kernel : ((some (Value.builtin "list.__iadd__")).isSome && !isSeqSlot (some (Value.builtin "list.__iadd__"))) = false)
theorem list_iseq : seqSlot? (.type "list") (dunderI "add") = pure (some (.builtin "list.__iadd__")) := PySem.seqSlot_of F.slot_list_iadd.lookup (by decide +kernel)
section
variable {M : Model} {prog : Program} {w : World} {A : Around} {E : Value → Shared → Prop} {R : Result → Shared → Prop} {s₀ s s' : Shared} {g₀ g g' : Mem} {X : List Addr} {L : Addr} {m : Str → Option Value} {c : List (Addr × Obj)} {env : Env}
theorem add_lst {a b : Addr} {vs us : List Value} {Q : Value → Shared → Prop} (S : St w s₀ g₀ X L m c g s) (ha : LstAt s.heap.get? a vs) (hb : LstAt s.heap.get? b us) (hn : vs.length + us.length ≤ 1000)
    (h : ∀ r g' s', Le g g' → St w s₀ g₀ X L m c g' s' → LstAt g' r (vs ++ us) → Q (.ref r) s') : wpAny (model prog w) A (binaryOp .Add (.ref a) (.ref b)) Q E s := by
  obtain ⟨oa, hoa, hca, ka, hda⟩ := ha
  obtain ⟨ob, hob, hcb, kb, hdb⟩ := hb
  have hTa : s.TypeIs (.ref a) "list" := ⟨oa, hoa, hca⟩
  have hTb : s.TypeIs (.ref b) "list" := ⟨ob, hob, hcb⟩
  refine wpAny_binaryOp_concat hTa hTb noFill_list_add seq_list_add (wpAny_call_entry F.slot_list_add hTa F.entry_list_add ?_ (F.args_list_add_2 _ _))
  show wpAny _ _ (isInstance (.ref b) (.type "list") >>= _) _ _ s
  refine wpAny_bind (wpAny_isInstance hTb sub_list_self ?_)
  show wpAny _ _ (Builtin.List.listItems (.ref a) >>= _) _ _ s
  refine wpAny_bind ?_
  unfold Builtin.List.listItems
  refine wpAny_bind (wpAny_seqItems hoa hda (wpAny_pure ?_))
  refine wpAny_bind ?_
  refine wpAny_bind (wpAny_seqItems hob hdb (wpAny_pure ?_))
  have e : vs.toArray ++ us.toArray = (vs ++ us).toArray := by simp
  rw [e]
  have S' := S.pushF (lst (vs ++ us) 0) s.toks
  refine wpAny_bind (wpAny_newObj_type (wpAny_pure ⟨_, rfl, h _ _ _ (Mem.le_put (S.none_at (get_size _))) S' ⟨_, Mem.put_self .., lst_is _ _⟩⟩) (by show (vs ++ us).toArray.size ≤ _; rw [List.size_toArray, List.length_append, sizeLine_eq]; omega))
theorem iadd_lst {a b : Addr} {vs us : List Value} {n : Nat} {Q : Value → Shared → Prop} (S : St w s₀ g₀ X L m ((a, lst vs n) :: c) g s) (hb : LstAt s.heap.get? b us) (hn : vs.length + us.length ≤ 1000)
    (h : ∀ n s', St w s₀ g₀ X L m ((a, lst (vs ++ us) n) :: c) g s' → Q (.ref a) s') : wpAny (model prog w) A (inplaceOp .Add (.ref a) (.ref b)) Q E s := by
  obtain ⟨ob, hob, hcb, kb, hdb⟩ := hb
  have hTa : s.TypeIs (.ref a) "list" := ⟨_, S.cell0, rfl⟩
  have hTb : s.TypeIs (.ref b) "list" := ⟨ob, hob, hcb⟩
  unfold inplaceOp
  refine wpAny_holding ?_
  refine wpAny_bind (wpAny_typeOf hTa (wpAny_bind (wpAny_of_eq list_ifill ?_)))
  show wpAny _ A (if false = true then _ else _) Q E s
  rw [if_neg Bool.false_ne_true]
  refine wpAny_bind (wpAny_binaryOp1_none (nm := "add") hTa hTb noFill_list_add ?_)
  refine wpAny_bind (wpAny_of_eq list_iseq ?_)
  refine wpAny_bind (wpAny_rule ?_)
  refine wpAny_call_entry F.slot_list_iadd hTa F.entry_list_iadd ?_ (F.args_list_iadd_2 _ _)
  show wpAny _ _ (Builtin.List.listExtendWith (.ref a) (.ref b) (.ref a)) _ _ s
  unfold Builtin.List.listExtendWith
  refine wpAny_bind (wpAny_typeOf hTb ?_)
  have h1 : (Builtin.List.listSameRef (.ref a) (.ref b) || Value.type "list" == Value.type "list" || Value.type "list" == Value.type "tuple") = true := by simp
  simp only [h1, if_true]
  refine wpAny_bind ?_
  unfold Builtin.List.listItems
  refine wpAny_bind (wpAny_seqItems hob hdb (wpAny_pure ?_))
  refine wpAny_bind ?_
  refine wpAny_bind (wpAny_seqItems S.cell0 rfl (wpAny_pure ?_))
  have hl : ¬ ((!vs.toArray.isEmpty && Builtin.List.listTooLong (vs.toArray.size + us.toArray.size)) = true) := by
    have : Builtin.List.listTooLong (vs.toArray.size + us.toArray.size) = false := by
      unfold Builtin.List.listTooLong
      rw [decide_eq_false_iff_not, List.size_toArray, List.size_toArray, sizeLine_eq]; omega
    rw [this, Bool.and_false]; decide
  show wpAny _ _ (if (!vs.toArray.isEmpty && Builtin.List.listTooLong (vs.toArray.size + us.toArray.size)) = true then _ else _) _ _ s
  rw [if_neg hl]
  show wpAny _ _ (updateSeq a (· ++ us.toArray) >>= fun _ => ret (.ref a)) _ _ s
  refine wpAny_bind (upd_seq (us := vs ++ us) S (by simp) (by omega) (by rw [List.length_append]; omega) fun n' s' S' => ?_)
  exact wpAny_pure ⟨_, rfl, h n' s' S'⟩
theorem ldc {x : Str} {pos : Pos} {ca : Addr} {o : Obj} {v : Value} {Q : Value → Shared → Prop} (ho : s.heap.get? ca = some o) (hd : o.data = .cell (some v)) (h : Q v s) (hc : env.cells.lookup x = some ca := by with_unfolding_all rfl)
    (hk : env.scope.kind = .function := by with_unfolding_all rfl) (hl : env.kindOf x = some .cell := by with_unfolding_all rfl) (hdb : (x == ("__debug__" : Str)) = false := by with_unfolding_all rfl) :
    wpAny M A (eval (.Name x pos) env) Q E s := wpAny_Name (wpAny_loadName_cell hk hl hc ⟨o, ho, hd⟩ h) hdb
theorem ldf {x : Str} {pos : Pos} {ca : Addr} {o : Obj} {v : Value} {Q : Value → Shared → Prop} (ho : s.heap.get? ca = some o) (hd : o.data = .cell (some v)) (h : Q v s) (hc : env.cells.lookup x = some ca := by with_unfolding_all rfl)
    (hk : env.scope.kind = .function := by with_unfolding_all rfl) (hl : env.kindOf x = some .free := by with_unfolding_all rfl) (hdb : (x == ("__debug__" : Str)) = false := by with_unfolding_all rfl) (hn : (x == ("__classdict__" : Str)) = false := by with_unfolding_all rfl) :
    wpAny M A (eval (.Name x pos) env) Q E s := wpAny_Name (wpAny_loadName_free hk hl hc ⟨o, ho, hd⟩ h hn) hdb
theorem stc {x : Str} {ca : Addr} {o : Obj} {v₀ : Option Value} {v : Value} {Q : Unit → Shared → Prop} (S : St w s₀ g₀ X L m ((ca, o) :: c) g s) (hd : o.data = .cell v₀) (h : ∀ o' s', o'.data = .cell (some v) → St w s₀ g₀ X L m ((ca, o') :: c) g s' → Q () s')
    (hc : env.cells.lookup x = some ca := by with_unfolding_all rfl) (hk : env.scope.kind = .function := by with_unfolding_all rfl) (hl : env.kindOf x = some .cell := by with_unfolding_all rfl) : wpAny M A (storeName env x v) Q E s := by
  refine wpAny_storeName_cell hk hl hc ⟨o, S.cell0, hd⟩ fun h' hv hs => ?_
  obtain ⟨o', ho', hd'⟩ := hv
  exact h o' _ hd' (S.upd0 (t := s.toks) (fun b x hb e => (hs.2 b hb).trans e) ho' (Nat.le_of_eq hs.1.symm))
end
end

section
local macro_rules | `(tactic| walk_at "lk") => `(tactic| first | with_reducible assumption | with_reducible exact up_self _ _ _ | with_reducible exact up_get (by with_unfolding_all decide) (by walk_at "lk") | with_unfolding_all rfl)
local macro_rules | `(tactic| walk_at "g") => `(tactic| with_reducible first
  | refine s_assign ?_
  | refine s_setattr ?_
  | refine s_setitem ?_
  | refine s_assign2 ?_
  | refine s_ret ?_
  | refine s_if1 ?_
  | refine s_if ?_
  | refine s_for ?_
  | refine s_aug ?_
  | refine s_expr ?_
  | refine s_nil ?_
  | refine s_continue ?_
  | refine s_break ?_
  | refine t_cmp ?_
  | refine t_not ?_
  | refine t_or ?_
  | refine t_or1 ?_
  | refine t_and ?_
  | refine t_and1 ?_
  | refine e_or ?_
  | refine e_and ?_
  | refine e_bool1 ?_
  | refine e_attr ?_
  | refine GM.isupper ?_
  | refine GM.split ?_
  | refine GM.join ?_
  | refine GM.endswith ?_
  | refine endswith1 ?_
  | refine e_mcall ?_
  | refine e_call ?_
  | refine e_sub ?_
  | refine e_bin ?_
  | refine e_ite ?_
  | refine s_assert ?_
  | refine e_neg ?_
  | (refine neg_i (by assumption) ?_; intro _ _ _)
  | refine e_cmp ?_
  | refine e_slice_sn ?_
  | refine e_slice_ns ?_
  | refine e_slice_ss ?_
  | refine a_nil ?_
  | refine a_cons ?_
  | refine c_type ?_
  | refine c_builtin ?_
  | refine c_meth ?_
  | refine c_builtin0 ?_
  | (refine cint (by assumption) ?_; intro _ _ _)
  | (refine cstr (by assumption) ?_; intro _ _ _)
  | refine wpAny_Constant_none ?_
  | refine wpAny_Constant_bool ?_
  | refine ldl (by assumption) (by walk_at "lk") ?_
  | refine ldlN (by assumption) (by walk_at "lk") ?_
  | refine ldn (by assumption) (by with_unfolding_all rfl) ?_
  | (refine stl (by assumption) ?_; intro _ _)
  | (refine max2 (by assumption) (by with_unfolding_all assumption) ?_; intro _ _ _)
  | (refine min2 (by assumption) (by with_unfolding_all assumption) ?_; intro _ _ _)
  | (refine Mine.sub_int (by assumption) ?_; intro _ _ _)
  | (refine Mine.add_int (by assumption) ?_; intro _ _ _)
  | (refine Mine.mod_pos (by assumption) (by omega) ?_; intro _ _ _)
  | (refine Mine.div_pos (by assumption) (by omega) (by omega) ?_; intro _ _ _)
  | (refine Mine.len_str (by assumption) (by omega) ?_; intro _ _ _)
  | refine gm_append (by assumption) (by with_unfolding_all k_mem) ?_
  | (refine append0 (by assumption) (by omega) ?_; intro _ _ _)
  | (refine append1 (by assumption) (by omega) ?_; intro _ _ _)
  | (refine append2 (by assumption) (by omega) ?_; intro _ _ _)
  | refine e_tup ?_
  | refine e_listF ?_
  | refine eqI ?_
  | refine geI ?_
  | refine leI ?_
  | refine gtI ?_
  | refine eqS ?_
  | refine isNone ?_
  | refine isntNone ?_
  | refine And.intro rfl ?_
  | refine wpAny_truthy_bool ?_
  | refine t_val ?_)
local macro_rules | `(tactic| walk_at "gg") => `(tactic| repeat' (first | walk_at "g" | dsimp only))
local macro_rules | `(tactic| walk_at "h") => `(tactic| with_reducible first
  | refine s_assign ?_
  | refine s_setattr ?_
  | refine s_setitem ?_
  | refine s_assign2 ?_
  | refine s_ret ?_
  | refine s_if1 ?_
  | refine s_if ?_
  | refine s_for ?_
  | refine s_aug ?_
  | refine s_expr ?_
  | refine s_nil ?_
  | refine s_continue ?_
  | refine s_break ?_
  | refine e_or ?_
  | refine e_and ?_
  | refine e_bool1 ?_
  | refine e_attr ?_
  | refine GM.isupper ?_
  | refine GM.split ?_
  | refine GM.join ?_
  | refine GM.endswith ?_
  | refine endswith1 ?_
  | refine e_mcall ?_
  | refine e_call ?_
  | refine e_sub ?_
  | refine e_bin ?_
  | refine e_ite ?_
  | refine s_assert ?_
  | refine e_neg ?_
  | (refine neg_i (by assumption) ?_; intro _ _ _)
  | refine e_cmp ?_
  | refine e_slice_sn ?_
  | refine e_slice_ns ?_
  | refine e_slice_ss ?_
  | refine a_nil ?_
  | refine a_cons ?_
  | refine c_type ?_
  | refine c_builtin ?_
  | refine c_meth ?_
  | refine c_builtin0 ?_
  | (refine cint (by assumption) ?_; intro _ _ _)
  | (refine cstr (by assumption) ?_; intro _ _ _)
  | refine wpAny_Constant_none ?_
  | refine wpAny_Constant_bool ?_
  | refine ldl (by assumption) (by walk_at "lk") ?_
  | refine ldlN (by assumption) (by walk_at "lk") ?_
  | refine ldn (by assumption) (by with_unfolding_all rfl) ?_
  | (refine stl (by assumption) ?_; intro _ _)
  | (refine max2 (by assumption) (by with_unfolding_all assumption) ?_; intro _ _ _)
  | (refine min2 (by assumption) (by with_unfolding_all assumption) ?_; intro _ _ _)
  | (refine Mine.sub_int (by assumption) ?_; intro _ _ _)
  | (refine Mine.add_int (by assumption) ?_; intro _ _ _)
  | (refine Mine.mod_pos (by assumption) (by omega) ?_; intro _ _ _)
  | (refine Mine.div_pos (by assumption) (by omega) (by omega) ?_; intro _ _ _)
  | (refine Mine.len_str (by assumption) (by omega) ?_; intro _ _ _)
  | refine gm_append (by assumption) (by with_unfolding_all k_mem) ?_
  | (refine append0 (by assumption) (by omega) ?_; intro _ _ _)
  | (refine append1 (by assumption) (by omega) ?_; intro _ _ _)
  | (refine append2 (by assumption) (by omega) ?_; intro _ _ _)
  | refine e_tup ?_
  | refine e_listF ?_
  | refine eqI ?_
  | refine geI ?_
  | refine leI ?_
  | refine gtI ?_
  | refine eqS ?_
  | refine isNone ?_
  | refine isntNone ?_
  | refine And.intro rfl ?_
  | refine wpAny_truthy_bool ?_)
local macro_rules | `(tactic| walk_at "hh") => `(tactic| repeat' (first | walk_at "h" | dsimp only))

-- PART F30 --
section
open PySem PySem.W PySem.Calls PyProof.Rows
section
open PySem.SeqAt
variable {A : Around} {s : Shared} {g : Mem}
theorem eqAt_ts {v u : Value} {ns : List T} (hg : Le g s.heap.get?) (h1 : IsTs g v ns) (h2 : IsTs g u ns) (hu : A.units < cLine) : EqAt A s v u true := by
  obtain ⟨a, vs, rfl, ha, hv⟩ := h1
  obtain ⟨b, us, rfl, hb, hw⟩ := h2
  by_cases e : a = b
  · subst e; exact EqAt.same _
  · have := rcAt_ts (A := A) (ha.mono hg) (hb.mono hg) hv hw hu
    rw [decide_eq_true rfl] at this
    exact EqAt.of_refs e this
theorem eqAt_row {v u : Value} {r : Row} (hg : Le g s.heap.get?) (h1 : IsRow g v r) (h2 : IsRow g u r) (hu : A.in1.units < cLine) : EqAt A s v u true := by
  obtain ⟨a, v1, v2, v3, t, rfl, ha, rfl, hv2, tv, rfl⟩ := h1
  obtain ⟨b, u1, u2, u3, t', rfl, hb, rfl, hu2, tu, rfl⟩ := h2
  by_cases e : a = b
  · subst e; exact EqAt.same _
  · refine EqAt.of_refs e ?_
    have := RcAt.tuples (A := A) (e := fun _ => true) (ha.mono hg).isTup (hb.mono hg).isTup (Nat.lt_of_le_of_lt (Nat.le_add_right _ 1) hu) (fun j h1 h2 => by
      have hj : j < 3 := h1
      rcases (by omega : j = 0 ∨ j = 1 ∨ j = 2) with rfl | rfl | rfl
      · have z := EqAt.int_int (A := A.in1) (s := s) (r.p : Int) t (r.p : Int) t'
        rw [beq_self_eq_true] at z; exact z
      · exact eqAt_ts hg hv2 hu2 hu
      · have z := eqAt_T (A := A.in1) (s := s) (a := r.val) (b := r.val) (t := tv) (u := tu)
        rw [decide_eq_true rfl] at z; exact z)
    exact this
theorem rcAt_rows {l b : Addr} {vs us : List Value} {rs : List Row} (hg : Le g s.heap.get?) (hl : LstAt s.heap.get? l vs) (hb : LstAt s.heap.get? b us) (h1 : All2 (IsRow g) vs rs) (h2 : All2 (IsRow g) us rs) (hu : A.in1.in1.units < cLine) : RcAt A s (.ref l) (.ref b) true := by
  have l1 := h1.length; have l2 := h2.length
  have := RcAt.lists (A := A) (e := fun _ => true) hl.isList hb.isList (by rw [List.size_toArray, List.size_toArray]; omega) (Nat.lt_of_le_of_lt (Nat.le_add_right _ 2) hu) (fun j hj hj' => by
    obtain ⟨r, e1, k1⟩ := All2.get h1 (i := j) (a := vs.toArray[j]) (by simp at hj; simp [hj])
    obtain ⟨r', e2, k2⟩ := All2.get h2 (i := j) (a := us.toArray[j]) (by simp at hj'; simp [hj'])
    rw [e1] at e2; cases e2
    exact eqAt_row hg k1 k2 hu)
  have e : ((List.range vs.toArray.size).all fun _ => true) = true := by simp
  rw [e] at this; exact this
theorem rcNe_ts {l b : Addr} {vs us : List Value} {xs : List T} (hl : LstAt s.heap.get? l vs) (hb : LstAt s.heap.get? b us) (h1 : All2 IsT vs xs) (h2 : All2 IsT us xs) (hu : A.units < cLine) : RcNeAt A s (.ref l) (.ref b) false := by
  have l1 := h1.length; have l2 := h2.length
  have := RcNeAt.lists (A := A) (e := fun _ => true) hl.isList hb.isList (by rw [List.size_toArray, List.size_toArray]; omega) hu (fun j hj hj' => by
    obtain ⟨r, e1, tk, k1⟩ := All2.get h1 (i := j) (a := vs.toArray[j]) (by simp at hj; simp [hj])
    obtain ⟨r', e2, tk', k2⟩ := All2.get h2 (i := j) (a := us.toArray[j]) (by simp at hj'; simp [hj'])
    rw [e1] at e2; cases e2
    rw [k1, k2]
    have z := eqAt_T (A := A.in1) (s := s) (a := r) (b := r) (t := tk) (u := tk')
    rw [decide_eq_true rfl] at z; exact z)
  have e : (!(List.range vs.toArray.size).all fun _ => true) = false := by simp
  rw [e] at this; exact this
end
section
variable {prog : Program} {w : World} {A : Around} {s : Shared} {g : Mem}
theorem enterC {R : Result → Shared → Prop} {name qual : Str} {params : Arguments} {body : List Stmt} {scope : Scope} {dV kV doc pm cdv ct oc : Value} {an od : Option Addr} {osl : Array (Option Value)} {f : Addr} {x n1 n2 n3 n4 : Str} {v : Value}
    (B : Base w g) (hg : Le g s.heap.get?)
    (ho : (KK w).lookup f = some ⟨oc, od, .func (fnOf name qual params body scope dV kV doc pm an cdv ct), osl⟩) (hcd : codeIn (KK w) cdv qual = true) (hroom : A.depth < recursionLimit)
    (hbind : bindArgs (fnOf name qual params body scope dV kV doc pm an cdv ct) ⟨[v], []⟩ = pure [(x, v)]) (hloc : scope.names.lookup x = some .local)
    (hcs : ∀ L, cellsFrom (L + 1) scope.names [] = [(n4, L + 1 + 1 + 1 + 1), (n3, L + 1 + 1 + 1), (n2, L + 1 + 1), (n1, L + 1)]) (hns : n1 ≠ n2 ∧ n1 ≠ n3 ∧ n1 ≠ n4 ∧ n2 ≠ n3 ∧ n2 ≠ n4 ∧ n3 ≠ n4)
    (h : ∀ L s' o1 o2 o3 o4, o1.data = .cell none → o2.data = .cell none → o3.data = .cell none → o4.data = .cell none → St w s g [] L (lk [(x, v)]) [(L + 1, o1), (L + 1 + 1, o2), (L + 1 + 1 + 1, o3), (L + 1 + 1 + 1 + 1, o4)] g s' →
      wpAny (model prog w) (A.deeper (envOfC qual scope L f cdv)) (execs body (envOfC qual scope L f cdv)) (fun fl s'' => R (.ok (.ret (match fl with | .ret v => v | _ => .none))) s'') (fun _ _ => False) s')
    (hco : scope.isCoroutine = false := by rfl) (hgen : scope.isGenerator = false := by rfl) (hk : scope.kind = .function := by rfl) :
    codeAny (model prog w) A (.call (.ref f) ⟨[v], []⟩) R s := by
  have BH : Base w s.heap.get? := B.mono hg
  refine codeAny_call_cells (fd := fnOf name qual params body scope dV kV doc pm an cdv ct) (body := body) hroom (BH.K _ _ ho) rfl BH.nolimit (codeRec_of BH.K hcd) rfl hbind rfl (fun y hy => ?_) (fun s₁ H => ?_) hco hgen hk
  · rcases List.mem_singleton.mp hy with rfl; exact .inl hloc
  · have hkd : (callEnvC (fnOf name qual params body scope dV kV doc pm an cdv ct) s.heap.objs.size f).kindOf x = some .local := by
      exact hloc
    have hns₁ := H.toInCall.ns
    have hm : (bindL (callEnvC (fnOf name qual params body scope dV kV doc pm an cdv ct) s.heap.objs.size f).kindOf [(x, v)] fun _ => none) = lk [(x, v)] := by
      funext y
      unfold bindL bindL
      rw [if_pos hkd]
      unfold lk
      by_cases q : y = x
      · subst q; simp
      · have : (y == x) = false := by simp [q]
        simp [q, List.lookup_cons, this]
    rw [hm] at hns₁
    have hce : (callEnvC (fnOf name qual params body scope dV kV doc pm an cdv ct) s.heap.objs.size f).cells = [(n4, s.heap.objs.size + 1 + 1 + 1 + 1), (n3, s.heap.objs.size + 1 + 1 + 1), (n2, s.heap.objs.size + 1 + 1), (n1, s.heap.objs.size + 1)] := hcs _
    have hcell := H.cell
    rw [hce] at hcell
    have hbc : (bindC (callEnvC (fnOf name qual params body scope dV kV doc pm an cdv ct) s.heap.objs.size f).kindOf [(x, v)] fun _ => none) = fun _ => none := by
      unfold bindC bindC
      rw [if_pos hkd]
    rw [hbc] at hcell
    obtain ⟨k12, k13, k14, k23, k24, k34⟩ := hns
    have bf : ∀ {a b : Str}, a ≠ b → (a == b) = false := fun h => by simpa using h
    obtain ⟨o4, e4, d4⟩ := hcell n4 _ (by rw [List.lookup_cons, beq_self_eq_true])
    obtain ⟨o3, e3, d3⟩ := hcell n3 _ (by rw [List.lookup_cons, bf k34, List.lookup_cons, beq_self_eq_true])
    obtain ⟨o2, e2, d2⟩ := hcell n2 _ (by rw [List.lookup_cons, bf k24, List.lookup_cons, bf k23, List.lookup_cons, beq_self_eq_true])
    obtain ⟨o1, e1, d1⟩ := hcell n1 _ (by rw [List.lookup_cons, bf k14, List.lookup_cons, bf k13, List.lookup_cons, bf k12, List.lookup_cons, beq_self_eq_true])
    obtain ⟨h₁, tk, rfl⟩ := H.toInCall.same
    have hgn : ∀ b, s.heap.objs.size ≤ b → g b = none := fun b hb => by
      cases q : g b with
      | none => rfl
      | some o => exact absurd (Heap.lt_size (hg _ _ q)) (Nat.not_lt.mpr hb)
    refine wpAny_mono (h s.heap.objs.size _ o1 o2 o3 o4 d1 d2 d3 d4 ⟨B, hns₁, fun b o _ e => H.toInCall.keep b o e, .inl (Nat.le_refl _), fun b o e => H.toInCall.keep b o (hg _ _ e), fun _ _ e => e, fun _ _ => rfl, hgn _ (Nat.le_refl _), fun p hp => ?_, ?_, rfl, rfl, Nat.le_of_lt hns₁.lt⟩) (fun _ _ x => x) fun _ _ x => x.elim
    · simp only [List.mem_cons, List.not_mem_nil, or_false] at hp
      rcases hp with rfl | rfl | rfl | rfl
      · exact ⟨e1, Nat.ne_of_gt (by omega), hgn _ (by show s.heap.objs.size ≤ s.heap.objs.size + 1; omega), .inl (by show s.heap.objs.size ≤ s.heap.objs.size + 1; omega)⟩
      · exact ⟨e2, Nat.ne_of_gt (by omega), hgn _ (by show s.heap.objs.size ≤ s.heap.objs.size + 1 + 1; omega), .inl (by show s.heap.objs.size ≤ s.heap.objs.size + 1 + 1; omega)⟩
      · exact ⟨e3, Nat.ne_of_gt (by omega), hgn _ (by show s.heap.objs.size ≤ s.heap.objs.size + 1 + 1 + 1; omega), .inl (by show s.heap.objs.size ≤ s.heap.objs.size + 1 + 1 + 1; omega)⟩
      · exact ⟨e4, Nat.ne_of_gt (by omega), hgn _ (by show s.heap.objs.size ≤ s.heap.objs.size + 1 + 1 + 1 + 1; omega), .inl (by show s.heap.objs.size ≤ s.heap.objs.size + 1 + 1 + 1 + 1; omega)⟩
    · simp only [List.map_cons, List.map_nil, List.nodup_cons, List.mem_cons, List.not_mem_nil, or_false, not_or, List.nodup_nil, and_true, not_false_eq_true]
      refine ⟨⟨?_, ?_, ?_⟩, ⟨?_, ?_⟩, ?_⟩ <;> exact Nat.ne_of_lt (by omega)
end
section
variable {prog : Program} {w : World} {A : Around} {E : Value → Shared → Prop} {s₀ s : Shared} {g₀ g : Mem} {X : List Addr} {L ca cb : Addr} {m : Str → Option Value} {c : List (Addr × Obj)} {env : Env} {oc oc' : Obj}
theorem range_cell {x : Str} {px : Pos} {body orelse : List Stmt} {r : Addr} {a b : Int} {t u v : Tok} {Q : Flow → Shared → Prop} {E0 : Value → Shared → Prop}
    (S : St w s₀ g₀ X L m ((ca, oc) :: c) g s) (hd0 : ∃ v₀, oc.data = .cell v₀) (hr : IsRange s.heap r a b 1 t u v) (hh : A.handled = none) (n : Nat) (hn : Builtin.Range.rangeSize a b 1 = n) (hs : Builtin.Range.small a b 1 = true)
    (Inv : Nat → Mem → (Str → Option Value) → List (Addr × Obj) → Prop) (h0 : Inv 0 g m c)
    (turn : ∀ it o oc i g' m' c' s' t E', i < n → Le g g' → Inv i g' m' c' → oc.data = .cell (some (.int (a + i) t)) → St w s₀ g₀ X L m' ((ca, oc) :: (it, o) :: c') g' s' →
      wpAny (model prog w) A (execs body env) (fun f s₃ => match f with
        | .next | .cont => ∃ g'' m'' c'', Le g g'' ∧ St w s₀ g₀ X L m'' ((ca, oc) :: (it, o) :: c'') g'' s₃ ∧ Inv (i + 1) g'' m'' c''
        | .brk => Q .next s₃
        | .ret v => Q (.ret v) s₃) E' s')
    (done : ∀ oc g' m' c' s' E', (∃ v₀, oc.data = .cell v₀) → Le g g' → Inv n g' m' c' → St w s₀ g₀ X L m' ((ca, oc) :: c') g' s' → wpAny (model prog w) A (execs orelse env) Q E' s')
    (hc : env.cells.lookup x = some ca := by with_unfolding_all rfl) (hk : env.scope.kind = .function := by with_unfolding_all rfl) (hl : env.kindOf x = some .cell := by with_unfolding_all rfl) :
    wpAny (model prog w) A (pyIter (.ref r)) (fun it s₂ =>
      codeAny (model prog w) A (.forLoop (.Name x px) it body orelse env) (fun r s' => match r with | .ok f => Q f s' | .error e => E0 e s') s₂) E s := by
  refine wpAny_pyIter_range hr hs ?_
  rw [hn]
  refine loop (S.pushC _ _) (n := n) ?_ (fun b o e => by simp at e) (iter_range hh _ a n) (fun i g' m' c' => ∃ oc c'', c' = (ca, oc) :: c'' ∧ (∃ v₀, oc.data = .cell v₀) ∧ Inv i g' m' c'') ⟨oc, c, rfl, hd0, h0⟩ ?_ ?_
  · simp
  · rintro i g' m' c' s' o v E' hi ⟨t', rfl⟩ hle ⟨oc₁, c₁, rfl, ⟨v₀, hd₁⟩, hI⟩ S' hO
    show wpAny _ _ (pure () : Sem Unit) _ _ _
    refine wpAny_pure (wpAny_assign_Name (stc S'.swap hd₁ (fun o₂ s₂ hd₂ S₂ => ?_) hc hk hl))
    refine wpAny_mono (turn _ o o₂ i g' m' c₁ s₂ t' E' hi hle hI hd₂ S₂) (fun f s₃ h₃ => ?_) fun _ _ x => x
    cases f with
    | next => obtain ⟨g₃, m₃, c₃, a₁, b₁, e₁⟩ := h₃; exact ⟨g₃, m₃, _, _, a₁, b₁.swap, hO, _, _, rfl, ⟨_, hd₂⟩, e₁⟩
    | cont => obtain ⟨g₃, m₃, c₃, a₁, b₁, e₁⟩ := h₃; exact ⟨g₃, m₃, _, _, a₁, b₁.swap, hO, _, _, rfl, ⟨_, hd₂⟩, e₁⟩
    | brk => exact h₃
    | ret v => exact h₃
  · rintro g' m' c' s' E' hle ⟨oc₁, c₁, rfl, hd₁, hI⟩ S'
    exact done oc₁ g' m' c₁ s' E' hd₁ hle hI S'
theorem as_cells {x1 x2 x3 : Str} {p1 p2 p3 tp : Pos} {k} {t : Addr} {v1 v2 v3 : Value} {Q : Unit → Shared → Prop} (S : St w s₀ g₀ X L m ((ca, oc) :: (cb, oc') :: c) g s) (hd1 : ∃ v₀, oc.data = .cell v₀) (hd2 : ∃ v₀, oc'.data = .cell v₀) (hh : A.handled = none) (ht : TupAt s.heap.get? t [v1, v2, v3])
    (h : ∀ o o' s', o.data = .cell (some v1) → o'.data = .cell (some v2) → St w s₀ g₀ X L (up m x3 v3) ((ca, o) :: (cb, o') :: c) g s' → Q () s')
    (hc1 : env.cells.lookup x1 = some ca := by with_unfolding_all rfl) (hc2 : env.cells.lookup x2 = some cb := by with_unfolding_all rfl)
    (hL : env.locals = L := by with_unfolding_all rfl) (hk : env.scope.kind = .function := by with_unfolding_all rfl) (hl1 : env.kindOf x1 = some .cell := by with_unfolding_all rfl) (hl2 : env.kindOf x2 = some .cell := by with_unfolding_all rfl) (hl3 : env.kindOf x3 = some .local := by with_unfolding_all rfl) :
    wpAny (model prog w) A (assign (.Tuple [.Name x1 p1, .Name x2 p2, .Name x3 p3] k tp) env (.ref t)) Q E s := by
  refine assign_tup S hh ht rfl rfl fun s₁ S1 => ?_
  obtain ⟨_, hd1⟩ := hd1
  obtain ⟨_, hd2⟩ := hd2
  show wpAny _ _ (do holding [v2, v3] (assign (.Name x1 p1) env v1); do holding [v3] (assign (.Name x2 p2) env v2); do holding [] (assign (.Name x3 p3) env v3); pure ()) _ _ _
  exact wpAny_bind (wpAny_holding (wpAny_assign_Name (stc S1 hd1 (fun o₁ s₂ e₁ S₂ => wpAny_bind (wpAny_holding (wpAny_assign_Name (stc S₂.swap hd2 (fun o₂ s₃ e₂ S₃ => wpAny_bind (wpAny_holding (wpAny_assign_Name (stl S₃.swap (fun s₄ S₄ => wpAny_pure (h o₁ o₂ s₄ e₁ e₂ S₄)) hL hk hl3)))) hc2 hk hl2)))) hc1 hk hl1)))
end
theorem s_if1_mid {M : Model} {A : Around} {E : Value → Shared → Prop} {s : Shared} {env : Env} {test : Expr} {body rest : List Stmt} {pos : Pos} {Q : Flow → Shared → Prop} (P : Shared → Prop)
    (h1 : wpAny M A (isTrue test env (eval test env)) (fun b s₂ => if b = true then wpAny M A (execs body env) (fun f s' => f = .next ∧ P s') E s₂ else P s₂) E s) (h2 : ∀ s', P s' → wpAny M A (execs rest env) Q E s') : wpAny M A (execs (.If test body [] pos :: rest) env) Q E s :=
  s_if1 (wpAny_mono h1 (fun b s₂ x => by
    cases b with
    | true => exact wpAny_mono x (fun f s' y => by obtain ⟨rfl, y⟩ := y; exact h2 s' y) fun _ _ x => x
    | false => exact h2 s₂ x) fun _ _ x => x)
theorem str_d : Str.ofString "d" = S [100] := by decide +kernel
theorem longest_nil {has : T → Bool} {l : T} : (!(longest has l).isEmpty) = decide (longest has l ≠ []) := by
  cases longest has l <;> rfl
section
variable {prog : Program} {w : World} {A : Around} {E : Value → Shared → Prop} {s₀ s s' : Shared} {g₀ g g' : Mem} {X : List Addr} {L Lg : Addr} {oL : Obj} {m : Str → Option Value} {c : List (Addr × Obj)} {env : Env}
theorem St.afterG (S : St w s₀ g₀ X L m c g s) (P : PostG s g s' g') (hL : s.heap.objs.size ≤ Lg) (hn : g' Lg = none) (ho : s'.heap.get? Lg = some oL) : St w { s₀ with gens := s'.gens } g₀ X L m ((Lg, oL) :: c) g' s' := by
  have k := P.keep
  have S' : St w { s₀ with gens := s'.gens } g₀ X L m c g' s' := by
    refine ⟨S.base, S.ns.keeps k, fun b o hb e => k _ _ (S.keep b o hb e), S.above, P.gg, fun b o e => P.grow _ _ (S.grow _ _ e), fun b hb => ?_, ?_, fun p hp => ?_, S.nd, rfl, P.os.trans S.os, Nat.le_trans S.size P.size⟩
    · rw [P.low b (Nat.lt_of_lt_of_le hb S.size)]; exact S.low b hb
    · rw [P.low L S.lt]; exact S.gL
    · obtain ⟨h1, h2, h3, h4⟩ := S.cc p hp
      exact ⟨k _ _ h1, h2, by rw [P.low _ (Heap.lt_size h1)]; exact h3, h4⟩
  exact S'.addCell (Nat.le_trans S.size hL) ho hn (Nat.ne_of_gt (Nat.lt_of_lt_of_le S.lt hL)) (fun p hp => Nat.ne_of_lt (Nat.lt_of_lt_of_le (Heap.lt_size (S.cc p hp).1) hL))
theorem bare_gen {a b : Array GenState} {x : GenState} (ha : AllBare a) (h : GenOnly a.size (a.push x) b) (hf : b[a.size]? = some .finished) : AllBare b := by
  intro y hy
  obtain ⟨i, hi, rfl⟩ := Array.mem_iff_getElem.mp hy
  by_cases e : i = a.size
  · subst e
    rw [Array.getElem?_eq_getElem hi] at hf
    rw [Option.some.inj hf]; rfl
  · have h1 := h.2 i e
    rw [Array.getElem?_eq_getElem hi] at h1
    have hlt : i < (a.push x).size := by rw [← h.1]; exact hi
    rw [Array.size_push] at hlt
    have hi' : i < a.size := by omega
    rw [Array.getElem?_push_lt hi'] at h1
    rw [Option.some.inj h1]
    exact ha _ (Array.getElem_mem hi')
end
end

end

-- PART B27 --
section
open PySem PySem.W PySem.Calls PyProof.Rows
section
variable {prog : Program} {w : World} {A : Around} {E : Value → Shared → Prop} {R : Result → Shared → Prop} {s₀ s s' : Shared} {g₀ g g' : Mem} {X : List Addr} {L : Addr} {m : Str → Option Value} {c : List (Addr × Obj)} {env : Env}
def CompGoU (prog : Program) (w : World) (A : Around) (E : Value → Shared → Prop) (env : Env) (y : Str) (py : Pos) (elt target iter : Expr) (ifs : List Expr) (scope : Scope) (cl : List (Str × Addr)) (pos : Pos) (Q : Shared → Prop) (it : Value) (s₂ : Shared) : Prop :=
  wpAny (model prog w) A (newList []) (fun acc s₃ => wpAny (model prog w) A (newFunctionEnv scope env.globals cl [] env.qual none .none (some env)) (fun cenv s₄ =>
    codeAny (model prog w) A (.compStart (.ListComp elt [⟨target, iter, ifs, 0⟩] scope pos) 0 it acc { cenv with scope := relabel scope env }) (compPost (model prog w) A E (some (assign (.Name y py) env)) (fun _ s' => Q s') acc cenv.locals) s₄) E s₃) E s₂
theorem s_assign_comp {y : Str} {py : Pos} {elt target iter : Expr} {ifs : List Expr} {scope : Scope} {pos spos : Pos} {rest : List Stmt} {Q : Flow → Shared → Prop} (cl : List (Str × Addr)) (hclos : closureFor scope env = pure cl)
    (h : wpAny (model prog w) A (eval iter env) (fun x s₁ => wpAny (model prog w) A (pyIter x) (CompGoU prog w A E env y py elt target iter ifs scope cl pos fun s' => wpAny (model prog w) A (execs rest env) Q E s') E s₁) E s)
    (hsw : swapsWith (.ListComp elt [⟨target, iter, ifs, 0⟩] scope pos) (some (.Name y py)) spos.line env = pure true := by with_unfolding_all rfl)
    (hkind : scope.kind = .function := by with_unfolding_all rfl) (hnames : ∀ y ∈ scope.names, y.2 = .local → scope.names.lookup y.1 = some .local := by decide)
    (hs : ∀ x, foldedSetIterable iter env x = pure x := by intro _; with_unfolding_all rfl) :
    wpAny (model prog w) A (execs (.Assign [.Name y py] (.ListComp elt [⟨target, iter, ifs, 0⟩] scope pos) spos :: rest) env) Q E s := by
  refine wpAny_execs_cons ?_
  rw [exec_Assign_Name_used _ _ _ _ hsw]
  refine wpAny_bind (wpAny_standAt (wpAny_bind ?_))
  show wpAny _ A (do let _ ← comprehension (.ListComp elt [⟨target, iter, ifs, 0⟩] scope pos) scope env _ (newList []) false (eval iter env) (some (assign (.Name y py) env))) _ _ s
  refine wpAny_bind (wpAny_mono (wpAny_comprehension_free (use := some (assign (.Name y py) env)) (Q := fun _ s' => wpAny (model prog w) A (execs rest env) Q E s') rfl hs hclos hkind hnames h) (fun _ s' hq => wpAny_pure (wpAny_pure hq)) fun _ _ e => e)
theorem comp_frameU {y : Str} {py : Pos} {elt target iter : Expr} {ifs : List Expr} {scope : Scope} {cl : List (Str × Addr)} {pos : Pos} {Q : Shared → Prop} {it : Addr} {o : Obj} (S : St w s₀ g₀ X L m ((it, o) :: c) g s)
    (hself : ∀ s' Q' E', s'.heap.get? it = some o → Q' (.ref it) s' → wpAny (model prog w) A (pyIter (.ref it)) Q' E' s')
    (hcell : ∀ y ∈ scope.names, y.2 ≠ .cell) (hkind : scope.kind = .function)
    (h : ∀ C D s₃, s.heap.objs.size ≤ C → s.heap.objs.size ≤ D → St w s g [it] C (fun _ => none) [(D, lst [] 0), (it, o)] g s₃ → codeAny (model prog w) A (.compLoop (.ListComp elt [⟨target, iter, ifs, 0⟩] scope pos) 0 (.ref it) (.ref D) (compEnvC scope cl C env))
      (fun r s' => r = .ok .next ∧ ∃ m' n vs g', St w s g [it] C m' [(D, lst vs n)] g' s' ∧ ∀ s'' g'', Le g' g'' → St w s₀ g₀ X L (up m y (.ref D)) c g'' s'' → LstAt g'' D vs → Q s'') s₃)
    (hL : env.locals = L) (hk : env.scope.kind = .function) (hl : env.kindOf y = some .local) :
    CompGoU prog w A E env y py elt target iter ifs scope cl pos Q (.ref it) s := by
  unfold CompGoU
  refine wpAny_newObj_type (wpAny_newFunctionEnv hcell (by intro y hy; simp at hy) (fun h₁ hns₁ hsb₁ => ?_) hkind)
  have hit := S.cc (it, o) (List.mem_cons_self ..)
  have hitlt := Heap.lt_size hit.1
  have hC : (s.heap.push { cls := .type "list", dict := none, data := .seq ([] : List Value).toArray }).objs.size = s.heap.objs.size + 1 := Heap.size_push ..
  have k : ∀ b o, (s.heap.push { cls := .type "list", dict := none, data := .seq ([] : List Value).toArray }).get? b = some o → h₁.get? b = some o := fun b o e =>
    hsb₁.extBut b o (Nat.ne_of_lt (Heap.lt_size e)) (Heap.get?_push_of_some _ e)
  have k0 : ∀ b o, s.heap.get? b = some o → h₁.get? b = some o := fun b o e => k b o (Heap.get?_push_of_some _ e)
  have SC : St w s g [it] (s.heap.push { cls := .type "list", dict := none, data := .seq ([] : List Value).toArray }).objs.size (fun _ => none) [(s.heap.objs.size, lst [] 0), (it, o)] g { s with heap := h₁, toks := s.toks + ([] : List (Str × Value)).length } := by
    refine ⟨S.baseG, hns₁, fun b o _ e => k0 b o e, .inl (by rw [hC]; exact Nat.le_succ _), fun b o e => k0 b o (S.gg b o e), fun _ _ e => e, fun _ _ => rfl, S.none_at ?_, fun p hp => ?_, ?_, rfl, rfl, ?_⟩
    · cases q : s.heap.get? (s.heap.push { cls := .type "list", dict := none, data := .seq ([] : List Value).toArray }).objs.size with
      | none => rfl
      | some o' => have := Heap.lt_size q; rw [hC] at this; exact absurd this (Nat.not_lt.mpr (Nat.le_succ _))
    · rcases List.mem_cons.mp hp with rfl | hp
      · exact ⟨k _ _ (Heap.get?_push_size _ rfl), by rw [hC]; exact Nat.ne_of_lt (Nat.lt_succ_self _), S.none_at (get_size _), .inl (Nat.le_refl _)⟩
      · rcases List.mem_singleton.mp hp with rfl
        exact ⟨k0 _ _ hit.1, by rw [hC]; exact Nat.ne_of_lt (Nat.lt_succ_of_lt hitlt), hit.2.2.1, .inr (List.mem_singleton.mpr rfl)⟩
    · simp only [List.map_cons, List.map_nil, List.nodup_cons, List.mem_singleton, List.not_mem_nil, not_false_eq_true, List.nodup_nil, and_true]
      exact Nat.ne_of_gt hitlt
    · exact Nat.le_of_lt (Nat.lt_of_lt_of_le (Nat.lt_of_lt_of_le (Nat.lt_succ_self _) (Nat.le_of_eq hC.symm)) (Nat.le_of_lt hns₁.lt))
  have loop := h _ _ _ (by rw [hC]; exact Nat.le_succ _) (Nat.le_refl _) SC
  have fin : codeAny (model prog w) A (.compLoop (.ListComp elt [⟨target, iter, ifs, 0⟩] scope pos) 0 (.ref it) (.ref s.heap.objs.size) (compEnvC scope cl (s.heap.push { cls := .type "list", dict := none, data := .seq ([] : List Value).toArray }).objs.size env))
      (compPost (model prog w) A E (some (assign (.Name y py) env)) (fun _ s' => Q s') (.ref s.heap.objs.size) (s.heap.push { cls := .type "list", dict := none, data := .seq ([] : List Value).toArray }).objs.size) { s with heap := h₁, toks := s.toks + ([] : List (Str × Value)).length } := by
    refine codeAny_mono loop fun r s' hr => ?_
    obtain ⟨rfl, m', n, vs, g', S', hQ⟩ := hr
    have hn := S'.cc _ (List.mem_cons_self ..)
    have SF := S'.freeze (by simp only [List.mem_singleton]; exact Nat.ne_of_gt hitlt)
    have P := SF.postL (by rw [hC]; exact Nat.le_succ _) (h' := s'.heap) ⟨rfl, fun _ _ => rfl⟩
    have S₁ := S.after1 P
    obtain ⟨oC, es, ep, hoC, hrest⟩ := id SF.ns
    have hsC : s.heap.objs.size ≤ (s.heap.push { cls := .type "list", dict := none, data := .seq ([] : List Value).toArray }).objs.size := by rw [hC]; exact Nat.le_succ _
    have S₂ := S₁.addCell (Nat.le_trans S.size hsC) hoC SF.gL (Nat.ne_of_gt (Nat.lt_of_lt_of_le S.lt hsC)) (fun p hp => Nat.ne_of_lt (Nat.lt_of_lt_of_le (Heap.lt_size (S.cc p (List.mem_cons_of_mem _ hp)).1) hsC))
    show wpAny _ _ (assign (.Name y py) env (.ref s.heap.objs.size)) _ _ _
    refine wpAny_assign_Name (stl S₂ (fun s'' S'' => ⟨m', ⟨oC, es, ep, S''.cell0, hrest⟩, fun h' hs => ?_⟩) hL hk hl)
    exact hQ _ _ (Mem.le_put hn.2.2.1) (S''.lose (t := s''.toks) (fun b o hb e => (hs.2 b hb).trans e) (Nat.le_of_eq hs.1.symm)) ⟨_, Mem.put_self .., lst_is _ _⟩
  exact codeAny_compStart_list fin (hself _ _ _ SC.drop.cell0 fin)
theorem comp_goU {y : Str} {py : Pos} {elt target iter : Expr} {ifs : List Expr} {scope : Scope} {cl : List (Str × Addr)} {pos : Pos} {Q : Shared → Prop} {it : Addr} {o : Obj} {n : Nat} {O : Nat → Obj → Prop} {V : Nat → Value → Prop} {Fz : Mem} (S : St w s₀ g₀ X L m ((it, o) :: c) g s)
    (hO : O 0 o) (hFz : Le Fz g) (I : Iter prog w A it n Fz O V)
    (hself : ∀ s' Q' E', s'.heap.get? it = some o → Q' (.ref it) s' → wpAny (model prog w) A (pyIter (.ref it)) Q' E' s') (hn : n ≤ 10000)
    (Inv : Nat → Mem → List Value → Prop) (h0 : Inv 0 g [])
    (turn : ∀ i v g' m' vs nD C D s' o' E', i < n → V i v → Le g g' → Inv i g' vs → St w s g [it] C m' [(D, lst vs nD), (it, o')] g' s' → O (i + 1) o' →
      wpAny (model prog w) A (letOwnedTupleGo target (.ref it) v) (fun _ s₁' => wpAny (model prog w) A (assign target (compEnvC scope cl C env) v) (fun _ s₂ =>
        wpAny (model prog w) A (tests ifs (compEnvC scope cl C env)) (fun ok s₃ =>
          if ok = true then wpAny (model prog w) A (eval elt (compEnvC scope cl C env)) (fun x s₄ => ∃ g'' m'', Le g' g'' ∧ St w s g [it] C m'' [(D, lst vs nD), (it, o')] g'' s₄ ∧ Inv (i + 1) g'' (vs ++ [x])) E' s₃
          else ∃ g'' m'', Le g' g'' ∧ St w s g [it] C m'' [(D, lst vs nD), (it, o')] g'' s₃ ∧ Inv (i + 1) g'' vs) E' s₂) E' s₁') E' s')
    (done : ∀ D vs g' s', Inv n g' vs → Le g g' → St w s₀ g₀ X L (up m y (.ref D)) c g' s' → LstAt g' D vs → Q s')
    (hInv : ∀ i g' g'' vs, Le g' g'' → Inv i g' vs → Inv i g'' vs)
    (hcell : ∀ y ∈ scope.names, y.2 ≠ .cell := by decide) (hkind : scope.kind = .function := by with_unfolding_all rfl) (hL : env.locals = L := by with_unfolding_all rfl) (hk : env.scope.kind = .function := by with_unfolding_all rfl) (hl : env.kindOf y = some .local := by with_unfolding_all rfl) :
    CompGoU prog w A E env y py elt target iter ifs scope cl pos Q (.ref it) s := by
  refine comp_frameU S hself hcell hkind (fun C D s₃ hC hD S₃ => ?_) hL hk hl
  refine comp_turns (fun k s' => ∃ i g' m' vs nD o', k + i = n ∧ vs.length ≤ i ∧ Le g g' ∧ St w s g [it] C m' [(D, lst vs nD), (it, o')] g' s' ∧ O i o' ∧ Inv i g' vs) ?_ n ⟨0, g, _, [], 0, o, rfl, Nat.le_refl _, Le.refl _, S₃, hO, h0⟩
  rintro k s' E' ⟨i, g', m', vs, nD, o', hk, hvl, hle, S', hO', hI⟩
  by_cases hlt : i < n
  · refine withSize (I.item hlt ((hFz.trans hle).trans S'.gg) S'.drop.cell0 hO' fun v h' tk o'' hv ho'' hO'' hs hz => ?_)
    have S'' : St w s g [it] C m' [(D, lst vs nD), (it, o'')] g' { s' with heap := h', toks := tk } := (S'.swap.upd0 hs ho'' hz).swap
    refine wpAny_mono (turn i v g' m' vs nD C D _ o'' E' hlt hv hle hI S'' hO'') (fun _ s₁ h₁ => wpAny_mono h₁ (fun _ s₂ h₂ => wpAny_mono h₂ (fun ok s₃ h₃ => ?_) fun _ _ x => x) fun _ _ x => x) fun _ _ x => x
    cases ok with
    | false =>
      obtain ⟨g₃, m₃, h1, h2, h3⟩ := h₃
      exact ⟨k - 1, by omega, i + 1, g₃, m₃, vs, nD, o'', by omega, by omega, hle.trans h1, h2, hO'', h3⟩
    | true =>
      refine wpAny_mono h₃ (fun x s₄ h₄ => ?_) fun _ _ x => x
      obtain ⟨g₃, m₃, h1, h2, h3⟩ := h₄
      refine append0 h2 (by omega) fun n₅ s₅ S₅ => ⟨k - 1, by omega, i + 1, g₃, m₃, vs ++ [x], n₅, o'', by omega, by simp; omega, hle.trans h1, S₅, hO'', h3⟩
  · have hin : i = n := by omega
    subst hin
    refine withSize (I.done ((hFz.trans hle).trans S'.gg) S'.drop.cell0 hO' fun h' hs hz => ?_)
    exact ⟨rfl, m', nD, vs, g', (S'.swap.lose hs hz), fun s'' g'' hle' S'' hl => done D vs g'' s'' (hInv _ _ _ _ hle' hI) (hle.trans hle') S'' hl⟩
end
end

section
local macro_rules | `(tactic| walk_at "lk") => `(tactic| first | with_reducible assumption | with_reducible exact up_self _ _ _ | with_reducible exact up_get (by with_unfolding_all decide) (by walk_at "lk") | with_unfolding_all rfl)
local macro_rules | `(tactic| walk_at "g") => `(tactic| with_reducible first
  | refine s_assign ?_
  | refine s_setattr ?_
  | refine s_setitem ?_
  | refine s_assign2 ?_
  | refine s_ret ?_
  | refine s_if1 ?_
  | refine s_if ?_
  | refine s_for ?_
  | refine s_aug ?_
  | refine s_expr ?_
  | refine s_nil ?_
  | refine s_continue ?_
  | refine s_break ?_
  | refine t_cmp ?_
  | refine t_not ?_
  | refine t_or ?_
  | refine t_or1 ?_
  | refine t_and ?_
  | refine t_and1 ?_
  | refine e_or ?_
  | refine e_and ?_
  | refine e_bool1 ?_
  | refine e_attr ?_
  | refine GM.isupper ?_
  | refine GM.split ?_
  | refine GM.join ?_
  | refine GM.endswith ?_
  | refine endswith1 ?_
  | refine e_mcall ?_
  | refine e_call ?_
  | refine e_sub ?_
  | refine e_bin ?_
  | refine e_ite ?_
  | refine s_assert ?_
  | refine e_neg ?_
  | (refine neg_i (by assumption) ?_; intro _ _ _)
  | refine e_cmp ?_
  | refine e_slice_sn ?_
  | refine e_slice_ns ?_
  | refine e_slice_ss ?_
  | refine a_nil ?_
  | refine a_cons ?_
  | refine c_type ?_
  | refine c_builtin ?_
  | refine c_meth ?_
  | refine c_builtin0 ?_
  | (refine cint (by assumption) ?_; intro _ _ _)
  | (refine cstr (by assumption) ?_; intro _ _ _)
  | refine wpAny_Constant_none ?_
  | refine wpAny_Constant_bool ?_
  | refine ldl (by assumption) (by walk_at "lk") ?_
  | refine ldlN (by assumption) (by walk_at "lk") ?_
  | refine ldn (by assumption) (by with_unfolding_all rfl) ?_
  | (refine stl (by assumption) ?_; intro _ _)
  | (refine max2 (by assumption) (by with_unfolding_all assumption) ?_; intro _ _ _)
  | (refine min2 (by assumption) (by with_unfolding_all assumption) ?_; intro _ _ _)
  | (refine Mine.sub_int (by assumption) ?_; intro _ _ _)
  | (refine Mine.add_int (by assumption) ?_; intro _ _ _)
  | (refine Mine.mod_pos (by assumption) (by omega) ?_; intro _ _ _)
  | (refine Mine.div_pos (by assumption) (by omega) (by omega) ?_; intro _ _ _)
  | (refine Mine.len_str (by assumption) (by omega) ?_; intro _ _ _)
  | refine gm_append (by assumption) (by with_unfolding_all k_mem) ?_
  | (refine append0 (by assumption) (by omega) ?_; intro _ _ _)
  | (refine append1 (by assumption) (by omega) ?_; intro _ _ _)
  | (refine append2 (by assumption) (by omega) ?_; intro _ _ _)
  | refine e_tup ?_
  | refine e_listF ?_
  | refine eqI ?_
  | refine geI ?_
  | refine leI ?_
  | refine gtI ?_
  | refine eqS ?_
  | refine isNone ?_
  | refine isntNone ?_
  | refine And.intro rfl ?_
  | refine wpAny_truthy_bool ?_
  | refine t_val ?_)
local macro_rules | `(tactic| walk_at "gg") => `(tactic| repeat' (first | walk_at "g" | dsimp only))
local macro_rules | `(tactic| walk_at "h") => `(tactic| with_reducible first
  | refine s_assign ?_
  | refine s_setattr ?_
  | refine s_setitem ?_
  | refine s_assign2 ?_
  | refine s_ret ?_
  | refine s_if1 ?_
  | refine s_if ?_
  | refine s_for ?_
  | refine s_aug ?_
  | refine s_expr ?_
  | refine s_nil ?_
  | refine s_continue ?_
  | refine s_break ?_
  | refine e_or ?_
  | refine e_and ?_
  | refine e_bool1 ?_
  | refine e_attr ?_
  | refine GM.isupper ?_
  | refine GM.split ?_
  | refine GM.join ?_
  | refine GM.endswith ?_
  | refine endswith1 ?_
  | refine e_mcall ?_
  | refine e_call ?_
  | refine e_sub ?_
  | refine e_bin ?_
  | refine e_ite ?_
  | refine s_assert ?_
  | refine e_neg ?_
  | (refine neg_i (by assumption) ?_; intro _ _ _)
  | refine e_cmp ?_
  | refine e_slice_sn ?_
  | refine e_slice_ns ?_
  | refine e_slice_ss ?_
  | refine a_nil ?_
  | refine a_cons ?_
  | refine c_type ?_
  | refine c_builtin ?_
  | refine c_meth ?_
  | refine c_builtin0 ?_
  | (refine cint (by assumption) ?_; intro _ _ _)
  | (refine cstr (by assumption) ?_; intro _ _ _)
  | refine wpAny_Constant_none ?_
  | refine wpAny_Constant_bool ?_
  | refine ldl (by assumption) (by walk_at "lk") ?_
  | refine ldlN (by assumption) (by walk_at "lk") ?_
  | refine ldn (by assumption) (by with_unfolding_all rfl) ?_
  | (refine stl (by assumption) ?_; intro _ _)
  | (refine max2 (by assumption) (by with_unfolding_all assumption) ?_; intro _ _ _)
  | (refine min2 (by assumption) (by with_unfolding_all assumption) ?_; intro _ _ _)
  | (refine Mine.sub_int (by assumption) ?_; intro _ _ _)
  | (refine Mine.add_int (by assumption) ?_; intro _ _ _)
  | (refine Mine.mod_pos (by assumption) (by omega) ?_; intro _ _ _)
  | (refine Mine.div_pos (by assumption) (by omega) (by omega) ?_; intro _ _ _)
  | (refine Mine.len_str (by assumption) (by omega) ?_; intro _ _ _)
  | refine gm_append (by assumption) (by with_unfolding_all k_mem) ?_
  | (refine append0 (by assumption) (by omega) ?_; intro _ _ _)
  | (refine append1 (by assumption) (by omega) ?_; intro _ _ _)
  | (refine append2 (by assumption) (by omega) ?_; intro _ _ _)
  | refine e_tup ?_
  | refine e_listF ?_
  | refine eqI ?_
  | refine geI ?_
  | refine leI ?_
  | refine gtI ?_
  | refine eqS ?_
  | refine isNone ?_
  | refine isntNone ?_
  | refine And.intro rfl ?_
  | refine wpAny_truthy_bool ?_)
local macro_rules | `(tactic| walk_at "hh") => `(tactic| repeat' (first | walk_at "h" | dsimp only))

-- PART F31 --
section
open PySem PySem.W PySem.Calls PyProof.Rows
theorem ldcF {M : Model} {w : World} {A : Around} {E : Value → Shared → Prop} {s₀ s : Shared} {g₀ g : Mem} {X : List Addr} {L : Addr} {m : Str → Option Value} {c : List (Addr × Obj)} {env : Env} {x : Str} {pos : Pos} {ca : Addr} {o : Obj} {v : Value} {Q : Value → Shared → Prop} (S : St w s₀ g₀ X L m c g s) (hf : g ca = some o) (hd : o.data = .cell (some v)) (h : Q v s)
    (hc : env.cells.lookup x = some ca := by with_unfolding_all rfl) (hk : env.scope.kind = .function := by with_unfolding_all rfl) (hl : env.kindOf x = some .cell := by with_unfolding_all rfl) (hdb : (x == ("__debug__" : Str)) = false := by with_unfolding_all rfl) :
    wpAny M A (eval (.Name x pos) env) Q E s := ldc (S.gg _ _ hf) hd h hc hk hl hdb
theorem falls_len (has : T → Bool) (p : Nat) (told : T) (l : Nat) : (falls has p told l).length ≤ 4 := by
  unfold falls
  rw [List.length_map]
  refine Nat.le_trans (List.length_filter_le _ _) ?_
  rw [List.length_range]; omega
theorem flat_len {α β : Type} {f : α → List β} {k : Nat} (h : ∀ a, (f a).length ≤ k) : ∀ l : List α, (l.flatMap f).length ≤ k * l.length
  | [] => by simp
  | a :: l => by
    have := flat_len h l
    have := h a
    rw [List.flatMap_cons, List.length_append, List.length_cons, Nat.mul_succ]; omega
theorem rows_len {ks : List (T × List T)} {told : T} (ht : told.length ≤ 24) (b c : Bool) : (rowsFrom ks b c told 0).length ≤ 10000 := by
  unfold rowsFrom
  rw [List.length_append]
  have h1 : ∀ p, (rowsAt ks b c told p).length ≤ 5 := fun p => by
    unfold rowsAt
    rw [List.length_append, List.length_singleton]
    have := falls_len (hasT ks) p told (Lp ks told (p + 1)).length
    split
    · omega
    · simp
  have h2 := flat_len h1 (List.range' 0 (told.length - 0))
  rw [List.length_range'] at h2
  have h3 := falls_len (hasT ks) told.length told 0
  have h4 : (if b = true then falls (hasT ks) told.length told 0 else []).length ≤ 4 := by
    split
    · exact h3
    · simp
  omega
theorem upper_N : Txt.isupper (S [78]) = true := by decide +kernel
theorem str_hit : Str.ofString "Hit" = S tHit := by decide +kernel
theorem str_N : Str.ofString "N" = S [78] := by decide +kernel
theorem part_hit : Part tHit := ⟨72, [105, 116], rfl, by decide +kernel, by decide, by decide, by decide +kernel⟩
theorem part_N {s : T} (h4 : s.length ≤ 4) (ha : ∀ c ∈ s, abc c) : Part (78 :: s) := by
  refine ⟨78, s, rfl, by decide +kernel, by omega, ?_, ?_⟩
  · intro hm
    rcases List.mem_cons.mp hm with h | h
    · cases h
    · rcases ha _ h with h | h | h <;> cases h
  · unfold hasK valueAt
    have hne : ∀ l : T, (∃ c r, l = 84 :: r ∨ l = 83 :: r ∨ (l = 78 :: c :: r ∧ ¬ abc c)) → ¬ S l = S (78 :: s) := fun l ⟨c, r, h⟩ e => by
      have e := S_inj.mp e
      rcases h with rfl | rfl | ⟨rfl, hc⟩
      · cases e
      · cases e
      · cases e; exact hc (ha c (List.mem_cons_self ..))
    have k1 : Str.ofString "Token" = S [84, 111, 107, 101, 110] := by decide +kernel
    have k2 : Str.ofString "String" = S [83, 116, 114, 105, 110, 103] := by decide +kernel
    have k3 : Str.ofString "Number" = S [78, 117, 109, 98, 101, 114] := by decide +kernel
    have n1 : ¬ Str.ofString "Token" = S (78 :: s) := by rw [k1]; exact hne _ ⟨0, _, .inl rfl⟩
    have n2 : ¬ Str.ofString "String" = S (78 :: s) := by rw [k2]; exact hne _ ⟨0, _, .inr (.inl rfl)⟩
    have n3 : ¬ Str.ofString "Number" = S (78 :: s) := by rw [k3]; exact hne _ ⟨117, _, .inr (.inr ⟨rfl, by unfold abc; decide⟩)⟩
    unfold aliasKvs
    rw [List.find?_cons, decide_eq_false n1, List.find?_cons, decide_eq_false n2, List.find?_cons, decide_eq_false n3]
    rfl
theorem nm_parts {ks : List (T × List T)} (H : Trie ks) {x : T} {nm : List T} (h : nmOf ks x = some nm) : nm ≠ [] ∧ nm.length ≤ 5 ∧ (∀ e ∈ nm, Part e) ∧ (nm.map List.length).sum ≤ 25 ∧ (dots nm).length ≤ 100 := by
  have hx : hasT ks x = true := Option.isSome_iff_exists.mpr ⟨_, h⟩
  have h4 := H.abc x hx
  obtain ⟨r, hr, hall⟩ := H.nm_head _ _ rfl nm h
  have hl := H.nm_len _ _ rfl nm h
  have hp : ∀ e ∈ nm, Part e ∧ e.length ≤ 5 := fun e he => by
    rw [hr] at he
    rcases List.mem_cons.mp he with rfl | he
    · exact ⟨part_hit, by decide⟩
    · obtain ⟨s, rfl, _, hs⟩ := hall e he
      have hsl := hs.length_le
      exact ⟨part_N (by omega) (fun c hc => h4.2 c (hs.subset hc)), by rw [List.length_cons]; omega⟩
  have hsum : ∀ l : List T, (∀ e ∈ l, e.length ≤ 5) → (l.map List.length).sum ≤ 5 * l.length := fun l => by
    induction l with
    | nil => intro _; simp
    | cons a l ih =>
      intro hh
      have := ih fun e he => hh e (List.mem_cons_of_mem _ he)
      have := hh a (List.mem_cons_self ..)
      rw [List.map_cons, List.sum_cons, List.length_cons]; omega
  have h1 := hsum nm fun e he => (hp e he).2
  have h2 := dots_len nm
  exact ⟨by rw [hr]; simp, by omega, fun e he => (hp e he).1, by omega, by omega⟩
theorem room_0 {A : Around} (r : Room A 1) : A.units < cLine := by have := r.un; omega
theorem hoped_names {ks : List (T × List T)} (H : Trie ks) {told : T} {b : Bool} {j : Nat} : (hoped ks b told j).names.length ≤ 6 := by
  unfold hoped
  dsimp only
  by_cases hL : Lp ks told (j + 1) = []
  · rw [if_pos hL]
    unfold nlOf
    repeat' split
    all_goals simp
  · rw [if_neg hL]
    obtain ⟨nm, hn⟩ := hasT_some (H.longest_mem (told.take (j + 1)))
    have hn' : nmOf ks (Lp ks told (j + 1)) = some nm := hn
    rw [hn']
    have := (nm_parts H hn').2.1
    show nm.length ≤ 6
    omega
theorem room_u {A : Around} (r : Room A 1) : A.in1.units < cLine := by have := r.un; show A.units + 1 < _; omega
def IsAsk (ks : List (T × List T)) (g : Mem) (v : Value) (wd : T) : Prop := ∃ a v1 v2 nm, v = .ref a ∧ TupAt g a [v1, v2] ∧ IsT v1 wd ∧ IsTok g v2 nm ∧ nmOf ks wd = some nm
theorem IsAsk.mono {ks : List (T × List T)} {g g' : Mem} {v : Value} {wd : T} (h : IsAsk ks g v wd) (k : Le g g') : IsAsk ks g' v wd := let ⟨a, v1, v2, nm, h1, h2, h3, h4, h5⟩ := h; ⟨a, v1, v2, nm, h1, h2.mono k, h3, h4.mono k, h5⟩
theorem rows_quiet {ks : List (T × List T)} {told : T} (b : Bool) : rowsFrom ks false b told 0 = (List.range' 0 told.length).map (hoped ks b told) := by
  unfold rowsFrom
  rw [Nat.sub_zero, if_neg (by decide), List.append_nil]
  induction (List.range' 0 told.length) with
  | nil => rfl
  | cons a l ih => rw [List.flatMap_cons, ih]; rfl
theorem notin_dict {prog : Program} {w : World} {A : Around} {E : Value → Shared → Prop} {s₀ s : Shared} {g₀ g : Mem} {X : List Addr} {L : Addr} {m : Str → Option Value} {c : List (Addr × Obj)} {o : Obj} {kvs : List (Str × Value)} {d : Addr} {x : Str} {t : Tok} {Q : Value → Shared → Prop} (S : St w s₀ g₀ X L m c g s) (hd : s.heap.get? d = some o) (D : DictObj prog w o kvs)
    (h : ∀ s', St w s₀ g₀ X L m c g s' → Q (.bool (!(valueAt kvs x).isSome)) s') (hm : (d == sysModules) = false) : wpAny (model prog w) A (compareOp .NotIn (.str x t) (.ref d)) Q E s :=
  wpAny_notIn_of (strKind_is prog w x t) hm (D.dictOf hd).mapOf (h _ (S.toks _))
section
variable {prog : Program} {w : World} {A : Around} {s : Shared} {g : Mem}
theorem law_spec (hr : Room A 14) (B : Base w g) (hg : Le g s.heap.get?) {sl : Addr} {vs : List Value} {ns : List Int} (hl : LstAt g sl vs) (hv : All2 IsInt vs ns) (hn : vs.length ≤ 63) (hbare : AllBare s.gens)
    {R : Result → Shared → Prop} (h : ∀ s', (∀ b o, s.heap.get? b = some o → s'.heap.get? b = some o) → s'.os = s.os → AllBare s'.gens → R (.ok (.ret (.bool true))) s') :
    codeAny (model prog w) A (.call (.ref 802) ⟨[.ref sl], []⟩) R s := by
  refine enterC (x := "script") (n1 := "told") (n2 := "kinds") (n3 := "place") (n4 := "kind") B hg (f := 802) rfl (by kernel_rfl) hr.lt rfl rfl (fun L => rfl) (by decide +kernel) fun L s₁ o1 o2 o3 o4 d1 d2 d3 d4 S₁ => ?_
  have hr₁ : ∀ e, Room (A.deeper e) 13 := fun e => hr.deeper e
  have hh := hr.hd
  walk_at "gg"
  refine c_fn (by assumption) (by kernel_rfl) ?_
  walk_at "gg"
  refine St.kinH (by assumption) ?_
  refine wpAny_call (found_spec ((hr₁ _).mono (by omega)) S₁.baseG S₁.gg hl hv hn ?_)
  intro fl ws us s₂ g₂ P₂ hfl hfo hus hws hwl
  have S₂ := St.after S₁ P₂
  walk_at "gg"
  refine c_fn (by assumption) (by kernel_rfl) ?_
  walk_at "gg"
  rename_i s₃ S₃
  refine St.kinH S₃ ?_
  refine wpAny_call (told_spec ((hr₁ _).mono (by omega)) S₃.baseG S₃.gg (hl.mono P₂.grow) hv hn hfo hus hws hwl ?_)
  intro told tt s₄ P₄ htok htl
  have S₄ := St.after S₃ P₄
  refine stc S₄ d1 ?_; intro o1' s₅ d1' S₅
  have hL0 : s.heap.objs.size ≤ L := S₁.above.resolve_right (by simp)
  have S₆ := S₅.freezeN (Nat.le_succ_of_le hL0)
  have hle₆ := Mem.le_put (o := o1') (S₅.cc _ (List.mem_cons_self ..)).2.2.1
  have ht₆ : (g₂.put (L + 1) o1') (L + 1) = some o1' := Mem.put_self ..
  have hfo₆ := hfo.mono hle₆
  revert ht₆ hfo₆ S₆
  generalize g₂.put (L + 1) o1' = g₆
  intro S₆ ht₆ hfo₆
  walk_at "gg"
  refine e_dict1 S₆ ?_
  intro kd od s₇ S₇ hkm hkl
  walk_at "gg"
  refine wpAny_bind ?_
  walk_at "gg"
  refine c_fn (by assumption) (by kernel_rfl) ?_
  walk_at "gg"
  rename_i s₈ S₈
  refine St.kinH S₈ ?_
  rw [str_hit]
  refine wpAny_call (totype_spec (xs := [tHit]) ((hr₁ _).mono (by omega)) S₈.baseG S₈.gg (by simp) (by simp) (by intro x hx; rw [List.mem_singleton.mp hx]; exact part_hit) (by decide) ?_)
  intro hv₀ s₉ g₉ P₉ K₉
  have S₉ := St.after S₈ P₉
  refine wpAny_bind (wpAny_standAt (wpAny_pure ⟨_, _, g₉, _, _, rfl, S₉, fun od₁₀ s₁₀ S₁₀ D₁₀ => ?_⟩))
  refine stc S₁₀.swap d2 ?_; intro o2' s₁₁ d2' S₁₁
  have S₁₂ := S₁₁.freezeN (Nat.le_succ_of_le (Nat.le_succ_of_le hL0))
  have hle₁₂ := Mem.le_put (o := o2') (S₁₁.cc _ (List.mem_cons_self ..)).2.2.1
  have hk₁₂ : (g₉.put (L + 1 + 1) o2') (L + 1 + 1) = some o2' := Mem.put_self ..
  have ht₁₂ := hle₁₂ _ _ (P₉.grow _ _ ht₆)
  have hfo₁₂ := (hfo₆.mono P₉.grow).mono hle₁₂
  have K₁₂ := K₉.mono hle₁₂
  revert hk₁₂ ht₁₂ hfo₁₂ K₁₂ S₁₂
  generalize g₉.put (L + 1 + 1) o2' = g₁₂
  intro S₁₂ hk₁₂ ht₁₂ hfo₁₂ K₁₂
  rw [str_nil] at D₁₀
  walk_at "gg"
  have hul := hus.length
  have hT0 : Trie (kr ws 0) := kw_trie hws (n := 0) (j := 0) (by omega) (Nat.zero_le _)
  refine call_range2 (by assumption) ?_; intro s₁₃ rr _ _ _ S₁₃ hR
  walk_at "gg"
  refine range_loop S₁₃ hR hh 4 (by rw [rangeSize_one]; decide) (small_one (by omega) (by omega) (by omega) (by omega))
    (fun i g' m' c' => (∃ od' kvs, c' = [(kd, od'), (L + 1 + 1 + 1, o3), (L + 1 + 1 + 1 + 1, o4)] ∧ DictObj prog w od' kvs ∧ All2 (fun (p : Str × Value) (k : T × List T) => p.1 = S k.1 ∧ IsTok g' p.2 k.2) kvs (kr ws i)) ∧ m' "found" = some (.ref fl))
    ⟨⟨od₁₀, _, rfl, D₁₀, ⟨rfl, K₁₂⟩, trivial⟩, by walk_at "lk"⟩ ?_ ?_
  · rintro it o i g' m' c' s₁₄ tk E' hi hle ⟨⟨od', kvs, rfl, D, hkv⟩, hm1⟩ S₁₄
    walk_at "gg"
    obtain ⟨ofl, hofl, hflc, kfl, hfld⟩ := id (hfo₁₂.mono hle)
    refine list_loop S₁₄ hofl hflc hfld hh
      (fun j g'' m'' c'' => (∃ od' kvs, c'' = [(it, o), (kd, od'), (L + 1 + 1 + 1, o3), (L + 1 + 1 + 1 + 1, o4)] ∧ DictObj prog w od' kvs ∧ All2 (fun (p : Str × Value) (k : T × List T) => p.1 = S k.1 ∧ IsTok g'' p.2 k.2) kvs (kw ws (kr ws i) (i + 1) j)) ∧ m'' "found" = some (.ref fl) ∧ ∃ tk', m'' "size" = some (.int ((i + 1 : Nat) : Int) tk'))
      ⟨⟨od', kvs, rfl, D, hkv⟩, by walk_at "lk", tk, ?_⟩ ?_ ?_
    · rw [up_self]; congr 2; omega
    · rintro it₂ o₂ j g'' m'' c'' s₁₅ v E'' hj hle₁₅ ⟨⟨od₁₅, kvs₁₅, rfl, D₁₅, hkv₁₅⟩, hm1, tk', hm2⟩ S₁₅
      have hvj : us[j]? = some v := by simpa using hj
      obtain ⟨wd, hwd, twd, rfl⟩ := All2.get hus hvj
      have hwok := hws wd (List.mem_of_getElem? hwd)
      have hle₂ := hle.trans hle₁₅
      have hk₂ := hle₂ _ _ hk₁₂
      walk_at "gg"
      refine sub_str_ns (by assumption) (by rw [S_len, sizeLine_eq]; have := hwok.2.1; omega) ?_; intro t₁₆ s₁₆ S₁₆
      rw [slice_ns]
      walk_at "gg"
      rename_i s₁₇ S₁₇
      refine ldcF S₁₇ hk₂ d2' ?_
      walk_at "gg"
      have hhas := hasK_T hkv₁₅
      have hget := kinds_get hkv₁₅
      have hjl : j < ws.length := by
        rcases Nat.lt_or_ge j ws.length with z | z
        · exact z
        · rw [List.getElem?_eq_none z] at hwd; cases hwd
      have hT := kw_trie hws (n := i) (j := j) hi (Nat.le_of_lt hjl)
      have hKl := kw_len hws (n := i) (j := j) hi (Nat.le_of_lt hjl) (by omega)
      have hkl : kvs₁₅.length ≤ 17 := by have := hkv₁₅.length; omega
      have hstep := kw_succ (ks := kr ws i) (n := i + 1) hwd
      refine notin_dict S₁₇ (S₁₇.cell (by simp)) D₁₅ ?_ hkm; intro s₁₈ S₁₈
      walk_at "gg"
      have e1 : (valueAt kvs₁₅ (S (wd.take (i + 1)))).isSome = hasT (kw ws (kr ws i) (i + 1) j) (wd.take (i + 1)) := by rw [← hhas]; rfl
      rw [e1]
      cases hb : hasT (kw ws (kr ws i) (i + 1) j) (wd.take (i + 1)) with
      | true =>
        rw [if_neg (by decide)]
        walk_at "gg"
        refine ⟨g'', _, _, hle₁₅, S₁₈, ⟨od₁₅, kvs₁₅, rfl, D₁₅, ?_⟩, by walk_at "lk", tk', by walk_at "lk"⟩
        rw [hstep]; unfold addK; rw [if_pos hb]; exact hkv₁₅
      | false =>
        rw [if_pos (by decide)]
        walk_at "gg"
        refine ldcF S₁₈ hk₂ d2' ?_
        walk_at "gg"
        refine c_fn S₁₈ (by kernel_rfl) ?_
        walk_at "gg"
        rename_i s₁₉ S₁₉
        have hhl : (wd.take (i + 1)).length ≤ 4 := by have := hwok.2.1; rw [List.length_take]; omega
        refine sub_str_sn S₁₉ (by rw [S_len, sizeLine_eq]; omega) ?_; intro t₂₀ s₂₀ S₂₀
        rw [show ((1 : Int)) = ((1 : Nat) : Int) from rfl, slice_sn]
        walk_at "gg"
        refine ldcF S₂₀ hk₂ d2' ?_
        walk_at "gg"
        refine St.kinH S₂₀ ?_
        refine wpAny_call (longest_spec ((hr₁ _).mono (by omega)) S₂₀.baseG S₂₀.gg (by rw [List.length_drop]; omega) (S₂₀.cell (by simp)) hkm D₁₅ ?_)
        intro t₂₁ s₂₁ P₂₁
        have S₂₁ := St.after S₂₀ P₂₁
        rw [hhas]
        obtain ⟨nm', hnm'⟩ := hasT_some (hT.longest_mem ((wd.take (i + 1)).drop 1))
        have hg1 := hget (longest (hasT (kw ws (kr ws i) (i + 1) j)) ((wd.take (i + 1)).drop 1))
        rw [hnm'] at hg1
        obtain ⟨tv, htv, Ktv⟩ := hg1
        refine d_get S₂₁ (S₂₁.cell (by simp)) D₁₅ htv ?_; intro s₂₂ S₂₂
        refine tok_child S₂₂ Ktv ?_
        walk_at "gg"
        refine c_fm S₂₂ (by kernel_rfl) ?_
        walk_at "gg"
        rename_i s₂₃ S₂₃
        rw [str_N]
        refine add_str S₂₃ (by simp; omega) ?_; intro t₂₄ s₂₄ S₂₄
        walk_at "gg"
        refine St.kinH S₂₄ ?_
        have hnl := hT.nm_len _ _ rfl nm' hnm'
        have hll := longest_le (hasT (kw ws (kr ws i) (i + 1) j)) ((wd.take (i + 1)).drop 1)
        rw [List.length_drop] at hll
        refine wpAny_call (child_spec (ch := 78) (rest := wd.take (i + 1)) ((hr₁ _).mono (by omega)) S₂₄.baseG S₂₄.gg Ktv (by omega) upper_N (.inl (by intro e; rw [e] at hnl; simp at hnl)) (by omega) ?_)
        intro nv s₂₅ g₂₅ P₂₅ K₂₅
        have S₂₅ := St.after S₂₄ P₂₅
        walk_at "gg"
        refine ldcF S₂₅ (P₂₅.grow _ _ hk₂) d2' ?_
        walk_at "gg"
        refine d_set2 S₂₅ D₁₅ (by omega) ?_; intro od₂₆ s₂₆ S₂₆ D₂₆
        walk_at "gg"
        have hfr : ∀ p ∈ kvs₁₅, p.1 ≠ S (wd.take (i + 1)) := fun p hp e => by
          have : hasK kvs₁₅ (wd.take (i + 1)) = true := by
            unfold hasK valueAt
            cases hf : kvs₁₅.find? fun p => p.1 = S (wd.take (i + 1)) with
            | none => rw [List.find?_eq_none] at hf; exact absurd (decide_eq_true e) (hf p hp)
            | some _ => rfl
          rw [hhas, hb] at this; cases this
        rw [stored_new hfr] at D₂₆
        refine ⟨g₂₅, _, _, hle₁₅.trans P₂₅.grow, S₂₆, ⟨od₂₆, _, rfl, D₂₆, ?_⟩, by walk_at "lk", tk', by walk_at "lk"⟩
        rw [hstep]; unfold addK; rw [if_neg (by rw [hb]; decide), hnm']
        exact (hkv₁₅.mono fun _ _ x => ⟨x.1, x.2.mono P₂₅.grow⟩).snoc ⟨rfl, K₂₅⟩
    · rintro g'' m'' c'' s₁₅ E'' hle₁₅ ⟨⟨od₁₅, kvs₁₅, rfl, D₁₅, hkv₁₅⟩, hm1, tk', hm2⟩ S₁₅
      walk_at "gg"
      refine ⟨g'', _, _, hle.trans hle₁₅, S₁₅, ⟨od₁₅, kvs₁₅, rfl, D₁₅, ?_⟩, hm1⟩
      rw [kr_succ]
      have : us.toArray.size = ws.length := by rw [List.size_toArray, hul]
      rw [this] at hkv₁₅; exact hkv₁₅
  · rintro g₁₄ m₁₄ c₁₄ s₁₄ E₁₄ hle₁₄ ⟨⟨od₁₄, kvs₁₄, rfl, D₁₄, hkv₁₄⟩, hm1⟩ S₁₄
    have S₁₅ := S₁₄.freezeN hkl
    have hl₁₅ := Mem.le_put (o := od₁₄) (S₁₄.cc _ (List.mem_cons_self ..)).2.2.1
    have K₁₅ : IsKinds prog w (g₁₄.put kd od₁₄) kd (kr ws 4) := ⟨od₁₄, kvs₁₄, Mem.put_self .., D₁₄, hkv₁₄.mono fun _ _ x => ⟨x.1, x.2.mono hl₁₅⟩, hkm⟩
    have ht₁₅ := hl₁₅ _ _ (hle₁₄ _ _ ht₁₂)
    have hk₁₅ := hl₁₅ _ _ (hle₁₄ _ _ hk₁₂)
    have hfo₁₅ := (hfo₁₂.mono hle₁₄).mono hl₁₅
    revert ht₁₅ hk₁₅ hfo₁₅ K₁₅ S₁₅
    generalize g₁₄.put kd od₁₄ = g₁₅
    intro S₁₅ K₁₅ ht₁₅ hk₁₅ hfo₁₅
    have H := kr_trie hws
    have Hok := kr_ok hws (by omega)
    have hhw : ∀ wd ∈ ws, hasT (kr ws 4) wd = true := fun wd h => kr_word hws h
    revert K₁₅ H Hok hhw
    generalize kr ws 4 = ks
    intro K₁₅ H Hok hhw
    walk_at "gg"
    refine e_list0 S₁₅ ?_; intro hp s₁₆ S₁₆ hhp
    walk_at "gg"
    refine e_list0 (by assumption) ?_; intro lo s₁₇ S₁₇ hlo
    walk_at "gg"
    rename_i s₁₈ S₁₈
    refine ldcF S₁₈ ht₁₅ d1' ?_
    walk_at "gg"
    refine call_range1 (by assumption) ?_; intro s₁₉ rr₁₉ _ _ _ S₁₉ hR₁₉
    walk_at "gg"
    refine range_cell S₁₉.rot ⟨_, d3⟩ hR₁₉ hh told.length (by rw [rangeSize_one]; split <;> omega) (small_one (by omega) (by omega) (by omega) (by omega))
      (fun i g' m' c' => ∃ nl nh lv hvs, c' = [(lo, lst lv nl), (hp, lst hvs nh), (L + 1 + 1 + 1 + 1, o4)] ∧ All2 (IsRow g') hvs ((List.range' 0 i).flatMap (rowsAt ks false false told)) ∧ All2 (IsRow g') lv ((List.range' 0 i).flatMap (rowsAt ks true false told)) ∧ hvs.length ≤ i ∧ lv.length ≤ 5 * i ∧ m' "found" = some (.ref fl) ∧ m' "hoped" = some (.ref hp) ∧ m' "loudly" = some (.ref lo))
      ⟨0, 0, [], [], rfl, trivial, trivial, by simp, by simp, by walk_at "lk", by walk_at "lk", by walk_at "lk"⟩ ?_ ?_
    · rintro it o oc i g' m' c' s₂₀ tk E' hi hle ⟨nl, nh, lv, hvs, rfl, hhr, hlr, hhl, hll, hm1, hm2, hm3⟩ hoc S₂₀
      rw [Int.zero_add] at hoc
      obtain ⟨ch, hch⟩ : ∃ ch, told[i]? = some ch := ⟨_, List.getElem?_eq_getElem hi⟩
      have htg := hle _ _ ht₁₅
      have hkg := hle _ _ hk₁₅
      obtain ⟨odk, kvs, hkd, Dk, hkv, _⟩ := id (K₁₅.mono hle)
      have hhas := hasK_T hkv
      have hget := kinds_get hkv
      walk_at "gg"
      refine c_fn S₂₀ (by kernel_rfl) ?_
      walk_at "gg"
      refine ldcF S₂₀ htg d1' ?_
      walk_at "gg"
      refine ldc S₂₀.cell0 hoc ?_
      walk_at "gg"
      rename_i s₂₁ S₂₁
      rw [show ((i : Int) + 1) = ((i + 1 : Nat) : Int) from by omega]
      refine sub_str_ns S₂₁ (by rw [S_len, sizeLine_eq]; omega) ?_; intro t₂₂ s₂₂ S₂₂
      rw [slice_ns]
      walk_at "gg"
      refine ldcF S₂₂ hkg d2' ?_
      walk_at "gg"
      refine St.kinH S₂₂ ?_
      refine wpAny_call (longest_spec ((hr₁ _).mono (by omega)) S₂₂.baseG S₂₂.gg (by rw [List.length_take]; omega) (S₂₂.gg _ _ hkd) hkm Dk ?_)
      intro t₂₃ s₂₃ P₂₃
      have S₂₃ := St.after S₂₂ P₂₃
      rw [hhas]
      have hLp : longest (hasT ks) (told.take (i + 1)) = Lp ks told (i + 1) := rfl
      rw [hLp]
      have hLpl : (Lp ks told (i + 1)).length ≤ 4 := (H.abc _ (H.longest_mem _)).1
      refine stl S₂₃ ?_; intro s₂₄ S₂₄
      refine s_assign ?_
      refine wp_mid (fun v s' => ∃ g'' na, Le g' g'' ∧ v = .ref na ∧ St w s g [] L (up m' "head" (.str (S (Lp ks told (i + 1))) t₂₃)) [(L + 1 + 1 + 1, oc), (it, o), (lo, lst lv nl), (hp, lst hvs nh), (L + 1 + 1 + 1 + 1, o4)] g'' s' ∧ IsTs g'' v (if ch = 100 then [tError] else [tText])) ?_ ?_
      · skip
        walk_at "gg"
        refine ldcF S₂₄ htg d1' ?_
        walk_at "gg"
        refine ldc S₂₄.cell0 hoc ?_
        refine item_str S₂₄ (by omega) (by omega) (by rw [Int.toNat_natCast]; exact hch) ?_; intro t₂₅ s₂₅ S₂₅
        walk_at "gg"
        rename_i s₂₆ S₂₆
        rw [str_d]
        refine eqS ?_
        walk_at "gg"
        by_cases hc : ch = 100
        · rw [if_pos (by simp [hc])]
          walk_at "gg"
          rw [str_error]
          refine newTup (by assumption) (by simp) ?_; intro na g₂₇ s₂₇ hl₂₇ S₂₇ hna
          exact ⟨g₂₇, na, hl₂₇, rfl, S₂₇, by rw [if_pos hc]; exact ⟨na, _, rfl, hna, ⟨_, rfl⟩, trivial⟩⟩
        · rw [if_neg (by simp [hc])]
          walk_at "gg"
          rw [str_text]
          refine newTup (by assumption) (by simp) ?_; intro na g₂₇ s₂₇ hl₂₇ S₂₇ hna
          exact ⟨g₂₇, na, hl₂₇, rfl, S₂₇, by rw [if_neg hc]; exact ⟨na, _, rfl, hna, ⟨_, rfl⟩, trivial⟩⟩
      rintro v s₂₅ ⟨g₂₅, na, hl₂₅, rfl, S₂₅, Kn⟩
      refine stl S₂₅ ?_; intro s₂₆ S₂₆
      refine s_if1_mid (fun s' => ∃ g'' m'' na, Le g₂₅ g'' ∧ St w s g [] L m'' [(L + 1 + 1 + 1, oc), (it, o), (lo, lst lv nl), (hp, lst hvs nh), (L + 1 + 1 + 1 + 1, o4)] g'' s' ∧ m'' "names" = some (.ref na) ∧ IsTs g'' (.ref na) (if ch = 10 then [tText, tWhite] else if ch = 100 then [tError] else [tText]) ∧ m'' "head" = some (.str (S (Lp ks told (i + 1))) t₂₃) ∧ m'' "found" = some (.ref fl) ∧ m'' "hoped" = some (.ref hp) ∧ m'' "loudly" = some (.ref lo)) ?_ ?_
      · skip
        walk_at "gg"
        refine ldcF S₂₆ (hl₂₅ _ _ htg) d1' ?_
        walk_at "gg"
        refine ldc S₂₆.cell0 hoc ?_
        refine item_str S₂₆ (by omega) (by omega) (by rw [Int.toNat_natCast]; exact hch) ?_; intro t₂₇ s₂₇ S₂₇
        walk_at "gg"
        rename_i s₂₈ S₂₈
        rw [str_nl]
        refine eqS ?_
        walk_at "gg"
        by_cases hc : ch = 10
        · rw [if_pos (by simp [hc])]
          walk_at "gg"
          rw [str_text, str_white]
          refine newTup (by assumption) (by simp) ?_; intro na₂ g₂₉ s₂₉ hl₂₉ S₂₉ hna
          walk_at "gg"
          rename_i s₃₀ S₃₀
          exact ⟨g₂₉, _, na₂, hl₂₉, S₃₀, up_self _ _ _, by rw [if_pos hc]; exact ⟨na₂, _, rfl, hna, ⟨_, rfl⟩, ⟨_, rfl⟩, trivial⟩, by walk_at "lk", by walk_at "lk", by walk_at "lk", by walk_at "lk"⟩
        · rw [if_neg (by simp [hc])]
          exact ⟨g₂₅, _, na, Le.refl _, S₂₈, up_self _ _ _, by rw [if_neg hc]; exact Kn, by walk_at "lk", by walk_at "lk", by walk_at "lk", by walk_at "lk"⟩
      rintro s₂₇ ⟨g₂₇, m₂₇, na₂, hl₂₇, S₂₇, e1, Kn₂, e2, e3, e4, e5⟩
      refine s_if1_mid (fun s' => ∃ g'' m'' na, Le g₂₇ g'' ∧ St w s g [] L m'' [(L + 1 + 1 + 1, oc), (it, o), (lo, lst lv nl), (hp, lst hvs nh), (L + 1 + 1 + 1 + 1, o4)] g'' s' ∧ m'' "names" = some (.ref na) ∧ IsTs g'' (.ref na) (hoped ks false told i).names ∧ m'' "head" = some (.str (S (Lp ks told (i + 1))) t₂₃) ∧ m'' "found" = some (.ref fl) ∧ m'' "hoped" = some (.ref hp) ∧ m'' "loudly" = some (.ref lo)) ?_ ?_
      · skip
        walk_at "gg"
        refine truthyS S₂₇ (by omega) ?_; intro s₂₈ S₂₈
        by_cases hLn : Lp ks told (i + 1) = []
        · rw [if_neg (by rw [hLn]; decide)]
          refine ⟨g₂₇, m₂₇, na₂, Le.refl _, S₂₈, e1, ?_, e2, e3, e4, e5⟩
          unfold hoped nlOf
          dsimp only
          rw [if_pos hLn, hch]
          simpa using Kn₂
        · have hne : (!(Lp ks told (i + 1)).isEmpty) = true := by
            cases hq : Lp ks told (i + 1) with
            | nil => exact absurd hq hLn
            | cons _ _ => rfl
          rw [if_pos hne]
          walk_at "gg"
          refine ldcF S₂₈ (hl₂₇ _ _ (hl₂₅ _ _ hkg)) d2' ?_
          walk_at "gg"
          obtain ⟨nm, hnm⟩ := hasT_some (H.longest_mem (told.take (i + 1)))
          have hg1 := hget (Lp ks told (i + 1))
          have hnm' : nmOf ks (Lp ks told (i + 1)) = some nm := hnm
          rw [hnm'] at hg1
          obtain ⟨tv, htv, Ktv⟩ := hg1
          refine d_get S₂₈ (S₂₈.gg _ _ (hl₂₇ _ _ (hl₂₅ _ _ hkd))) Dk htv ?_; intro s₂₉ S₂₉
          refine tok_names S₂₉ ((Ktv.mono hl₂₅).mono hl₂₇) ?_; intro na₃ nvs s₃₀ S₃₀ hna₃ hnv₃
          walk_at "gg"
          rename_i s₃₁ S₃₁
          refine ⟨g₂₇, _, na₃, Le.refl _, S₃₁, up_self _ _ _, ?_, by walk_at "lk", by walk_at "lk", by walk_at "lk", by walk_at "lk"⟩
          unfold hoped
          dsimp only
          rw [if_neg hLn, hnm']
          exact ⟨na₃, nvs, rfl, hna₃, hnv₃⟩
      rintro s₂₈ ⟨g₂₈, m₂₈, na₃, hl₂₈, S₂₈, f1, Kn₃, f2, f3, f4, f5⟩
      have hl₀ : Le g' g₂₈ := hl₂₅.trans (hl₂₇.trans hl₂₈)
      walk_at "gg"
      refine ldc S₂₈.cell0 hoc ?_
      walk_at "gg"
      refine ldcF S₂₈ (hl₀ _ _ htg) d1' ?_
      walk_at "gg"
      refine ldc S₂₈.cell0 hoc ?_
      refine item_str S₂₈ (by omega) (by omega) (by rw [Int.toNat_natCast]; exact hch) ?_; intro t₂₉ s₂₉ S₂₉
      walk_at "gg"
      refine newTup S₂₉ (by simp) ?_; intro ra g₃₀ s₃₀ hl₃₀ S₃₀ hra
      walk_at "gg"
      have hrow : IsRow g₃₀ (.ref ra) (hoped ks false told i) := by
        refine ⟨ra, _, _, _, tk, rfl, hra, rfl, Kn₃.mono hl₃₀, t₂₉, ?_⟩
        show Value.str (S [ch]) t₂₉ = Value.str (S ((told.drop i).take 1)) t₂₉
        rw [List.take_one, List.head?_drop, hch]; rfl
      refine append0 S₃₀.last4 (by omega) ?_; intro n₃₁ s₃₁ S₃₁
      have S₃₁ := S₃₁.unlast4
      walk_at "gg"
      refine c_fn S₃₁ (by kernel_rfl) ?_
      walk_at "gg"
      refine ldc S₃₁.cell0 hoc ?_
      walk_at "gg"
      have hl₁ : Le g' g₃₀ := hl₀.trans hl₃₀
      refine ldcF S₃₁ (hl₁ _ _ htg) d1' ?_
      walk_at "gg"
      rename_i s₃₂ S₃₂
      refine ldcF S₃₂ (hl₁ _ _ hkg) d2' ?_
      walk_at "gg"
      refine St.kinH S₃₂ ?_
      refine wpAny_call (falls_spec (place := i) (least := (Lp ks told (i + 1)).length) ((hr₁ _).mono (by omega)) S₃₂.baseG S₃₂.gg htl (by omega) (by omega) (hl₁ _ _ hkd) hkm Dk ?_)
      intro fa fus s₃₃ g₃₃ P₃₃ _ hfa hfr
      rw [hhas] at hfr
      have S₃₃ := St.after S₃₂ P₃₃
      walk_at "gg"
      rename_i S₃₃'
      refine item_last (vs := hvs ++ [.ref ra]) (v := .ref ra) S₃₃' ⟨lst (hvs ++ [.ref ra]) n₃₁, S₃₃'.cell (by simp), lst_is _ _⟩ (by simp) ?_
      walk_at "gg"
      refine newLst S₃₃' (by simp) ?_; intro nl₃₄ g₃₄ s₃₄ hl₃₄ S₃₄ hnl
      have hfn := hfr.length
      have hfb : (falls (hasT ks) i told (Lp ks told (i + 1)).length).length ≤ 4 := by
        unfold falls
        rw [List.length_map]
        refine Nat.le_trans (List.length_filter_le _ _) ?_
        rw [List.length_range]; omega
      refine add_lst S₃₄ ((hfa.mono hl₃₄).mono S₃₄.gg) (hnl.mono S₃₄.gg) (by simp; omega) ?_; intro ad g₃₅ s₃₅ hl₃₅ S₃₅ had
      refine iadd_lst S₃₅.rot (had.mono S₃₅.gg) (by simp; omega) ?_; intro n₃₆ s₃₆ S₃₆
      have S₃₆ := S₃₆.unrot
      walk_at "gg"
      rename_i s₃₇ S₃₇
      have hl₃₃ : Le g₃₀ g₃₃ := P₃₃.grow
      have hl₂ : Le g' g₃₅ := hl₁.trans (hl₃₃.trans (hl₃₄.trans hl₃₅))
      have hl₃ : Le g₃₀ g₃₅ := hl₃₃.trans (hl₃₄.trans hl₃₅)
      have hone : All2 (IsRow g₃₅) [.ref ra] [hoped ks false told i] := ⟨hrow.mono hl₃, trivial⟩
      have hl₄ : Le g₃₃ g₃₅ := hl₃₄.trans hl₃₅
      refine ⟨g₃₅, _, _, hle.trans hl₂, S₃₇, n₃₆, n₃₁, _, _, rfl, ?_, ?_, by simp; omega, by simp; omega, by walk_at "lk", by walk_at "lk", by walk_at "lk"⟩
      · rw [List.range'_concat, List.flatMap_append]
        refine All2.append ?_ (hhr.mono fun _ _ x => x.mono hl₂)
        rw [List.flatMap_cons, List.flatMap_nil, List.append_nil, show 0 + 1 * i = i by omega]
        exact hone
      · rw [List.range'_concat, List.flatMap_append]
        refine All2.append ?_ (hlr.mono fun _ _ x => x.mono hl₂)
        rw [List.flatMap_cons, List.flatMap_nil, List.append_nil, show 0 + 1 * i = i by omega]
        unfold rowsAt
        rw [if_pos rfl]
        exact All2.append hone (hfr.mono fun _ _ x => x.mono hl₄)
    · rintro oc g' m' c' s₂₀ E' hd₂₀ hle ⟨nl, nh, lv, hvs, rfl, hhr, hlr, hhl, hll, hm1, hm2, hm3⟩ S₂₀
      have htg := hle _ _ ht₁₅
      have hkg := hle _ _ hk₁₅
      have Kg := K₁₅.mono hle
      obtain ⟨odk, kvs, hkd, Dk, hkv, _⟩ := id Kg
      have hhas := hasK_T hkv
      have hget := kinds_get hkv
      walk_at "gg"
      refine c_fn S₂₀ (by kernel_rfl) ?_
      walk_at "gg"
      refine ldcF S₂₀ htg d1' ?_
      walk_at "gg"
      rename_i s₂₁ S₂₁
      refine ldcF S₂₁ htg d1' ?_
      walk_at "gg"
      rename_i s₂₂ S₂₂
      refine ldcF S₂₂ hkg d2' ?_
      walk_at "gg"
      refine St.kinH S₂₂ ?_
      refine wpAny_call (falls_spec (place := told.length) (least := 0) ((hr₁ _).mono (by omega)) S₂₂.baseG S₂₂.gg htl htl (by omega) hkd hkm Dk ?_)
      intro fa fus s₂₃ g₂₃ P₂₃ _ hfa hfr
      rw [hhas] at hfr
      have hl₂₃ : Le g' g₂₃ := P₂₃.grow
      have S₂₃ := St.after S₂₂ P₂₃
      have hfn := hfr.length
      have hfb : (falls (hasT ks) told.length told 0).length ≤ 4 := by
        unfold falls
        rw [List.length_map]
        refine Nat.le_trans (List.length_filter_le _ _) ?_
        rw [List.length_range]; omega
      refine iadd_lst S₂₃.swap (hfa.mono S₂₃.gg) (by omega) ?_; intro n₂₄ s₂₄ S₂₄
      walk_at "gg"
      rename_i s₂₅ S₂₅
      have hno := (S₂₅.cc _ (List.mem_cons_self ..)).2.2.1
      have S₂₆ := (S₂₅.freezeN hlo).swap
      have hnp := (S₂₆.cc _ (List.mem_cons_self ..)).2.2.1
      have S₂₇ := S₂₆.freezeN hhp
      have hl₂₇ : Le g' ((g₂₃.put lo (lst (lv ++ fus) n₂₄)).put hp (lst hvs nh)) := hl₂₃.trans ((Mem.le_put hno).trans (Mem.le_put hnp))
      have hlp : Le g₂₃ ((g₂₃.put lo (lst (lv ++ fus) n₂₄)).put hp (lst hvs nh)) := (Mem.le_put hno).trans (Mem.le_put hnp)
      have hHp : LstAt ((g₂₃.put lo (lst (lv ++ fus) n₂₄)).put hp (lst hvs nh)) hp hvs := ⟨_, Mem.put_self .., lst_is _ _⟩
      have hLo : LstAt ((g₂₃.put lo (lst (lv ++ fus) n₂₄)).put hp (lst hvs nh)) lo (lv ++ fus) := LstAt.mono ⟨_, Mem.put_self .., lst_is _ _⟩ (Mem.le_put hnp)
      have hHr : All2 (IsRow ((g₂₃.put lo (lst (lv ++ fus) n₂₄)).put hp (lst hvs nh))) hvs (rowsFrom ks false false told 0) := by
        have := hhr.mono fun _ _ x => x.mono hl₂₇
        unfold rowsFrom
        rw [Nat.sub_zero, if_neg (by decide), List.append_nil]; exact this
      have hLr : All2 (IsRow ((g₂₃.put lo (lst (lv ++ fus) n₂₄)).put hp (lst hvs nh))) (lv ++ fus) (rowsFrom ks true false told 0) := by
        unfold rowsFrom
        rw [Nat.sub_zero, if_pos rfl]
        exact All2.append (hfr.mono fun _ _ x => x.mono hlp) (hlr.mono fun _ _ x => x.mono hl₂₇)
      have htg := hl₂₇ _ _ htg
      have hkg := hl₂₇ _ _ hkg
      have Kg := Kg.mono hl₂₇
      have hfog := (hfo₁₅.mono hle).mono hl₂₇
      clear hkd Dk hkv hget hhas hl₂₇ hlp hno hnp
      revert S₂₇ hHp hLo hHr hLr htg hkg Kg hfog
      generalize (g₂₃.put lo (lst (lv ++ fus) n₂₄)).put hp (lst hvs nh) = gA
      intro S₂₇ hHp hLo hHr hLr htg hkg Kg hfog
      walk_at "gg"
      refine c_fn S₂₇ (by kernel_rfl) ?_
      walk_at "gg"
      refine c_fn S₂₇ (by kernel_rfl) ?_
      walk_at "gg"
      refine ldcF S₂₇ hkg d2' ?_
      walk_at "gg"
      rename_i s₂₈ S₂₈
      refine St.kinH S₂₈ ?_
      refine wpAny_call (table_spec ((hr₁ _).mono (by omega)) S₂₈.baseG S₂₈.gg Kg Hok ?_)
      intro td odt s₂₉ g₂₉ P₂₉ htd Ktd
      have hl₂₉ : Le gA g₂₉ := P₂₉.grow
      have S₂₉ := St.after S₂₈ P₂₉
      walk_at "gg"
      refine St.kinH S₂₉ ?_
      have htne : tableOf ks ks.length ≠ [] := by rw [table_eq Hok]; simp
      refine wpAny_call (lexer_new ((hr₁ _).mono (by omega)) S₂₉.baseG S₂₉.gg (lex1 w) (.inl rfl) htd Ktd (table_ok H Hok) htne ?_)
      intro lx s₃₀ g₃₀ P₃₀ Klx
      have hl₃₀ : Le g₂₉ g₃₀ := P₃₀.grow
      have S₃₀ := St.after S₂₉ P₃₀
      obtain ⟨ldx, lod, lk', lmm, lpd, lodp, lI, lN, lh1, lh2, lh3, lh4, lh5⟩ := id Klx
      refine get_meth (f := 595) S₃₀ (lI.mono S₃₀.gg) (lex1 w).ga (lex1 w).gt (by kernel_rfl) (by kernel_rfl) ((lN.look "get_tokens_unprocessed").trans (congrArg some (lh2 _ (by decide)))) ?_
      walk_at "gg"
      refine c_fm S₃₀ (by kernel_rfl) ?_
      walk_at "gg"
      refine ldcF S₃₀ (hl₃₀ _ _ (hl₂₉ _ _ htg)) d1' ?_
      walk_at "gg"
      refine St.kinH S₃₀ ?_
      refine wpAny_call (gen595_spec (rows := rowsFrom ks false false told 0) ((hr₁ _).mono (by omega)) S₃₀.baseG S₃₀.gg (lex1 w) Klx H Hok htl (lex_law H htok) ?_)
      intro Lg₁ ga₁ oL₁ s₃₁ g₃₁ nm₁ qn₁ code₁ P₃₁ hLg₁ hga₁ hLn₁ hLo₁ hgen₁ hgs₁ hrd₁
      have hl₃₁ : Le g₃₀ g₃₁ := P₃₁.grow
      have S₃₁ := S₃₀.afterG P₃₁ hLg₁ hLn₁ hLo₁
      have hb₃₀ : AllBare s₃₀.gens := by rw [S₃₀.gens]; exact hbare
      have hrN : ∀ b c, (rowsFrom ks b c told 0).length ≤ 10000 := fun b c => rows_len htl b c
      walk_at "gg"
      refine list_gen (k := 6) ((hr₁ _).mono (by omega)) S₃₁ hgen₁ (by rw [hgs₁]; exact Array.getElem?_push_size ..) hrd₁ (Le.refl _) (hrN _ _) ?_
      intro qd qvs oL₁' g₃₂ s₃₂ hl₃₂ S₃₂ hqd hqv hGO₁ hfin₁
      have hb₃₂ : AllBare s₃₂.gens := bare_gen hb₃₀ (by rw [← hgs₁]; exact hGO₁) hfin₁
      have hlq : Le gA g₃₂ := hl₂₉.trans (hl₃₀.trans (hl₃₁.trans hl₃₂))
      have S₃₂ := S₃₂.drop
      have htg := hlq _ _ htg
      have hkg := hlq _ _ hkg
      have Kg := Kg.mono hlq
      have hfog := hfog.mono hlq
      have hHp := hHp.mono hlq
      have hLo := hLo.mono hlq
      have hHr := hHr.mono fun _ _ x => x.mono hlq
      have hLr := hLr.mono fun _ _ x => x.mono hlq
      obtain ⟨odk, kvs, hkd, Dk, hkv, _⟩ := id Kg
      have hget := kinds_get hkv
      walk_at "gg"
      rename_i s₃₃ S₃₃
      refine s_assign_comp _ rfl ?_
      walk_at "gg"
      refine it_lst S₃₃ hfog ?_; intro it₃₄ oi₃₄ s₃₄ S₃₄ hoi₃₄
      refine comp_goU S₃₄ hoi₃₄ (Le.refl _) (iter_lst (by exact hh) hfog) (fun s' Q' E' e q => wpAny_pyIter_listiter ⟨oi₃₄, e, hoi₃₄⟩ q) (by omega) (fun i g' vs => All2 (IsAsk ks g') vs (ws.take i)) trivial ?_ ?_ (fun i g' g'' vs hle h => h.mono fun _ _ x => x.mono hle)
      · intro i v g' m' vs' nD C D s₃₅ o' E' hlt hvi hle' hI S₃₅ hO'
        obtain ⟨wd, hwd, twd, rfl⟩ := All2.get hus hvi
        have hwm := List.mem_of_getElem? hwd
        refine as_name S₃₅ ?_; intro s₃₆ S₃₆
        refine t_nil ?_
        rw [if_pos rfl]
        walk_at "gg"
        refine c_fn S₃₆ (by kernel_rfl) ?_
        walk_at "gg"
        refine ldc (S₃₆.gg _ _ (hle' _ _ hkg)) d2' ?_
        walk_at "gg"
        obtain ⟨nm, hnm⟩ := hasT_some (hhw wd hwm)
        have hg1 := hget wd
        rw [hnm] at hg1
        obtain ⟨tv, htv, Ktv⟩ := hg1
        have hpp := nm_parts H hnm
        refine d_get S₃₆ (S₃₆.gg _ _ (hle' _ _ hkd)) Dk htv ?_; intro s₃₇ S₃₇
        walk_at "gg"
        obtain ⟨ta, tdx, tod, tnv, rfl, It, Nt, Kt'⟩ := id (Ktv.mono hle')
        refine repr_own (f := 80) S₃₇ (It.mono S₃₇.gg) (room_u ((hr₁ _).mono (by omega : 1 ≤ 13))) (by kernel_rfl) (by kernel_rfl) ?_
        refine wpAny_call (repr_spec (((hr₁ _).mono (by omega : 2 ≤ 13)).in1) S₃₇.baseG S₃₇.gg (Ktv.mono hle') hpp.1 (by omega) (by omega) ?_)
        intro t₃₈ s₃₈ P₃₈
        have S₃₈ := St.after S₃₇ P₃₈
        show wpAny _ _ (eval _ _) _ _ _
        walk_at "gg"
        rename_i s₃₉ S₃₉
        refine sub_str_sn S₃₉ (by rw [S_len, sizeLine_eq]; have := hpp.2.2.2.2; simp [tToken]; omega) ?_; intro t₄₀ s₄₀ S₄₀
        rw [show ((6 : Int)) = ((6 : Nat) : Int) from rfl, slice_sn, show (tToken ++ 46 :: dots nm).drop 6 = dots nm from rfl]
        walk_at "gg"
        refine St.kinH S₄₀ ?_
        refine wpAny_call (totype_spec (xs := nm) ((hr₁ _).mono (by omega)) S₄₀.baseG S₄₀.gg hpp.1 (by omega) hpp.2.2.1 hpp.2.2.2.2 ?_)
        intro av s₄₁ g₄₁ P₄₁ K₄₁
        have S₄₁ := St.after S₄₀ P₄₁
        have hl₄₁ : Le g' g₄₁ := P₄₁.grow
        walk_at "gg"
        refine newTup S₄₁ (by simp) ?_; intro pa g₄₂ s₄₂ hl₄₂ S₄₂ hpa
        refine ⟨g₄₂, _, hl₄₁.trans hl₄₂, S₄₂, all2_take_succ (hI.mono fun _ _ x => x.mono (hl₄₁.trans hl₄₂)) hwd ?_⟩
        exact ⟨pa, _, _, nm, rfl, hpa, ⟨_, rfl⟩, K₄₁.mono hl₄₂, hnm⟩
      · intro D avs g' s₃₅ hI hle' S₃₅ hD
        rw [hul, List.take_length] at hI
        walk_at "gg"
        refine it_lst S₃₅ (hqd.mono hle') ?_; intro it₄ oi₄ s₄ S₄ hoi₄
        rw [rows_quiet] at hqv
        have hql := hqv.length
        rw [List.length_map, List.length_range'] at hql
        refine loop S₄ hoi₄ (Le.refl _) (iter_lst (by exact hh) (hqd.mono hle')) (fun i g'' m' c' => (∃ oc ok, c' = [(L + 1 + 1 + 1, oc), (L + 1 + 1 + 1 + 1, ok)] ∧ (∃ v₀, oc.data = .cell v₀) ∧ ∃ v₀, ok.data = .cell v₀) ∧ m' "found" = some (.ref fl) ∧ m' "hoped" = some (.ref hp) ∧ m' "loudly" = some (.ref lo) ∧ m' "quiet" = some (.ref qd) ∧ m' "asked" = some (.ref D))
          ⟨⟨oc, o4, rfl, hd₂₀, _, d4⟩, by walk_at "lk", by walk_at "lk", by walk_at "lk", by walk_at "lk", by walk_at "lk"⟩ ?_ ?_
        · rintro j g'' m' c' s₅ oi₅ v E' hj hvj hle'' ⟨⟨oc₅, ok₅, rfl, hc₅, hk₅⟩, e1, e2, e3, e4, e5⟩ S₅ hoi₅
          obtain ⟨r, hrj, hrow⟩ := All2.get hqv hvj
          obtain ⟨hjl, rfl⟩ := row_at hrj
          obtain ⟨ra, v1, v2, v3, rt, rfl, hrt, rfl, hrk, hrv⟩ := hrow
          have hlg := hle'.trans hle''
          refine lo_other S₅.cell0 hoi₅.1 hoi₅.2 (by decide) ?_
          refine as_cells S₅.rot.rot hc₅ hk₅ hh ((hrt.mono hlg).mono S₅.gg) ?_; intro oc₆ ok₆ s₆ hdc hdk S₆
          walk_at "gg"
          refine e_comp _ rfl ?_
          walk_at "gg"
          refine it_lst S₆ (hD.mono hle'') ?_; intro it₇ oi₇ s₇ S₇ ho₇
          have hne₇ : (L + 1 + 1 + 1 : Nat) ≠ it₇ ∧ (L + 1 + 1 + 1 + 1 : Nat) ≠ it₇ := by
            have := S₇.nd
            simp only [List.map_cons, List.map_nil, List.nodup_cons, List.mem_cons, not_or] at this
            exact ⟨Ne.symm this.1.1, Ne.symm this.1.2.1⟩
          have hal := hI.length
          refine comp_go S₇ ho₇ (Le.refl _) (iter_lst (by exact hh) (hD.mono hle'')) (fun s' Q' E' e q => wpAny_pyIter_listiter ⟨oi₇, e, ho₇⟩ q) (by omega) (fun i g' us => All2 IsT us ((ws.take i).filter fun wd => decide (wd <:+ told.take (j + 1)))) trivial ?_ ?_ (fun _ _ _ _ _ x => x)
          · intro i v g₇ m₇ us₇ nD C₇ D₇ s₈ o' E'' hlt hvi hle₇ hI₇ S₈ hO'
            obtain ⟨wd, hwd, pa, w1, w2, nm, rfl, hpt, ⟨tw, rfl⟩, hpk, hpn⟩ := All2.get hI hvi
            have hwn : wd ≠ [] := by
              have := (hws wd (List.mem_of_getElem? hwd)).1
              intro e; rw [e] at this; simp at this
            have hl₇ := hle''.trans hle₇
            refine lo_other S₈.drop.cell0 hO'.1 hO'.2 (by decide) ?_
            refine as_pair S₈ hh ((hpt.mono hl₇).mono S₈.gg) ?_; intro s₉ S₉
            refine t_one ?_
            have hko := S₉.keep _ _ (by simp only [List.mem_singleton]; exact hne₇.2) (S₇.cell (a := L + 1 + 1 + 1 + 1) (o := ok₆) (by simp))
            walk_at "gg"
            refine c_fn S₉ (by kernel_rfl) ?_
            walk_at "gg"
            refine ldc hko hdk ?_
            walk_at "gg"
            refine St.kinH S₉ ?_
            have hnm5 := (nm_parts H hpn).2.1
            have hhn : (hoped ks false told j).names.length ≤ 6 := hoped_names H
            refine wpAny_call (subtype_spec ((hr₁ _).mono (by omega)) S₉.baseG S₉.gg ((hrk.mono hlg).mono hle₇) (hpk.mono hl₇) hhn (by omega) ?_)
            intro s₁₀ P₁₀
            have S₁₀ := St.after S₉ P₁₀
            walk_at "gg"
            have hft := filter_take (f := fun wd => decide (wd <:+ told.take (j + 1))) hwd
            have hwi := within (told := told) (wide := false) H hwn hpn j
            by_cases hs : wd <:+ told.take (j + 1)
            · rw [if_pos (decide_eq_true (hwi.mpr hs))]
              walk_at "gg"
              refine ⟨g₇, _, Le.refl _, S₁₀, ?_⟩
              rw [hft, decide_eq_true hs, if_pos rfl]
              exact hI₇.snoc ⟨_, rfl⟩
            · rw [if_neg (fun h => hs (hwi.mp (of_decide_eq_true h)))]
              refine ⟨g₇, _, Le.refl _, S₁₀, ?_⟩
              rw [hft, decide_eq_false hs, if_neg (by decide), List.append_nil]
              exact hI₇
          intro D₇ us₇ g₇ s₈ hI₇ hle₇ S₈ hD₇ _
          have hl₇ := hlg.trans hle₇
          walk_at "gg"
          refine e_comp _ rfl ?_
          walk_at "gg"
          refine it_lst S₈ (hfog.mono hl₇) ?_; intro it₉ oi₉ s₉ S₉ ho₉
          have hne₉ : (L + 1 + 1 + 1 : Nat) ≠ it₉ := by
            have := S₉.nd
            simp only [List.map_cons, List.map_nil, List.nodup_cons, List.mem_cons, not_or] at this
            exact Ne.symm this.1.1
          refine comp_go S₉ ho₉ (Le.refl _) (iter_lst (by exact hh) (hfog.mono hl₇)) (fun s' Q' E' e q => wpAny_pyIter_listiter ⟨oi₉, e, ho₉⟩ q) (by omega) (fun i g' us => All2 IsT us ((ws.take i).filter fun wd => decide (wd <:+ told.take (j + 1)))) trivial ?_ ?_ (fun _ _ _ _ _ x => x)
          · intro i v g₉ m₉ us₉ nD C₉ D₉ s₁₀ o' E'' hlt hvi hle₉ hI₉ S₁₀ hO'
            obtain ⟨wd, hwd, twd, rfl⟩ := All2.get hus hvi
            refine as_name S₁₀ ?_; intro s₁₁ S₁₁
            refine t_one ?_
            have hpo := S₁₁.keep _ _ (by simp only [List.mem_singleton]; exact hne₉) (S₉.cell (a := L + 1 + 1 + 1) (o := oc₆) (by simp))
            walk_at "gg"
            refine ldc (S₁₁.gg _ _ (hle₉ _ _ (hl₇ _ _ htg))) d1' ?_
            walk_at "gg"
            refine ldc hpo hdc ?_
            walk_at "gg"
            rename_i s₁₂ S₁₂
            rw [show (((hoped ks false told j).p : Int) + 1) = ((j + 1 : Nat) : Int) from by show ((j : Int) + 1) = _; omega]
            refine sub_str_ns S₁₂ (by rw [S_len, sizeLine_eq]; omega) ?_; intro t₁₃ s₁₃ S₁₃
            rw [slice_ns]
            walk_at "gg"
            have hft := filter_take (f := fun wd => decide (wd <:+ told.take (j + 1))) hwd
            by_cases hs : wd <:+ told.take (j + 1)
            · rw [if_pos (decide_eq_true hs)]
              walk_at "gg"
              refine ⟨g₉, _, Le.refl _, S₁₃, ?_⟩
              rw [hft, decide_eq_true hs, if_pos rfl]
              exact hI₉.snoc ⟨_, rfl⟩
            · rw [if_neg (by rw [decide_eq_false hs]; decide)]
              refine ⟨g₉, _, Le.refl _, S₁₃, ?_⟩
              rw [hft, decide_eq_false hs, if_neg (by decide), List.append_nil]
              exact hI₉
          intro D₉ us₉ g₉ s₁₀ hI₉ hle₉ S₁₀ hD₉ _
          walk_at "gg"
          rw [hal, List.take_length] at hI₇
          rw [hul, List.take_length] at hI₉
          refine rcNe_ts ((hD₇.mono hle₉).mono S₁₀.gg) (hD₉.mono S₁₀.gg) hI₇ hI₉ (room_0 ((hr₁ _).mono (by omega : 1 ≤ 13))) prog w _ _ ?_
          walk_at "gg"
          rw [if_neg (by decide)]
          walk_at "gg"
          exact ⟨g₉, _, _, oi₅, hle''.trans (hle₇.trans hle₉), S₁₀.rot, hoi₅, ⟨oc₆, ok₆, rfl, ⟨_, hdc⟩, _, hdk⟩, by walk_at "lk", by walk_at "lk", by walk_at "lk", by walk_at "lk", by walk_at "lk"⟩
        · rintro g'' m' c' s₅ E' hle'' ⟨⟨oc₅, ok₅, rfl, hc₅, hk₅⟩, e1, e2, e3, e4, e5⟩ S₅
          have hl₅ : Le g₃₂ g'' := hle'.trans hle''
          have htg := hl₅ _ _ htg
          have hkg := hl₅ _ _ hkg
          have Kg := Kg.mono hl₅
          have hHp := hHp.mono hl₅
          have hLo := hLo.mono hl₅
          have hHr := hHr.mono fun _ _ x => x.mono hl₅
          have hLr := hLr.mono fun _ _ x => x.mono hl₅
          have hqd := hqd.mono hl₅
          rw [← rows_quiet] at hqv
          have hqv := hqv.mono fun _ _ x => TokRow.mono x hl₅
          have hb₅ : AllBare s₅.gens := by rw [S₅.gens]; exact hb₃₂
          clear hget hkv Dk hkd hfog hD hI
          walk_at "gg"
          refine c_fn S₅ (by kernel_rfl) ?_
          walk_at "gg"
          refine c_fn S₅ (by kernel_rfl) ?_
          walk_at "gg"
          refine c_fn S₅ (by kernel_rfl) ?_
          walk_at "gg"
          refine ldcF S₅ hkg d2' ?_
          walk_at "gg"
          rename_i s₄₀ S₄₀
          refine St.kinH S₄₀ ?_
          refine wpAny_call (table_spec ((hr₁ _).mono (by omega)) S₄₀.baseG S₄₀.gg Kg Hok ?_)
          intro td₂ odt₂ s₄₁ g₄₁ P₄₁ htd₂ Ktd₂
          have hl₄₁ : Le g'' g₄₁ := P₄₁.grow
          have S₄₁ := St.after S₄₀ P₄₁
          walk_at "gg"
          refine St.kinH S₄₁ ?_
          refine wpAny_call (lexer_new ((hr₁ _).mono (by omega)) S₄₁.baseG S₄₁.gg (lex2 w) (.inr rfl) htd₂ Ktd₂ (table_ok H Hok) htne ?_)
          intro lx₂ s₄₂ g₄₂ P₄₂ Klx₂
          have hl₄₂ : Le g₄₁ g₄₂ := P₄₂.grow
          have S₄₂ := St.after S₄₁ P₄₂
          obtain ⟨ldx₂, lod₂, lk₂, lmm₂, lpd₂, lodp₂, lI₂, lN₂, lh₂1, lh₂2, _, _, _⟩ := id Klx₂
          refine get_meth (f := 644) S₄₂ (lI₂.mono S₄₂.gg) (lex2 w).ga (lex2 w).gt (by kernel_rfl) (by kernel_rfl) ((lN₂.look "get_tokens_unprocessed").trans (congrArg some (lh₂2 _ (by decide)))) ?_
          walk_at "gg"
          refine c_fm S₄₂ (by kernel_rfl) ?_
          walk_at "gg"
          refine ldcF S₄₂ (hl₄₂ _ _ (hl₄₁ _ _ htg)) d1' ?_
          walk_at "gg"
          refine St.kinH S₄₂ ?_
          refine wpAny_call (gen644_spec (rows := rowsFrom ks false true told 0) ((hr₁ _).mono (by omega)) S₄₂.baseG S₄₂.gg (lex2 w) Klx₂ H Hok htl (lex_law H htok) ?_)
          intro Lg₂ ga₂ oL₂ s₄₃ g₄₃ nm₂ qn₂ code₂ P₄₃ hLg₂ hga₂ hLn₂ hLo₂ hgen₂ hgs₂ hrd₂
          have hl₄₃ : Le g₄₂ g₄₃ := P₄₃.grow
          have S₄₃ := S₄₂.afterG P₄₃ hLg₂ hLn₂ hLo₂
          have hb₄₂ : AllBare s₄₂.gens := by rw [S₄₂.gens, ← S₅.gens]; exact hb₅
          walk_at "gg"
          refine St.kinH S₄₃ ?_
          refine wpAny_call (flat_gen ((hr₁ _).mono (by omega)) S₄₃.baseG S₄₃.gg hgen₂ (by rw [hgs₂]; exact Array.getElem?_push_size ..) hrd₂ (Le.refl _) (hrN _ _) hLo₂ hLn₂ ?_)
          intro wdA wvs s₄₄ g₄₄ P₄₄ hGO₂ hfin₂ hwd hwv
          have S₄₄ := (S₄₃.regens s₄₄.gens).after1 P₄₄
          have hb₄₄ : AllBare s₄₄.gens := bare_gen hb₄₂ (by rw [← hgs₂]; exact hGO₂) hfin₂
          have hl₄₄ : Le g₄₃ g₄₄ := P₄₄.grow
          have hlw : Le g'' g₄₄ := hl₄₁.trans (hl₄₂.trans (hl₄₃.trans hl₄₄))
          have htg := hlw _ _ htg
          have hkg := hlw _ _ hkg
          have Kg := Kg.mono hlw
          have hHp := hHp.mono hlw
          have hLo := hLo.mono hlw
          have hHr := hHr.mono fun _ _ x => x.mono hlw
          have hLr := hLr.mono fun _ _ x => x.mono hlw
          have hqd := hqd.mono hlw
          have hqv := hqv.mono fun _ _ x => TokRow.mono x hlw
          clear hlw hl₄₄ hl₄₃ hl₄₂ hl₄₁ lI₂ lN₂ Klx₂ Ktd₂
          walk_at "gg"
          rename_i s₄₅ S₄₅
          refine c_fn S₄₅ (by kernel_rfl) ?_
          walk_at "gg"
          refine c_fn S₄₅ (by kernel_rfl) ?_
          walk_at "gg"
          refine c_fn S₄₅ (by kernel_rfl) ?_
          walk_at "gg"
          refine ldcF S₄₅ hkg d2' ?_
          walk_at "gg"
          rename_i s₅₀ S₅₀
          refine St.kinH S₅₀ ?_
          refine wpAny_call (table_spec ((hr₁ _).mono (by omega)) S₅₀.baseG S₅₀.gg Kg Hok ?_)
          intro td₃ odt₃ s₅₁ g₅₁ P₅₁ htd₃ Ktd₃
          have Ktd₃ : IsTab prog w g₅₁ true td₃ odt₃ (tableOf ks ks.length) := Ktd₃
          have hl₅₁ : Le g₄₄ g₅₁ := P₅₁.grow
          have S₅₁ := St.after S₅₀ P₅₁
          walk_at "gg"
          refine St.kinH S₅₁ ?_
          refine wpAny_call (lexer_new ((hr₁ _).mono (by omega)) S₅₁.baseG S₅₁.gg (lex1 w) (.inl rfl) htd₃ Ktd₃ (table_ok H Hok) htne ?_)
          intro lx₃ s₅₂ g₅₂ P₅₂ Klx₃
          have hl₅₂ : Le g₅₁ g₅₂ := P₅₂.grow
          have S₅₂ := St.after S₅₁ P₅₂
          obtain ⟨ldx₃, lod₃, lk₃, lmm₃, lpd₃, lodp₃, lI₃, lN₃, lh₃1, lh₃2, _, _, _⟩ := id Klx₃
          refine get_meth (f := 595) S₅₂ (lI₃.mono S₅₂.gg) (lex1 w).ga (lex1 w).gt (by kernel_rfl) (by kernel_rfl) ((lN₃.look "get_tokens_unprocessed").trans (congrArg some (lh₃2 _ (by decide)))) ?_
          walk_at "gg"
          refine c_fm S₅₂ (by kernel_rfl) ?_
          walk_at "gg"
          refine ldcF S₅₂ (hl₅₂ _ _ (hl₅₁ _ _ htg)) d1' ?_
          walk_at "gg"
          refine St.kinH S₅₂ ?_
          refine wpAny_call (gen595_spec (rows := rowsFrom ks true false told 0) ((hr₁ _).mono (by omega)) S₅₂.baseG S₅₂.gg (lex1 w) Klx₃ H Hok htl (lex_law H htok) ?_)
          intro Lg₃ ga₃ oL₃ s₅₃ g₅₃ nm₃ qn₃ code₃ P₅₃ hLg₃ hga₃ hLn₃ hLo₃ hgen₃ hgs₃ hrd₃
          have hl₅₃ : Le g₅₂ g₅₃ := P₅₃.grow
          have S₅₃ := S₅₂.afterG P₅₃ hLg₃ hLn₃ hLo₃
          have hb₅₂ : AllBare s₅₂.gens := by rw [S₅₂.gens]; exact hb₄₄
          walk_at "gg"
          refine St.kinH S₅₃ ?_
          refine wpAny_call (flat_gen ((hr₁ _).mono (by omega)) S₅₃.baseG S₅₃.gg hgen₃ (by rw [hgs₃]; exact Array.getElem?_push_size ..) hrd₃ (Le.refl _) (hrN _ _) hLo₃ hLn₃ ?_)
          intro ldA lvs s₅₄ g₅₄ P₅₄ hGO₃ hfin₃ hld hlv
          have S₅₄ := (S₅₃.regens s₅₄.gens).after1 P₅₄
          have hb₅₄ : AllBare s₅₄.gens := bare_gen hb₅₂ (by rw [← hgs₃]; exact hGO₃) hfin₃
          have hl₅₄ : Le g₅₃ g₅₄ := P₅₄.grow
          have hlw : Le g₄₄ g₅₄ := hl₅₁.trans (hl₅₂.trans (hl₅₃.trans hl₅₄))
          have htg := hlw _ _ htg
          have hHp := hHp.mono hlw
          have hLo := hLo.mono hlw
          have hHr := hHr.mono fun _ _ x => x.mono hlw
          have hLr := hLr.mono fun _ _ x => x.mono hlw
          have hqd := hqd.mono hlw
          have hqv := hqv.mono fun _ _ x => TokRow.mono x hlw
          have hwd := hwd.mono hlw
          have hwv := hwv.mono fun _ _ x => IsRow.mono x hlw
          clear hlw hl₅₄ hl₅₃ hl₅₂ hl₅₁ lI₃ lN₃ Klx₃ Ktd₃
          walk_at "gg"
          rename_i s₅₅ S₅₅
          refine s_assign_comp _ rfl ?_
          walk_at "gg"
          refine it_lst S₅₅ hHp ?_; intro it₅₆ oi₅₆ s₅₆ S₅₆ hoi₅₆
          have hhl' := hHr.length
          refine comp_goU S₅₆ hoi₅₆ (Le.refl _) (iter_lst (by exact hh) hHp) (fun s' Q' E' e q => wpAny_pyIter_listiter ⟨oi₅₆, e, hoi₅₆⟩ q) (by have := hrN false false; omega) (fun i g' vs => All2 (IsRow g') vs (((List.range' 0 told.length).map (hoped ks true told)).take i)) trivial ?_ ?_ (fun i g' g'' vs hle h => h.mono fun _ _ x => x.mono hle)
          · intro i v g₆ m₆ us₆ nD C₆ D₆ s₅₇ o' E' hlt hvi hle₆ hI₆ S₅₇ hO'
            rw [rows_quiet] at hHr
            obtain ⟨r, hrj, hrow⟩ := All2.get hHr hvi
            obtain ⟨hjl, rfl⟩ := row_at hrj
            obtain ⟨ch, hch⟩ : ∃ ch, told[i]? = some ch := ⟨_, List.getElem?_eq_getElem hjl⟩
            have hrv := hoped_val' (ks := ks) (b := false) hch
            obtain ⟨ra, v1, v2, v3, rt, rfl, hrt, rfl, hrn, rtv, rfl⟩ := hrow
            rw [hrv] at hrt
            refine as_name S₅₇ ?_; intro s₅₈ S₅₈
            refine t_nil ?_
            rw [if_pos rfl]
            walk_at "gg"
            rename_i s₅₉ S₅₉
            refine item_tup S₅₉ ((hrt.mono hle₆).mono S₅₉.gg) (by omega) (by omega) rfl ?_
            walk_at "gg"
            rename_i s₆₀ S₆₀
            refine item_tup S₆₀ ((hrt.mono hle₆).mono S₆₀.gg) (by omega) (by omega) rfl ?_
            walk_at "gg"
            rename_i s₆₁ S₆₁
            rw [str_nl]
            refine eqS ?_
            walk_at "gg"
            have hwide := hoped_wide H hch
            by_cases hc : ch = 10
            · rw [if_pos (by simp [hc])]
              walk_at "gg"
              rw [str_text]
              refine newTup (by assumption) (by simp) ?_; intro na g₆₂ s₆₂ hl₆₂ S₆₂ hna
              walk_at "gg"
              rename_i s₆₃ S₆₃
              refine item_tup S₆₃ (((hrt.mono hle₆).mono hl₆₂).mono S₆₃.gg) (by omega) (by omega) rfl ?_
              walk_at "gg"
              refine newTup S₆₃ (by simp) ?_; intro nr g₆₄ s₆₄ hl₆₄ S₆₄ hnr
              refine ⟨g₆₄, _, hl₆₂.trans hl₆₄, S₆₄, all2_take_succ (hI₆.mono fun _ _ x => x.mono (hl₆₂.trans hl₆₄)) (by rw [List.getElem?_map, List.getElem?_range' hjl]; show some (hoped ks true told (0 + 1 * i)) = some (hoped ks true told i); rw [show 0 + 1 * i = i by omega]) ?_⟩
              rw [hwide, if_pos hc]
              exact ⟨nr, _, _, _, rt, rfl, hnr, rfl, ⟨na, _, rfl, hna.mono hl₆₄, ⟨_, rfl⟩, trivial⟩, ⟨_, rfl⟩⟩
            · rw [if_neg (by simp [hc])]
              walk_at "gg"
              rename_i s₆₂ S₆₂
              refine item_tup S₆₂ ((hrt.mono hle₆).mono S₆₂.gg) (by omega) (by omega) rfl ?_
              walk_at "gg"
              rename_i s₆₃ S₆₃
              refine item_tup S₆₃ ((hrt.mono hle₆).mono S₆₃.gg) (by omega) (by omega) rfl ?_
              walk_at "gg"
              refine newTup S₆₃ (by simp) ?_; intro nr g₆₄ s₆₄ hl₆₄ S₆₄ hnr
              refine ⟨g₆₄, _, hl₆₄, S₆₄, all2_take_succ (hI₆.mono fun _ _ x => x.mono hl₆₄) (by rw [List.getElem?_map, List.getElem?_range' hjl]; show some (hoped ks true told (0 + 1 * i)) = some (hoped ks true told i); rw [show 0 + 1 * i = i by omega]) ?_⟩
              rw [hwide, if_neg hc]
              exact ⟨nr, _, _, _, rt, rfl, hnr, rfl, (hrn.mono hle₆).mono hl₆₄, ⟨_, rfl⟩⟩
          · intro D₆ us₆ g₆ s₅₇ hI₆ hle₆ S₅₇ hD₆
            have hfull : ((List.range' 0 told.length).map (hoped ks true told)).take hvs.length = rowsFrom ks false true told 0 := by
              rw [rows_quiet, List.take_of_length_le]
              rw [List.length_map, List.length_range']
              rw [rows_quiet, List.length_map, List.length_range'] at hhl'; omega
            rw [hfull] at hI₆
            have htg := hle₆ _ _ htg
            have hHp := hHp.mono hle₆
            have hLo := hLo.mono hle₆
            have hHr := hHr.mono fun _ _ x => x.mono hle₆
            have hLr := hLr.mono fun _ _ x => x.mono hle₆
            have hqd := hqd.mono hle₆
            have hqv := hqv.mono fun _ _ x => TokRow.mono x hle₆
            have hwd := hwd.mono hle₆
            have hwv := hwv.mono fun _ _ x => IsRow.mono x hle₆
            have hld := hld.mono hle₆
            have hlv := hlv.mono fun _ _ x => IsRow.mono x hle₆
            have hlvl := hlv.length
            walk_at "gg"
            refine e_comp _ rfl ?_
            walk_at "gg"
            refine it_lst S₅₇ hld ?_; intro it₇ oi₇ s₇ S₇ ho₇
            refine comp_go S₇ ho₇ (Le.refl _) (iter_lst (by exact hh) hld) (fun s' Q' E' e q => wpAny_pyIter_listiter ⟨oi₇, e, ho₇⟩ q) (by have := hrN true false; omega) (fun i g' us => All2 (IsRow g') us (empties ((rowsFrom ks true false told 0).take i))) trivial ?_ ?_ (fun i g' g'' vs hle h => h.mono fun _ _ x => x.mono hle)
            · intro i v g₈ m₈ us₈ nD C₈ D₈ s₈ o' E' hlt hvi hle₈ hI₈ S₈ hO'
              obtain ⟨r, hrj, hrow⟩ := All2.get hlv hvi
              have hrow' := hrow
              obtain ⟨ra, v1, v2, v3, rt, rfl, hrt, rfl, hrn, rtv, rfl⟩ := hrow
              refine as_name S₈ ?_; intro s₉ S₉
              refine t_one ?_
              walk_at "gg"
              rename_i s₁₀ S₁₀
              refine item_tup S₁₀ ((hrt.mono hle₈).mono S₁₀.gg) (by omega) (by omega) rfl ?_
              walk_at "gg"
              rename_i s₁₁ S₁₁
              rw [str_nil]
              refine eqS ?_
              walk_at "gg"
              have hft := filter_take (f := fun r : Row => decide (r.val = [])) hrj
              unfold empties at hI₈ ⊢
              by_cases hs : r.val = []
              · rw [if_pos (decide_eq_true hs)]
                walk_at "gg"
                refine ⟨g₈, _, Le.refl _, S₁₁, ?_⟩
                rw [hft, decide_eq_true hs, if_pos rfl]
                exact hI₈.snoc (hrow'.mono hle₈)
              · rw [if_neg (by rw [decide_eq_false hs]; decide)]
                refine ⟨g₈, _, Le.refl _, S₁₁, ?_⟩
                rw [hft, decide_eq_false hs, if_neg (by decide), List.append_nil]
                exact hI₈
            intro D₈ us₈ g₈ s₈ hI₈ hle₈ S₈ hD₈ _
            rw [hlvl, List.take_length] at hI₈
            have hemp := empties_law (wide := false) (told := told) H
            have hul₈ := hI₈.length
            have hhr₁ : ∀ e, ((A.deeper e).in1.in1).units < cLine := fun e => by have := (hr₁ e).un; show (A.deeper e).units + 1 + 1 < _; omega
            walk_at "gg"
            refine len_list S₈ (hD₈.mono S₈.gg) (by omega) ?_; intro t₉ s₉ S₉
            walk_at "gg"
            refine ldcF S₉ (hle₈ _ _ htg) d1' ?_
            walk_at "gg"
            rw [if_pos (decide_eq_true (by omega))]
            walk_at "gg"
            rename_i s₁₀ S₁₀
            refine rcAt_rows S₁₀.gg ((hld.mono hle₈).mono S₁₀.gg) ((hLo.mono hle₈).mono S₁₀.gg) (hlv.mono fun _ _ x => x.mono hle₈) (hLr.mono fun _ _ x => x.mono hle₈) (hhr₁ _) prog w _ _ ?_
            walk_at "gg"
            rw [if_pos rfl]
            walk_at "gg"
            refine c_fn S₁₀ (by kernel_rfl) ?_
            walk_at "gg"
            refine St.kinH S₁₀ ?_
            refine wpAny_call (flat_list ((hr₁ _).mono (by omega)) S₁₀.baseG S₁₀.gg (hqd.mono hle₈) (hqv.mono fun _ _ x => TokRow.mono x hle₈) (hrN _ _) ?_)
            intro fqA fqs s₁₁ g₁₁ P₁₁ hfq hfqr
            have S₁₁ := St.after S₁₀ P₁₁
            have hl₁₁ : Le g₈ g₁₁ := P₁₁.grow
            have hl₁₂ := hle₈.trans hl₁₁
            walk_at "gg"
            refine rcAt_rows S₁₁.gg (hfq.mono S₁₁.gg) ((hHp.mono hl₁₂).mono S₁₁.gg) hfqr (hHr.mono fun _ _ x => x.mono hl₁₂) (hhr₁ _) prog w _ _ ?_
            walk_at "gg"
            rw [if_pos rfl]
            walk_at "gg"
            refine rcAt_rows S₁₁.gg ((hwd.mono hl₁₂).mono S₁₁.gg) ((hD₆.mono hl₁₂).mono S₁₁.gg) (hwv.mono fun _ _ x => x.mono hl₁₂) (hI₆.mono fun _ _ x => x.mono hl₁₂) (hhr₁ _) prog w _ _ ?_
            exact h _ (fun b o e => S₁₁.keep b o (by simp) e) S₁₁.os (by rw [S₁₁.gens]; exact hb₅₄)
end
end

end

end Mine
open PySem PySem.W PyProof.Rows
namespace Mine
theorem ns_same {h : Heap} {a : Addr} {m m' : Str → Option Value} (x : h.Ns a m) (y : h.Ns a m') (z : Str) : m z = m' z := by
  obtain ⟨o, es, n, h1, h2, h3, h4⟩ := x
  obtain ⟨o', es', n', k1, k2, k3, k4⟩ := y
  rw [h1] at k1; cases k1
  rw [h2] at k2; cases k2
  exact (h4 z).symm.trans (k4 z)
theorem law_at (P : Params) : nsOf (Mine.hd.heap_39 P) mainGlobals "law" = some (.ref 802) := by kernel_rfl
theorem all2_ints : ∀ {vs : List Value} {ns : List Int}, IntsAre vs ns → All2 IsInt vs ns
  | _, _, .nil => trivial
  | _, _, .cons n t r => ⟨⟨t, rfl⟩, all2_ints r⟩
theorem caller_room : Room callerA 14 := ⟨rfl, by decide +kernel, by decide +kernel⟩
end Mine
set_option maxRecDepth 100000 in
set_option maxHeartbeats 8000000 in
theorem PySem.Challenge.cw_bn5022_01_holds : PySem.Challenge.rw_bn5022_01.Holds := by
  refine Mine.hd ?_
  k_fill
  intro w s₀ s₁ mg mb G Y fa o pm cd doc dV kV ho hd hcd hD hmg hg args vals as hpre hlay hrd hwl hlo
  have KX := km_in_of Y
  refine Ground.open G ?_
  intro T B D TE TW
  try (refine guard_noD D (by decide +kernel) ?_; clear D)
  wrow_args hpre hlay hrd hwl hlo
  refine enter_call ?_
  rename_i ns _ _ _ _ _ _ _ sl vs _ hL _ _ _ hI _ hn _
  have hfa : fa = 802 := by
    have h1 := Mine.ns_same T.g (Mine.ns_of_K KX (Mine.okG w.params)) "law"
    rw [Mine.law_at] at h1
    have h2 : some (Value.ref fa) = some (Value.ref 802) := hmg.symm.trans h1
    injection h2 with h2
    injection h2
  subst hfa
  have hb : Mine.Base w s₁.heap.get? := ⟨KX, by
    obtain ⟨o, es, ep, h1, h2, h3, h4⟩ := T.b
    exact ⟨o, es, ep, h1, h2, h3, fun x hx => (h4 x).trans (T.builtins x hx)⟩⟩
  have hv := Mine.all2_ints hI
  have hlen := hv.length
  obtain ⟨ol, hol, hcl, kl, hdl⟩ := hL
  refine Mine.law_spec (vs := vs) Mine.caller_room hb (fun _ _ e => e) ⟨ol, hol, hcl, kl, hdl⟩ hv (by omega) (by rw [hg]; exact AllBare.empty) fun s' hk hos hbare => ?_
  exact ⟨.inl ⟨.bool true, .bool true, [], rfl, fun _ => rfl, .bool true, by wrow_post, fun _ => ⟨.nil, fun _ h => nomatch h⟩⟩, OldK.of_keep hk, hos, hbare⟩
