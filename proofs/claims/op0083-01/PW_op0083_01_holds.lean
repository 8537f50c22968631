import PyProof.Rows.All
import Wide.All
import OpenK.AllK
import Wide.FinOn
import PySem.Challenge.RW_op0083_01
open PySem PySem.W PySem.W.X PySem.Calls PyProof.Rows
set_option Elab.async false
set_option maxRecDepth 100000
set_option linter.unusedVariables false
set_option linter.unusedSimpArgs false
section
open PySem PySem.W PyProof.Rows
namespace Mine
local macro_rules | `(tactic| k_head) => `(tactic| z_head)
set_option maxRecDepth 100000 in
set_option maxHeartbeats 8000000 in
open_top hdz for PySem.Challenge.rw_op0083_01
end Mine
end
section
namespace Mine
inductive Hn where
  | ld (i : Nat)
  | up (i : Nat)
  | al
  | fr
structure Rs (α : Type) where
  ok : Bool
  L : List (Addr × Obj)
  sz : Nat
  tk : Nat
  t : Sem α
  c1 : List Addr
  c2 : List Addr
noncomputable def liveB (o : Obj) : Bool := match o.data with | .freed => false | _ => true
theorem live_of {o : Obj} (h : liveB o = true) : o.isFreed = false := by
  obtain ⟨c, d, dt, sl⟩ := o
  cases dt <;> first | rfl | cases h
noncomputable def asLoad {α : Type} : Sem α → Option (Addr × (Obj → Sem α))
  | .load a _ k => some (a, k)
  | .loadIfAlive a k => some (a, fun o => k (some o))
  | _ => none
noncomputable def asUp {α : Type} : Sem α → Option (Addr × (Obj → Obj) × Sem α)
  | .update a _ f k => some (a, f, k ())
  | _ => none
noncomputable def asAl {α : Type} : Sem α → Option (Obj × (Addr → Sem α))
  | .alloc o k => some (o, k)
  | _ => none
noncomputable def asFr {α : Type} : Sem α → Option (Tok → Sem α)
  | .fresh k => some k
  | _ => none
noncomputable def runH {α : Type} (g : Setting) : List Hn → List (Addr × Obj) → Nat → Nat → Sem α → Rs α
  | [], L, sz, tk, t => ⟨true, L, sz, tk, skim g 400 t, [], []⟩
  | x :: xs, L, sz, tk, t => match x with
    | .ld i => match asLoad (skim g 400 t), L[i]? with
      | some (a, k), some p => let r := runH g xs L sz tk (k p.2); { r with c1 := a :: r.c1, c2 := p.1 :: r.c2 }
      | _, _ => ⟨false, L, sz, tk, t, [], []⟩
    | .up i => match asUp (skim g 400 t), L[i]? with
      | some (a, f, t'), some p => let r := runH g xs (L.set i (p.1, f p.2)) sz tk t'; { r with ok := r.ok && liveB (f p.2), c1 := a :: r.c1, c2 := p.1 :: r.c2 }
      | _, _ => ⟨false, L, sz, tk, t, [], []⟩
    | .al => match asAl (skim g 400 t) with
      | some (o, k) => let r := runH g xs (L ++ [(sz, o)]) (sz + 1) tk (k sz); { r with ok := r.ok && liveB o }
      | none => ⟨false, L, sz, tk, t, [], []⟩
    | .fr => match asFr (skim g 400 t) with
      | some k => runH g xs L sz (tk + 1) (k tk)
      | none => ⟨false, L, sz, tk, t, [], []⟩
/-- what is known of a heap: the listed objects stand, each at a place of its own -/
structure Lg (L : List (Addr × Obj)) (h : Heap) : Prop where
  at_ : ∀ p ∈ L, h.get? p.1 = some p.2
  nd : (L.map (·.1)).Nodup
/-- all that is not listed is as it was -/
noncomputable def Kp (L : List (Addr × Obj)) (h h' : Heap) : Prop := ∀ b o, h.get? b = some o → b ∉ L.map (·.1) → h'.get? b = some o
theorem Lg.get {L : List (Addr × Obj)} {h : Heap} (H : Lg L h) {i : Nat} {p : Addr × Obj} (hi : L[i]? = some p) : h.get? p.1 = some p.2 := H.at_ _ (List.mem_of_getElem? hi)
theorem Lg.push {L : List (Addr × Obj)} {h : Heap} (H : Lg L h) {o : Obj} (hl : liveB o = true) : Lg (L ++ [(h.objs.size, o)]) (h.push o) := by
  refine ⟨fun p hp => ?_, ?_⟩
  · rcases List.mem_append.mp hp with hp | hp
    · exact Heap.get?_push_of_some _ (H.at_ p hp)
    · rw [List.mem_singleton.mp hp]
      exact Heap.get?_push_size _ (live_of hl)
  · rw [List.map_append, List.nodup_append]
    refine ⟨H.nd, by simp, fun a ha b hb e => ?_⟩
    have hb' : b = h.objs.size := by simpa using hb
    obtain ⟨p, hp, rfl⟩ := List.mem_map.mp ha
    have q := Heap.lt_size (H.at_ p hp)
    have e' : p.1 = h.objs.size := e.trans hb'
    rw [e'] at q
    exact Nat.lt_irrefl _ q
theorem map_fst_set {L : List (Addr × Obj)} {i : Nat} {p : Addr × Obj} {o : Obj} (hi : L[i]? = some p) : (L.set i (p.1, o)).map (·.1) = L.map (·.1) := by
  rw [List.map_set]
  have : (L.map (·.1))[i]? = some p.1 := by rw [List.getElem?_map, hi]; rfl
  exact set_same this
theorem Lg.upd {L : List (Addr × Obj)} {h : Heap} (H : Lg L h) {i : Nat} {p : Addr × Obj} {f : Obj → Obj} (hi : L[i]? = some p) (hl : liveB (f p.2) = true) : Lg (L.set i (p.1, f p.2)) (h.update p.1 f) := by
  have ho := H.get hi
  have hs : Heap.SameBut p.1 h (h.update p.1 f) := Heap.SameBut.update ..
  have ge : (h.update p.1 f).get? p.1 = some (f p.2) := Heap.get?_update_self f ho (live_of hl)
  refine ⟨fun q hq => ?_, by rw [map_fst_set hi]; exact H.nd⟩
  by_cases hqa : q.1 = p.1
  · have hx : (p.1, f p.2) ∈ L.set i (p.1, f p.2) := List.mem_set (List.getElem?_eq_some_iff.mp hi).1 _
    have : q = (p.1, f p.2) := key_unique (by rw [map_fst_set hi]; exact H.nd) hq hx hqa
    subst this
    exact ge
  · rcases List.mem_or_eq_of_mem_set hq with hq | rfl
    · exact (hs.2 _ hqa).trans (H.at_ q hq)
    · exact absurd rfl hqa
section
variable {α : Type} {prog : Program} {w : World} {A : Around} {Q : α → Shared → Prop} {E : Value → Shared → Prop}
theorem asLoad_ok {u : Sem α} {a : Addr} {k : Obj → Sem α} {o : Obj} {s : Shared} (e : asLoad u = some (a, k)) (ho : s.heap.get? a = some o) (h : wpAny (model prog w) A (k o) Q E s) : wpAny (model prog w) A u Q E s := by
  unfold asLoad at e
  split at e
  · cases e
    exact x_load ho h
  · cases e
    intro Γ q hΓ
    have zz := h Γ q hΓ
    dsimp only at zz
    rw [← ho] at zz
    exact zz
  · cases e
theorem asUp_ok {u t : Sem α} {a : Addr} {f : Obj → Obj} (e : asUp u = some (a, f, t)) : ∃ q k, u = .update a q f k ∧ t = k () := by
  unfold asUp at e
  split at e
  · cases e
    exact ⟨_, _, rfl, rfl⟩
  · cases e
theorem asAl_ok {u : Sem α} {o : Obj} {k : Addr → Sem α} (e : asAl u = some (o, k)) : u = .alloc o k := by
  unfold asAl at e
  split at e
  · cases e; rfl
  · cases e
theorem asFr_ok {u : Sem α} {k : Tok → Sem α} (e : asFr u = some k) : u = .fresh k := by
  unfold asFr at e
  split at e
  · cases e; rfl
  · cases e
theorem segR : ∀ (xs : List Hn) (L : List (Addr × Obj)) (t : Sem α) (s : Shared) (r : Rs α), Lg L s.heap →
      runH ⟨prog, w.params⟩ xs L s.heap.objs.size s.toks t = r → r.ok = true → r.c1 = r.c2 →
      (∀ h', Lg r.L h' → Kp L s.heap h' → h'.objs.size = r.sz → wpAny (model prog w) A r.t Q E { s with heap := h', toks := r.tk }) →
      wpAny (model prog w) A t Q E s
  | [], L, t, s, r, H, e, _, _, h => by
    subst e
    exact x_skim 400 (h s.heap H (fun _ _ e _ => e) rfl)
  | .ld i :: xs, L, t, s, r, H, e, h1, h2, h => by
    refine x_skim 400 ?_
    unfold runH at e
    dsimp only at e
    split at e
    · rename_i a k p eu hi
      subst e
      have e := List.cons.inj h2
      have ha : a = p.1 := e.1
      subst ha
      exact asLoad_ok eu (H.get hi) (segR xs L (k p.2) s _ H rfl h1 e.2 h)
    · subst e; cases h1
  | .up i :: xs, L, t, s, r, H, e, h1, h2, h => by
    refine x_skim 400 ?_
    unfold runH at e
    dsimp only at e
    split at e
    · rename_i a f t' p eu hi
      subst e
      have e := List.cons.inj h2
      have ha : a = p.1 := e.1
      subst ha
      obtain ⟨q, k, eu2, rfl⟩ := asUp_ok eu
      rw [eu2]
      have h1' := (Bool.and_eq_true _ _).mp h1
      refine wpAny_bind (m := updatePart p.1 q f) (f := k) (wpAny_updatePart (H.get hi) ?_)
      have hs : Heap.SameBut p.1 s.heap (s.heap.update p.1 f) := Heap.SameBut.update ..
      have hz : (s.heap.update p.1 f).objs.size = s.heap.objs.size := Heap.size_update ..
      refine segR xs (L.set i (p.1, f p.2)) (k ()) { s with heap := s.heap.update p.1 f } _ (H.upd hi h1'.2) (congrArg (fun n => runH _ xs _ n s.toks (k ())) hz) h1'.1 e.2 fun h' a1 a2 a3 => ?_
      refine h h' a1 (fun b o e n => a2 b o ?_ (by rw [map_fst_set hi]; exact n)) a3
      have hb : b ≠ p.1 := fun z => n (by rw [z]; exact List.mem_map_of_mem (List.mem_of_getElem? hi))
      exact (hs.2 b hb).trans e
    · subst e; cases h1
  | .al :: xs, L, t, s, r, H, e, h1, h2, h => by
    refine x_skim 400 ?_
    unfold runH at e
    dsimp only at e
    split at e
    · rename_i o k eu
      subst e
      rw [asAl_ok eu]
      have h1' := (Bool.and_eq_true _ _).mp h1
      refine wpAny_bind (m := alloc o) (f := k) (wpAny_alloc ?_)
      have hz : (s.heap.push o).objs.size = s.heap.objs.size + 1 := size_push' ..
      refine segR xs (L ++ [(s.heap.objs.size, o)]) (k s.heap.objs.size) { s with heap := s.heap.push o } _ (H.push h1'.2) (congrArg (fun n => runH _ xs _ n s.toks (k s.heap.objs.size)) hz) h1'.1 h2 fun h' a1 a2 a3 => ?_
      refine h h' a1 (fun b o' e n => a2 b o' (Heap.get?_push_of_some _ e) ?_) a3
      rw [List.map_append, List.mem_append]
      rintro (hb | hb)
      · exact n hb
      · have hb' : b = s.heap.objs.size := List.mem_singleton.mp hb
        have q := Heap.lt_size e
        rw [hb'] at q
        exact Nat.lt_irrefl _ q
    · subst e; cases h1
  | .fr :: xs, L, t, s, r, H, e, h1, h2, h => by
    refine x_skim 400 ?_
    unfold runH at e
    dsimp only at e
    split at e
    · rename_i k eu
      rw [asFr_ok eu]
      exact x_fresh (segR xs L (k s.toks) { s with toks := s.toks + 1 } r H e h1 h2 h)
    · subst e; cases h1
theorem seg (xs : List Hn) (L : List (Addr × Obj)) (t : Sem α) (s : Shared) (H : Lg L s.heap)
    (h1 : (runH ⟨prog, w.params⟩ xs L s.heap.objs.size s.toks t).ok = true)
    (h2 : (runH ⟨prog, w.params⟩ xs L s.heap.objs.size s.toks t).c1 = (runH ⟨prog, w.params⟩ xs L s.heap.objs.size s.toks t).c2)
    (h : ∀ h', Lg (runH ⟨prog, w.params⟩ xs L s.heap.objs.size s.toks t).L h' → Kp L s.heap h' → h'.objs.size = (runH ⟨prog, w.params⟩ xs L s.heap.objs.size s.toks t).sz →
        wpAny (model prog w) A (runH ⟨prog, w.params⟩ xs L s.heap.objs.size s.toks t).t Q E { s with heap := h', toks := (runH ⟨prog, w.params⟩ xs L s.heap.objs.size s.toks t).tk }) :
    wpAny (model prog w) A t Q E s := segR xs L t s _ H rfl h1 h2 h
end
end Mine
end
section
namespace Mine
theorem Kp.refl (L : List (Addr × Obj)) (h : Heap) : Kp L h h := fun _ _ e _ => e
theorem Kp.trans {L L' : List (Addr × Obj)} {h h' h'' : Heap} (a : Kp L h h') (b : Kp L' h' h'') (hl : ∀ x ∈ L'.map (·.1), x ∈ L.map (·.1) ∨ h.objs.size ≤ x) : Kp L h h'' := fun x o e n =>
  b x o (a x o e n) fun q => (hl x q).elim n fun z => Nat.lt_irrefl _ (Nat.lt_of_lt_of_le (Heap.lt_size e) z)
theorem runH_cv {α : Type} {g : Setting} : ∀ (xs : List Hn) (L : List (Addr × Obj)) (sz tk : Nat) (t : Sem α),
    (∀ a ∈ (runH g xs L sz tk t).L.map (·.1), a ∈ L.map (·.1) ∨ sz ≤ a) ∧ sz ≤ (runH g xs L sz tk t).sz
  | [], L, sz, tk, t => ⟨fun a ha => .inl ha, Nat.le_refl _⟩
  | .ld i :: xs, L, sz, tk, t => by
    unfold runH
    dsimp only
    split
    · rename_i a k p eu hi
      exact runH_cv xs L sz tk (k p.2)
    · exact ⟨fun a ha => .inl ha, Nat.le_refl _⟩
  | .up i :: xs, L, sz, tk, t => by
    unfold runH
    dsimp only
    split
    · rename_i a f t' p eu hi
      have z := runH_cv (g := g) xs (L.set i (p.1, f p.2)) sz tk t'
      rw [map_fst_set hi] at z
      exact z
    · exact ⟨fun a ha => .inl ha, Nat.le_refl _⟩
  | .al :: xs, L, sz, tk, t => by
    unfold runH
    dsimp only
    split
    · rename_i o k eu
      have z := runH_cv (g := g) xs (L ++ [(sz, o)]) (sz + 1) tk (k sz)
      refine ⟨fun a ha => ?_, Nat.le_of_succ_le z.2⟩
      rcases z.1 a ha with h | h
      · rw [List.map_append, List.mem_append] at h
        rcases h with h | h
        · exact .inl h
        · exact .inr (Nat.le_of_eq (List.mem_singleton.mp h).symm)
      · exact .inr (Nat.le_of_succ_le h)
    · exact ⟨fun a ha => .inl ha, Nat.le_refl _⟩
  | .fr :: xs, L, sz, tk, t => by
    unfold runH
    dsimp only
    split
    · rename_i k eu
      exact runH_cv xs L sz (tk + 1) (k tk)
    · exact ⟨fun a ha => .inl ha, Nat.le_refl _⟩
/-- from a heap h0 whose objects at L0's places may turn: what is known now -/
structure Sg (L0 : List (Addr × Obj)) (h0 : Heap) (L : List (Addr × Obj)) (N : Nat) (h : Heap) : Prop where
  lg : Lg L h
  sz : h.objs.size = N
  kp : Kp L0 h0 h
  le : h0.objs.size ≤ N
  cv : ∀ a ∈ L.map (·.1), a ∈ L0.map (·.1) ∨ h0.objs.size ≤ a
theorem Sg.start {L : List (Addr × Obj)} {h : Heap} {N : Nat} (H : Lg L h) (hz : h.objs.size = N) : Sg L h L N h := ⟨H, hz, Kp.refl _ _, Nat.le_of_eq hz, fun _ x => .inl x⟩
theorem Sg.sub {L0 : List (Addr × Obj)} {h0 : Heap} {L L' : List (Addr × Obj)} {N : Nat} {h : Heap} (S : Sg L0 h0 L N h) (hs : L'.Sublist L) : Sg L0 h0 L' N h :=
  ⟨⟨fun p hp => S.lg.at_ p (hs.subset hp), S.lg.nd.sublist (hs.map _)⟩, S.sz, S.kp, S.le, fun a ha => S.cv a ((hs.map _).subset ha)⟩
section
variable {α : Type} {prog : Program} {w : World} {A : Around} {Q : α → Shared → Prop} {E : Value → Shared → Prop} {h0 h : Heap} {g : Array GenState} {d : Drawn} {tk : Nat} {os : OsState} {L0 L : List (Addr × Obj)} {N : Nat} {t : Sem α}
noncomputable def runL (g : Setting) : List Nat → List (Addr × Obj) → Sem α → Sem α × List Addr × List Addr
  | [], _, t => (skim g 400 t, [], [])
  | i :: xs, L, t => match asLoad (skim g 400 t), L[i]? with
    | some (a, k), some p => let r := runL g xs L (k p.2); (r.1, a :: r.2.1, p.1 :: r.2.2)
    | _, _ => (t, [0], [1])
theorem segL {s : Shared} (H : Lg L s.heap) :
    ∀ (xs : List Nat) (t : Sem α), (runL ⟨prog, w.params⟩ xs L t).2.1 = (runL ⟨prog, w.params⟩ xs L t).2.2 →
      wpAny (model prog w) A (runL ⟨prog, w.params⟩ xs L t).1 Q E s → wpAny (model prog w) A t Q E s
  | [], t, _, h => x_skim 400 h
  | i :: xs, t, h2, h => by
    refine x_skim 400 ?_
    unfold runL at h2 h
    split at h2
    · rename_i a k p eu hi
      rw [eu, hi] at h
      have e := List.cons.inj h2
      have ha : a = p.1 := e.1
      subst ha
      exact asLoad_ok eu (H.get hi) (segL H xs (k p.2) e.2 h)
    · cases h2
/-- an operation that loads alone, by the places in the list, and its answer -/
theorem op0 {s : Shared} (S : Sg L0 h0 L N s.heap) (xs : List Nat) (v : α) (e : (runL ⟨prog, w.params⟩ xs L t).1 = .pure v) (e2 : (runL ⟨prog, w.params⟩ xs L t).2.1 = (runL ⟨prog, w.params⟩ xs L t).2.2) (h : Q v s) : wpAny (model prog w) A t Q E s :=
  segL S.lg xs t e2 (by rw [e]; exact wpAny_pure h)
theorem opP {s : Shared} (v : α) (e : skim ⟨prog, w.params⟩ 400 t = .pure v) (h : Q v s) : wpAny (model prog w) A t Q E s :=
  x_skim 400 (by rw [e]; exact wpAny_pure h)
noncomputable def out (r : Rs α) : Bool × List (Addr × Obj) × Nat × Nat × Sem α := (r.ok, r.L, r.sz, r.tk, r.t)
theorem seg2 (S : Sg L0 h0 L N h) (xs : List Hn) (e1 : (runH ⟨prog, w.params⟩ xs L N tk t).ok = true) (e2 : (runH ⟨prog, w.params⟩ xs L N tk t).c1 = (runH ⟨prog, w.params⟩ xs L N tk t).c2)
    (hh : ∀ h', Sg L0 h0 (runH ⟨prog, w.params⟩ xs L N tk t).L (runH ⟨prog, w.params⟩ xs L N tk t).sz h' → wpAny (model prog w) A (runH ⟨prog, w.params⟩ xs L N tk t).t Q E ⟨h', g, d, (runH ⟨prog, w.params⟩ xs L N tk t).tk, os⟩) : wpAny (model prog w) A t Q E ⟨h, g, d, tk, os⟩ := by
  obtain ⟨lg, rfl, kp, le, cv⟩ := S
  have z := runH_cv (g := ⟨prog, w.params⟩) xs L h.objs.size tk t
  refine seg xs L t ⟨h, g, d, tk, os⟩ lg e1 e2 fun h' b1 b2 b3 => hh h' ⟨b1, b3, kp.trans b2 cv, Nat.le_trans le z.2, fun a ha => ?_⟩
  rcases z.1 a ha with q | q
  · exact cv a q
  · exact .inr (Nat.le_trans le q)
theorem opS (S : Sg L0 h0 L N h) (xs : List Hn) (v : α) (L' : List (Addr × Obj)) (N' k : Nat) (e : out (runH ⟨prog, w.params⟩ xs L N tk t) = (true, L', N', k, .pure v)) (e2 : (runH ⟨prog, w.params⟩ xs L N tk t).c1 = (runH ⟨prog, w.params⟩ xs L N tk t).c2)
    (hh : ∀ h', Sg L0 h0 L' N' h' → Q v ⟨h', g, d, k, os⟩) : wpAny (model prog w) A t Q E ⟨h, g, d, tk, os⟩ := by
  have a1 := congrArg Prod.fst e
  have a2 := congrArg (fun x => x.2.1) e
  have a3 := congrArg (fun x => x.2.2.1) e
  have a4 := congrArg (fun x => x.2.2.2.1) e
  have a5 := congrArg (fun x => x.2.2.2.2) e
  dsimp only [out] at a1 a2 a3 a4 a5
  refine seg2 S xs a1 e2 fun h' b => ?_
  rw [a2, a3] at b
  rw [a5, a4]
  exact wpAny_pure (hh h' b)
/-- the run stops at some tree, which is left to be gone on with -/
theorem opT (S : Sg L0 h0 L N h) (xs : List Hn) (L' : List (Addr × Obj)) (N' k : Nat) (e : (fun r => (r.1, r.2.1, r.2.2.1, r.2.2.2.1)) (out (runH ⟨prog, w.params⟩ xs L N tk t)) = (true, L', N', k)) (e2 : (runH ⟨prog, w.params⟩ xs L N tk t).c1 = (runH ⟨prog, w.params⟩ xs L N tk t).c2)
    (hh : ∀ h', Sg L0 h0 L' N' h' → wpAny (model prog w) A (runH ⟨prog, w.params⟩ xs L N tk t).t Q E ⟨h', g, d, k, os⟩) : wpAny (model prog w) A t Q E ⟨h, g, d, tk, os⟩ := by
  have a1 := congrArg Prod.fst e
  have a2 := congrArg (fun x => x.2.1) e
  have a3 := congrArg (fun x => x.2.2.1) e
  have a4 := congrArg (fun x => x.2.2.2) e
  dsimp only [out] at a1 a2 a3 a4
  refine seg2 S xs a1 e2 fun h' b => ?_
  rw [a2, a3] at b
  rw [a4]
  exact hh h' b
noncomputable def callAt : Sem α → Option (Code × Option Value)
  | .call c hd _ _ _ => some (c, hd)
  | _ => none
noncomputable def contAt : Sem α → Result → Sem α
  | .call _ _ _ _ k, r => k r
  | t, _ => t
theorem call_at {s : Shared} {c : Code} {hd : Option Value} (e : callAt t = some (c, hd)) (hn : hd ≠ some byPass) (hh : codeAny (model prog w) (A.mark hd) c (fun r s' => wpAny (model prog w) A (contAt t r) Q E s') s) : wpAny (model prog w) A t Q E s := by
  cases t with
  | call c' hd' g' l k =>
    have e' := Option.some.inj e
    have e1 : c' = c := congrArg Prod.fst e'
    have e2 : hd' = hd := congrArg Prod.snd e'
    subst e1 e2
    exact x_call hh hn
  | _ => cases e
/-- loads, then a call: the code called, and behind it the rest of the tree -/
theorem opC {s : Shared} (S : Sg L0 h0 L N s.heap) (xs : List Nat) (c : Code) (e : callAt (runL ⟨prog, w.params⟩ xs L t).1 = some (c, none)) (e2 : (runL ⟨prog, w.params⟩ xs L t).2.1 = (runL ⟨prog, w.params⟩ xs L t).2.2)
    (hh : codeAny (model prog w) A c (fun r s' => wpAny (model prog w) A (contAt (runL ⟨prog, w.params⟩ xs L t).1 r) Q E s') s) : wpAny (model prog w) A t Q E s :=
  segL S.lg xs t e2 (call_at e (by intro z; cases z) hh)
/-- stores, allocs, loads, then a call -/
theorem opSC (S : Sg L0 h0 L N h) (xs : List Hn) (c : Code) (L' : List (Addr × Obj)) (N' k : Nat) (e : (fun r => (r.1, r.2.1, r.2.2.1, r.2.2.2.1, callAt r.2.2.2.2)) (out (runH ⟨prog, w.params⟩ xs L N tk t)) = (true, L', N', k, some (c, none))) (e2 : (runH ⟨prog, w.params⟩ xs L N tk t).c1 = (runH ⟨prog, w.params⟩ xs L N tk t).c2)
    (hh : ∀ h', Sg L0 h0 L' N' h' → codeAny (model prog w) A c (fun r s' => wpAny (model prog w) A (contAt (runH ⟨prog, w.params⟩ xs L N tk t).t r) Q E s') ⟨h', g, d, k, os⟩) : wpAny (model prog w) A t Q E ⟨h, g, d, tk, os⟩ := by
  have a1 := congrArg Prod.fst e
  have a2 := congrArg (fun x => x.2.1) e
  have a3 := congrArg (fun x => x.2.2.1) e
  have a4 := congrArg (fun x => x.2.2.2.1) e
  have a5 := congrArg (fun x => x.2.2.2.2) e
  dsimp only [out] at a1 a2 a3 a4 a5
  refine seg2 S xs a1 e2 fun h' b => ?_
  rw [a2, a3] at b
  rw [a4]
  exact call_at a5 (by intro z; cases z) (hh h' b)
theorem collect_op {Q : List Value → Shared → Prop} {l : Addr} {vs : List Value} (S : Sg L0 h0 L N h) (hl : h.IsList l vs.toArray) (hv : vs.length ≤ 1000) (hh : ∀ h', Sg L0 h0 L (N + 1) h' → Q vs ⟨h', g, d, tk, os⟩) :
    wpAny (model prog w) A (collect (.ref l)) Q E ⟨h, g, d, tk, os⟩ := by
  have hs := sizeLine_eq
  obtain ⟨lg, rfl, kp, le, cv⟩ := S
  have keep : ∀ b o, h.get? b = some o → ((h.push (seqObj "list" #[] 0)).update h.objs.size (Obj.mapSeq (· ++ vs.toArray))).get? b = some o := fun b o e =>
    (Heap.get?_update_ne _ _ _ _ (Nat.ne_of_lt (Heap.lt_size e))).trans (Heap.get?_push_of_some _ e)
  refine collect_list (s := ⟨h, g, d, tk, os⟩) hl (hh _ ⟨⟨fun p hp => keep _ _ (lg.at_ p hp), lg.nd⟩, ?_, fun b o e n => keep b o (kp b o e n), Nat.le_succ_of_le le, cv⟩) (by omega)
  rw [Heap.size_update, size_push']
end
section
variable {α : Type} {M : Model} {A : Around} {Q : α → Shared → Prop} {E : Value → Shared → Prop} {s : Shared} {a b : Sem α}
theorem wp_neg {c : Prop} [Decidable c] (hc : ¬ c) (h : wpAny M A b Q E s) : wpAny M A (if c then a else b) Q E s := by
  rw [if_neg hc]; exact h
theorem wp_pos {c : Prop} [Decidable c] (hc : c) (h : wpAny M A a Q E s) : wpAny M A (if c then a else b) Q E s := by
  rw [if_pos hc]; exact h
theorem wp_f {c : Bool} (hc : c = false) (h : wpAny M A b Q E s) : wpAny M A (if c = true then a else b) Q E s := by
  subst hc; exact h
theorem wp_t {c : Bool} (hc : c = true) (h : wpAny M A a Q E s) : wpAny M A (if c = true then a else b) Q E s := by
  subst hc; exact h
end
end Mine
namespace Mine
noncomputable def pick (L : List (Addr × Obj)) (is : List Nat) : List (Addr × Obj) := is.filterMap (fun i => L[i]?)
theorem pick_mem {L : List (Addr × Obj)} {is : List Nat} {p : Addr × Obj} (h : p ∈ pick L is) : ∃ i ∈ is, L[i]? = some p := by
  obtain ⟨i, hi, e⟩ := List.mem_filterMap.mp h
  exact ⟨i, hi, e⟩
theorem nd_inj {L : List (Addr × Obj)} (nd : (L.map (·.1)).Nodup) {i j : Nat} {p q : Addr × Obj} (hi : L[i]? = some p) (hj : L[j]? = some q) (e : p.1 = q.1) : i = j := by
  have a : (L.map (·.1))[i]? = some p.1 := by rw [List.getElem?_map, hi]; rfl
  have b : (L.map (·.1))[j]? = some q.1 := by rw [List.getElem?_map, hj]; rfl
  obtain ⟨li, ei⟩ := List.getElem?_eq_some_iff.mp a
  obtain ⟨lj, ej⟩ := List.getElem?_eq_some_iff.mp b
  have pw := List.pairwise_iff_getElem.mp nd
  rcases Nat.lt_trichotomy i j with l | l | l
  · exact absurd (by rw [ei, ej, e]) (pw i j li lj l)
  · exact l
  · exact absurd (by rw [ei, ej, e]) (pw j i lj li l)
theorem pick_nd {L : List (Addr × Obj)} (nd : (L.map (·.1)).Nodup) : ∀ {is : List Nat}, is.Nodup → ((pick L is).map (·.1)).Nodup
  | [], _ => List.nodup_nil
  | i :: is, h => by
    have h' := List.nodup_cons.mp h
    unfold pick
    rw [List.filterMap_cons]
    cases hi : L[i]? with
    | none => exact pick_nd nd h'.2
    | some p =>
      rw [List.map_cons, List.nodup_cons]
      refine ⟨fun hm => ?_, pick_nd nd h'.2⟩
      obtain ⟨q, hq, e⟩ := List.mem_map.mp hm
      obtain ⟨j, hj, ej⟩ := pick_mem hq
      exact h'.1 (nd_inj nd ej hi e ▸ hj)
theorem Lg.pick {L : List (Addr × Obj)} {h : Heap} (H : Lg L h) {is : List Nat} (nd : is.Nodup) : Lg (pick L is) h :=
  ⟨fun p hp => by obtain ⟨i, _, e⟩ := pick_mem hp; exact H.get e, pick_nd H.nd nd⟩
/-- a part of the list goes its own way; the rest is as it was -/
theorem Sg.join {L0 : List (Addr × Obj)} {h0 : Heap} {L L2 : List (Addr × Obj)} {N N2 : Nat} {h h2 : Heap} {is js : List Nat} (S : Sg L0 h0 L N h) (nd : (is ++ js).Nodup) (T : Sg (Mine.pick L is) h L2 N2 h2) : Sg L0 h0 (Mine.pick L js ++ L2) N2 h2 := by
  have ndi := (List.nodup_append.mp nd).1
  have ndj := (List.nodup_append.mp nd).2.1
  have dis : ∀ i ∈ is, ∀ j ∈ js, i ≠ j := (List.nodup_append.mp nd).2.2
  have keep : ∀ p ∈ Mine.pick L js, h2.get? p.1 = some p.2 := fun p hp => by
    obtain ⟨j, hj, ej⟩ := pick_mem hp
    refine T.kp _ _ (S.lg.get ej) fun hm => ?_
    obtain ⟨q, hq, e⟩ := List.mem_map.mp hm
    obtain ⟨i, hi, ei⟩ := pick_mem hq
    exact dis i hi j hj (nd_inj S.lg.nd ei ej e)
  refine ⟨⟨fun p hp => (List.mem_append.mp hp).elim (keep p) (T.lg.at_ p), ?_⟩, T.sz, S.kp.trans T.kp (fun a ha => ?_), Nat.le_trans S.le (S.sz ▸ T.le), fun a ha => ?_⟩
  · rw [List.map_append, List.nodup_append]
    refine ⟨pick_nd S.lg.nd ndj, T.lg.nd, fun a ha b hb e => ?_⟩
    obtain ⟨p, hp, rfl⟩ := List.mem_map.mp ha
    obtain ⟨j, hj, ej⟩ := pick_mem hp
    rcases T.cv b hb with hc | hc
    · obtain ⟨q, hq, eq⟩ := List.mem_map.mp hc
      obtain ⟨i, hi, ei⟩ := pick_mem hq
      exact dis i hi j hj (nd_inj S.lg.nd ei ej (eq.trans e.symm))
    · have := Heap.lt_size (S.lg.get ej)
      rw [e] at this
      exact Nat.lt_irrefl _ (Nat.lt_of_lt_of_le this hc)
  · obtain ⟨q, hq, rfl⟩ := List.mem_map.mp ha
    obtain ⟨i, _, ei⟩ := pick_mem hq
    exact S.cv _ (List.mem_map_of_mem (List.mem_of_getElem? ei))
  · rw [List.map_append, List.mem_append] at ha
    rcases ha with ha | ha
    · obtain ⟨q, hq, rfl⟩ := List.mem_map.mp ha
      obtain ⟨i, _, ei⟩ := pick_mem hq
      exact S.cv _ (List.mem_map_of_mem (List.mem_of_getElem? ei))
    · rcases T.cv a ha with hc | hc
      · obtain ⟨q, hq, rfl⟩ := List.mem_map.mp hc
        obtain ⟨i, _, ei⟩ := pick_mem hq
        exact S.cv _ (List.mem_map_of_mem (List.mem_of_getElem? ei))
      · exact .inr (Nat.le_trans S.le (S.sz ▸ hc))
end Mine
end
section
namespace Mine
set_option maxHeartbeats 8000000
structure Cx where
  T1 : Addr
  nsA : Addr
  SL : Addr
  f1 : Addr
  f2 : Addr
  f3 : Addr
  f4 : Addr
  f5 : Addr
  f6 : Addr
  ST : Addr
  hh : Nat → Int
  tt : Nat → Tok
  n0 : Nat
  n1 : Nat
  fd : Nat → Option Addr
  fx : Nat → Data
  fs : Nat → Array (Option Value)
  sx : Array Value
  sn : Nat
noncomputable def Cx.e (x : Cx) (i : Nat) (n : String) (v : Value) : DictEntry := ⟨x.hh i, .str (Str.ofString n) (x.tt i), v⟩
noncomputable def Cx.es (x : Cx) : List DictEntry := [x.e 0 "__module__" (.str (Str.ofString "cpy313.functools") (x.tt 20)), x.e 1 "__qualname__" (.str (Str.ofString "cmp_to_key.<locals>.K") (x.tt 21)), x.e 2 "__firstlineno__" (.int 29 (x.tt 22)),
  x.e 3 "__slots__" (.ref x.SL), x.e 4 "__init__" (.ref x.f1), x.e 5 "__lt__" (.ref x.f2), x.e 6 "__gt__" (.ref x.f3), x.e 7 "__eq__" (.ref x.f4), x.e 8 "__le__" (.ref x.f5), x.e 9 "__ge__" (.ref x.f6),
  x.e 10 "__hash__" .none, x.e 11 "__static_attributes__" (.ref x.ST)]
noncomputable def dO (es : List DictEntry) (n : Nat) : Obj := ⟨.type "dict", none, .dict es.toArray n, #[]⟩
noncomputable def Cx.fO (x : Cx) (i : Nat) : Obj := ⟨.type "function", x.fd i, x.fx i, x.fs i⟩
noncomputable def tupO : Obj := ⟨.type "tuple", none, .seq #[.type "object"] 0, #[]⟩
noncomputable def Cx.slO (x : Cx) : Obj := ⟨.type "list", none, .seq #[.str (Str.ofString "obj") (x.tt 23)] x.n1, #[]⟩
noncomputable def Cx.stO (x : Cx) : Obj := ⟨.type "tuple", none, .seq x.sx x.sn, #[]⟩
noncomputable def stO2 : Obj := ⟨.none, none, .dict #[] 0, #[]⟩
noncomputable def Cx.L (x : Cx) : List (Addr × Obj) := [(x.T1, tupO), (x.nsA, dO x.es x.n0), (x.SL, x.slO), (x.f1, x.fO 1), (x.f2, x.fO 2), (x.f3, x.fO 3), (x.f4, x.fO 4), (x.f5, x.fO 5), (x.f6, x.fO 6), (x.ST, x.stO), (2, stO2)]
noncomputable def kO (cd : ClassData) (sl : List (Option Value)) : Obj := ⟨.type "type", none, .cls cd, sl.toArray⟩
noncomputable def cd0 (ns : Addr) : ClassData := { name := Str.ofString "K", bases := [.type "object"], mro := [], ns := ns, qualname := Str.ofString "cmp_to_key.<locals>.K" }
noncomputable def Cx.es1 (x : Cx) : List DictEntry := [x.e 0 "__module__" (.str (Str.ofString "cpy313.functools") (x.tt 20)), x.e 2 "__firstlineno__" (.int 29 (x.tt 22)),
  x.e 3 "__slots__" (.ref x.SL), x.e 4 "__init__" (.ref x.f1), x.e 5 "__lt__" (.ref x.f2), x.e 6 "__gt__" (.ref x.f3), x.e 7 "__eq__" (.ref x.f4), x.e 8 "__le__" (.ref x.f5), x.e 9 "__ge__" (.ref x.f6),
  x.e 10 "__hash__" .none, x.e 11 "__static_attributes__" (.ref x.ST)]
noncomputable def cd1 (c ns : Addr) : ClassData := { name := Str.ofString "K", bases := [.type "object"], mro := [.ref c, .type "object"], ns := ns, qualname := Str.ofString "cmp_to_key.<locals>.K" }
noncomputable def cd2 (c ns : Addr) : ClassData := { name := Str.ofString "K", bases := [.type "object"], mro := [.ref c, .type "object"], ns := ns, qualname := Str.ofString "cmp_to_key.<locals>.K", hasDict := false, slotNames := [Str.ofString "obj"] }
noncomputable def Cx.sl (x : Cx) (t : Tok) : List (Option Value) := [some (.ref x.T1), none, some (.str (Str.ofString "K") t), some (.str (Str.ofString "cmp_to_key.<locals>.K") (x.tt 21))]
noncomputable def mdO (c : Addr) (tk : Tok) : Obj := ⟨.type "member_descriptor", none, .fields #[.str (Str.ofString "obj") tk, .ref c, .builtin "proto.slot", .builtin "proto.slot#set", .int 0 0], #[]⟩
noncomputable def Cx.es2 (x : Cx) (w : World) (tk : Tok) (md : Addr) : List DictEntry := x.es1 ++ [⟨PyData.keyHash w.params (Str.ofString "obj"), .str (Str.ofString "obj") tk, .ref md⟩]
noncomputable def Cx.es3 (x : Cx) (w : World) (tk : Tok) (md : Addr) : List DictEntry := x.es1 ++ [⟨PyData.keyHash w.params (Str.ofString "obj"), .str (Str.ofString "obj") tk, .ref md⟩, ⟨PyData.keyHash w.params (Str.ofString "__doc__"), .str (Str.ofString "__doc__") (tk + 1), .none⟩]
theorem ent_type_call : entryFor table "type.__call__" = some Builtin.«type.__call__» := entryFor_of_tree (by kernel_rfl)
theorem ent_super_new : entryFor table "super.__new__" = some Builtin.«super.__new__» := entryFor_of_tree (by kernel_rfl)
theorem ent_super_init : entryFor table "super.__init__" = some Builtin.«super.__init__» := entryFor_of_tree (by kernel_rfl)
noncomputable def Cx.LF (x : Cx) (w : World) (t : Tok) (tk : Tok) (N : Nat) : List (Addr × Obj) := x.L ++ [(N + 1, dO (x.es3 w (tk + 1) (N + 3)) 3), (N + 2, kO (cd2 (N + 2) (N + 1)) (x.sl t ++ [some (.builtin "object.__new__"), some (.bool false)])), (N + 3, mdO (N + 2) tk)]
noncomputable def supO (c : Addr) : Obj := ⟨.type "super", none, .fields #[.ref c, .ref c, .ref c], #[]⟩
theorem sup_spec {w : World} {A : Around} {h0 h : Heap} {g : Array GenState} {d : Drawn} {tk tk0 : Nat} {os : OsState} {L0 : List (Addr × Obj)} {x : Cx} {N : Nat} {t : Tok} {Q : Value → Shared → Prop} {E : Value → Shared → Prop}
    (S : Sg L0 h0 (x.LF w t tk0 N) (N + 4) h) (hQ : ∀ h', Sg L0 h0 (x.LF w t tk0 N ++ [(N + 4, supO (N + 2))]) (N + 5) h' → Q (.ref (N + 4)) ⟨h', g, d, tk, os⟩) :
    wpAny (model PySem.Challenge.rw_op0083_01.row.prog w) A (call (.type "super") [.ref (N + 2), .ref (N + 2)]) Q E ⟨h, g, d, tk, os⟩ := by
  refine wpAny_call (codeAny_of_tree ?_)
  refine opP (.again (.builtin "type.__call__" ⟨.type "super" :: [.ref (N + 2), .ref (N + 2)], []⟩)) (by kernel_rfl) ?_
  refine ⟨by kernel_rfl, codeAny_builtin ent_type_call ?_⟩
  unfold Builtin.«type.__call__»
  refine wp_f (by kernel_rfl) ?_
  refine wp_f (by kernel_rfl) ?_
  refine wpAny_bind (op0 S [12] () (by kernel_rfl) (by kernel_rfl) ?_)
  refine wpAny_bind (opP [.type "super", .type "object"] (by kernel_rfl) ?_)
  refine wp_f (by kernel_rfl) ?_
  refine wpAny_bind (opP (some "super.__new__") (by kernel_rfl) ?_)
  refine wpAny_bind (wpAny_pure ?_)
  refine wpAny_bind (wpAny_holding (wpAny_call (codeAny_of_tree ?_)))
  refine opP (.again (.builtin "super.__new__" ⟨[.type "super", .ref (N + 2), .ref (N + 2)], []⟩)) (by kernel_rfl) ?_
  refine ⟨by kernel_rfl, codeAny_builtin ent_super_new ?_⟩
  refine opS S [.al] (.done (.ret (.ref (N + 4)))) (x.LF w t tk0 N ++ [(N + 4, ⟨.type "super", none, .fields #[.none, .none, .none], #[]⟩)]) (N + 5) tk (by kernel_rfl) (by kernel_rfl) fun h1 S1 => ?_
  refine wpAny_bind (op0 S1 [14] true (by kernel_rfl) (by kernel_rfl) ?_)
  refine wp_f (by kernel_rfl) ?_
  refine wpAny_bind (wpAny_holding ?_)
  unfold callSpecial?
  refine wpAny_bind (op0 S1 [14] (some (.builtin "super.__init__")) (by kernel_rfl) (by kernel_rfl) ?_)
  refine wpAny_holding ?_
  refine wpAny_bind (opP (.builtin "super.__init__", [.ref (N + 4)]) (by kernel_rfl) ?_)
  refine wpAny_bind (wpAny_call (codeAny_of_tree ?_))
  refine op0 S1 [14] (.again (.builtin "super.__init__" ⟨[.ref (N + 4), .ref (N + 2), .ref (N + 2)], []⟩)) (by kernel_rfl) (by kernel_rfl) ?_
  refine ⟨by kernel_rfl, codeAny_builtin ent_super_init ?_⟩
  unfold Builtin.«super.__init__»
  refine wpAny_bind (opP () (by kernel_rfl) ?_)
  refine wpAny_bind (wpAny_pure ?_)
  refine wpAny_bind (op0 S1 [12] true (by kernel_rfl) (by kernel_rfl) ?_)
  refine wp_f (by kernel_rfl) ?_
  refine wp_f (by kernel_rfl) ?_
  refine wpAny_bind ?_
  refine wpAny_bind (op0 S1 [12] true (by kernel_rfl) (by kernel_rfl) ?_)
  refine wp_t (by kernel_rfl) ?_
  refine wpAny_bind ?_
  unfold isSubtype
  refine wpAny_bind (op0 S1 [12] [.ref (N + 2), .type "object"] (by kernel_rfl) (by kernel_rfl) ?_)
  refine wp_f (by kernel_rfl) ?_
  rw [show List.contains [Value.ref (N + 2), Value.type "object"] (Value.ref (N + 2)) = true from by simp]
  refine wpAny_pure ?_
  refine wp_t (by kernel_rfl) ?_
  refine wpAny_pure ?_
  refine wpAny_bind (opS S1 [.ld 14, .up 14] () (x.LF w t tk0 N ++ [(N + 4, ⟨.type "super", none, .fields #[.ref (N + 2), .none, .none], #[]⟩)]) (N + 5) tk (by kernel_rfl) (by kernel_rfl) fun h2 S2 => ?_)
  refine wpAny_bind (opS S2 [.ld 14, .up 14] () (x.LF w t tk0 N ++ [(N + 4, ⟨.type "super", none, .fields #[.ref (N + 2), .ref (N + 2), .none], #[]⟩)]) (N + 5) tk (by kernel_rfl) (by kernel_rfl) fun h3 S3 => ?_)
  refine wpAny_bind (opS S3 [.ld 14, .up 14] () (x.LF w t tk0 N ++ [(N + 4, supO (N + 2))]) (N + 5) tk (by kernel_rfl) (by kernel_rfl) fun h4 S4 => ?_)
  refine wpAny_pure ?_
  refine wpAny_pure ?_
  refine wp_f (by kernel_rfl) ?_
  refine wpAny_pure ?_
  exact hQ h4 S4
theorem ent_super_get : entryFor table "super.__getattribute__" = some Builtin.«super.__getattribute__» := entryFor_of_tree (by kernel_rfl)
theorem ent_cm_get : entryFor table "classmethod_descriptor.__get__" = some Builtin.«classmethod_descriptor.__get__» := entryFor_of_tree (by kernel_rfl)
noncomputable def bmO (c : Addr) : Obj := ⟨.type "builtin_function_or_method", none, .fields #[.builtin "object.__init_subclass__", .ref c], #[]⟩
theorem get_spec {w : World} {A : Around} {h0 h : Heap} {g : Array GenState} {d : Drawn} {tk tk0 : Nat} {os : OsState} {L0 : List (Addr × Obj)} {x : Cx} {N : Nat} {t : Tok} {Q : Value → Shared → Prop} {E : Value → Shared → Prop}
    (S : Sg L0 h0 (x.LF w t tk0 N ++ [(N + 4, supO (N + 2))]) (N + 5) h) (hQ : ∀ h', Sg L0 h0 (x.LF w t tk0 N ++ [(N + 4, supO (N + 2)), (N + 5, bmO (N + 2))]) (N + 6) h' → Q (.ref (N + 5)) ⟨h', g, d, tk + 1, os⟩) :
    wpAny (model PySem.Challenge.rw_op0083_01.row.prog w) A (getAttr (.ref (N + 4)) (Str.ofString "__init_subclass__")) Q E ⟨h, g, d, tk, os⟩ := by
  unfold getAttr
  refine wpAny_bind (opS S [.fr] (.str (Str.ofString "__init_subclass__") tk) (x.LF w t tk0 N ++ [(N + 4, supO (N + 2))]) (N + 5) (tk + 1) (by kernel_rfl) (by kernel_rfl) fun h1 S1 => ?_)
  unfold getAttrBy
  refine wpAny_holding ?_
  refine wpAny_bind (op0 S1 [14] (.type "super") (by kernel_rfl) (by kernel_rfl) ?_)
  refine wpAny_bind (opP (some (.builtin "super.__getattribute__")) (by kernel_rfl) ?_)
  refine wp_f (by kernel_rfl) ?_
  unfold getAttrByItsOwn
  refine wpAny_bind (opP none (by kernel_rfl) ?_)
  refine wpAny_bind (wpAny_attempt (wpAny_holding ?_))
  unfold callGetattribute
  refine wp_f (by kernel_rfl) ?_
  unfold boundAndCalled
  refine wpAny_bind (opP (.builtin "super.__getattribute__", [.ref (N + 4)]) (by kernel_rfl) ?_)
  refine wpAny_call (codeAny_of_tree ?_)
  refine op0 S1 [14] (.again (.builtin "super.__getattribute__" ⟨[.ref (N + 4), .str (Str.ofString "__init_subclass__") tk], []⟩)) (by kernel_rfl) (by kernel_rfl) ?_
  refine ⟨by kernel_rfl, codeAny_builtin ent_super_get ?_⟩
  unfold Builtin.«super.__getattribute__»
  refine wpAny_bind (opP (some (Str.ofString "__init_subclass__")) (by kernel_rfl) ?_)
  refine wp_f (by kernel_rfl) ?_
  refine wpAny_bind (opP (some (Str.ofString "__init_subclass__")) (by kernel_rfl) ?_)
  refine wpAny_bind (op0 S1 [14] (.ref (N + 2)) (by kernel_rfl) (by kernel_rfl) ?_)
  refine wpAny_bind (op0 S1 [14] (.ref (N + 2)) (by kernel_rfl) (by kernel_rfl) ?_)
  refine wpAny_bind (op0 S1 [14] (.ref (N + 2)) (by kernel_rfl) (by kernel_rfl) ?_)
  refine wp_f (by kernel_rfl) ?_
  refine wpAny_bind (op0 S1 [10] () (by kernel_rfl) (by kernel_rfl) ?_)
  refine wp_f (by kernel_rfl) ?_
  refine wpAny_bind (op0 S1 [12] [.ref (N + 2), .type "object"] (by kernel_rfl) (by kernel_rfl) ?_)
  refine wpAny_bind ?_
  rw [show List.drop 1 (List.dropWhile (fun y : Value => y != Value.ref (N + 2)) [Value.ref (N + 2), Value.type "object"]) = [Value.type "object"] from by simp [List.dropWhile]]
  rw [List.forIn_cons]
  refine wpAny_bind ?_
  refine wpAny_bind (opP (some (.builtin "object.__init_subclass__")) (by kernel_rfl) ?_)
  refine wpAny_bind (opP (.type "classmethod_descriptor") (by kernel_rfl) ?_)
  refine wpAny_bind (opP (some (.builtin "classmethod_descriptor.__get__")) (by kernel_rfl) ?_)
  rw [show (if (Value.ref (N + 2) == Value.ref (N + 2)) = true then Value.none else Value.ref (N + 2)) = Value.none from by simp]
  refine wpAny_bind (wpAny_holding (wpAny_call (codeAny_of_tree ?_)))
  refine opP (.again (.builtin "classmethod_descriptor.__get__" ⟨[.builtin "object.__init_subclass__", .none, .ref (N + 2)], []⟩)) (by kernel_rfl) ?_
  refine ⟨by kernel_rfl, codeAny_builtin ent_cm_get ?_⟩
  refine opS S1 [.ld 12, .ld 12, .al] (.done (.ret (.ref (N + 5)))) (x.LF w t tk0 N ++ [(N + 4, supO (N + 2)), (N + 5, bmO (N + 2))]) (N + 6) (tk + 1) (by kernel_rfl) (by kernel_rfl) fun h2 S2 => ?_
  refine wpAny_bind (wpAny_pure ?_)
  refine wpAny_pure ?_
  refine wpAny_pure ?_
  refine wpAny_pure ?_
  refine opP (.ref (N + 5)) (by kernel_rfl) ?_
  exact hQ h2 S2
theorem ent_obj_isub : entryFor table "object.__init_subclass__" = some Builtin.«object.__init_subclass__» := entryFor_of_tree (by kernel_rfl)
theorem isub_spec {w : World} {A : Around} {h0 h : Heap} {g : Array GenState} {d : Drawn} {tk tk0 : Nat} {os : OsState} {L0 : List (Addr × Obj)} {x : Cx} {N : Nat} {t : Tok} {Q : Value → Shared → Prop} {E : Value → Shared → Prop}
    (S : Sg L0 h0 (x.LF w t tk0 N ++ [(N + 4, supO (N + 2)), (N + 5, bmO (N + 2))]) (N + 6) h) (hQ : Q .none ⟨h, g, d, tk, os⟩) :
    wpAny (model PySem.Challenge.rw_op0083_01.row.prog w) A (call (.ref (N + 5)) [] []) Q E ⟨h, g, d, tk, os⟩ := by
  refine wpAny_call (codeAny_of_tree ?_)
  refine op0 S [15, 12, 12, 12, 12] (.again (.builtin "object.__init_subclass__" ⟨[.ref (N + 2)], []⟩)) (by kernel_rfl) (by kernel_rfl) ?_
  refine ⟨by kernel_rfl, codeAny_builtin ent_obj_isub ?_⟩
  exact opP (.done (.ret .none)) (by kernel_rfl) hQ
theorem type_new {w : World} {h0 h : Heap} {g : Array GenState} {d : Drawn} {tk : Nat} {os : OsState} {L0 : List (Addr × Obj)} {x : Cx} {N : Nat} {t : Tok} {A : Around} {Q : PySem.Fin → Shared → Prop} {E : Value → Shared → Prop}
    (hn : x.nsA ≠ sysModules) (S : Sg L0 h0 x.L N h) (hQ : ∀ h', Sg L0 h0 (x.LF w t tk N) (N + 6) h' → Q (.done (.ret (.ref (N + 2)))) ⟨h', g, d, tk + 4, os⟩) :
    wpAny (model PySem.Challenge.rw_op0083_01.row.prog w) A (Builtin.«type.__new__» ⟨[.type "type", .str (Str.ofString "K") t, .ref x.T1, .ref x.nsA], []⟩) Q E ⟨h, g, d, tk, os⟩ := by
  unfold Builtin.«type.__new__»
  refine wpAny_bind (opP (some (Str.ofString "K")) (by kernel_rfl) ?_)
  refine wpAny_bind (op0 S [0] true (by kernel_rfl) (by kernel_rfl) ?_)
  refine wp_neg (by decide) ?_
  refine wpAny_bind (op0 S [1] true (by kernel_rfl) (by kernel_rfl) ?_)
  refine wp_neg (by decide) ?_
  refine wpAny_bind (op0 S [0] (some #[.type "object"]) (by kernel_rfl) (by kernel_rfl) ?_)
  refine wp_neg (by decide) ?_
  refine wpAny_bind (opP PUnit.unit (by kernel_rfl) ?_)
  refine wpAny_bind (opP (.type "type") (by kernel_rfl) ?_)
  refine wp_neg (by decide +kernel) ?_
  refine wpAny_bind (opP () (by kernel_rfl) ?_)
  refine wpAny_bind (opP (.type "object") (by kernel_rfl) ?_)
  refine wp_neg (by simpa using hn) ?_
  refine wpAny_bind (op0 S [1] x.es.toArray (by kernel_rfl) (by kernel_rfl) ?_)
  refine wpAny_bind (op0 S [1] (some (.builtin "dict.__iter__")) (by kernel_rfl) (by kernel_rfl) ?_)
  refine wp_pos (by simp) ?_
  refine wpAny_bind (wpAny_pure ?_)
  refine wpAny_bind (wpAny_holding ?_)
  unfold Builtin.Slots.read
  refine wpAny_bind (opP (.type "object") (by kernel_rfl) ?_)
  refine wpAny_bind (opP [] (by kernel_rfl) ?_)
  refine wpAny_bind (opP false (by kernel_rfl) ?_)
  refine wpAny_bind (opP false (by kernel_rfl) ?_)
  refine wpAny_bind (opP false (by kernel_rfl) ?_)
  rw [show Array.find? (fun y : DictEntry => y.key.isStr (Str.ofString "__slots__")) x.es.toArray = some (x.e 3 "__slots__" (.ref x.SL)) from by kernel_rfl]
  refine wpAny_bind (wpAny_rule ?_)
  refine wpAny_bind (op0 S [2] none (by kernel_rfl) (by kernel_rfl) ?_)
  refine wp_neg (by decide) ?_
  refine wpAny_bind (collect_op S (vs := [.str (Str.ofString "obj") (x.tt 23)]) ⟨_, S.lg.get (i := 2) rfl, rfl, _, rfl⟩ (by simp) fun h1 S1 => ?_)
  refine opP { names := [Str.ofString "obj"], dict := false, weak := false, inherited := [] } (by kernel_rfl) ?_
  refine wpAny_bind (opS S1 [.al] (.ref (N + 1)) (x.L ++ [(N + 1, dO x.es 0)]) (N + 2) tk (by kernel_rfl) (by kernel_rfl) fun h2 S2 => ?_)
  refine wp_f (by kernel_rfl) ?_
  refine wpAny_bind (opP () (by kernel_rfl) ?_)
  refine wp_f (by kernel_rfl) ?_
  refine wpAny_bind (op0 S2 [11] (some (.str (Str.ofString "cmp_to_key.<locals>.K") (x.tt 21))) (by kernel_rfl) (by kernel_rfl) ?_)
  refine wpAny_bind (op0 S2 [11] (some (.str (Str.ofString "cmp_to_key.<locals>.K") (x.tt 21))) (by kernel_rfl) (by kernel_rfl) ?_)
  refine wpAny_bind (opP (some (Str.ofString "cmp_to_key.<locals>.K")) (by kernel_rfl) ?_)
  refine wpAny_bind (wpAny_pure ?_)
  refine wpAny_bind (op0 S2 [11] none (by kernel_rfl) (by kernel_rfl) ?_)
  refine wpAny_bind (opS S2 [.al] (N + 2) (x.L ++ [(N + 1, dO x.es 0), (N + 2, kO (cd0 (N + 1)) [])]) (N + 3) tk (by kernel_rfl) (by kernel_rfl) fun h3 S3 => ?_)
  refine wp_t (by kernel_rfl) ?_
  refine wpAny_bind (opS S3 [.up 12] () (x.L ++ [(N + 1, dO x.es 0), (N + 2, kO (cd0 (N + 1)) [some (.ref x.T1)])]) (N + 3) tk (by kernel_rfl) (by kernel_rfl) fun h4 S4 => ?_)
  refine wpAny_bind (opS S4 [.up 12] () (x.L ++ [(N + 1, dO x.es 0), (N + 2, kO (cd0 (N + 1)) [some (.ref x.T1), none, some (.str (Str.ofString "K") t)])]) (N + 3) tk (by kernel_rfl) (by kernel_rfl) fun h5 S5 => ?_)
  refine wpAny_bind (opS S5 [.up 12] () (x.L ++ [(N + 1, dO x.es 0), (N + 2, kO (cd0 (N + 1)) [some (.ref x.T1), none, some (.str (Str.ofString "K") t), some (.str (Str.ofString "cmp_to_key.<locals>.K") (x.tt 21))])]) (N + 3) tk (by kernel_rfl) (by kernel_rfl) fun h6 S6 => ?_)
  refine wpAny_bind (opS S6 [.ld 11, .up 11] true (x.L ++ [(N + 1, dO x.es1 1), (N + 2, kO (cd0 (N + 1)) [some (.ref x.T1), none, some (.str (Str.ofString "K") t), some (.str (Str.ofString "cmp_to_key.<locals>.K") (x.tt 21))])]) (N + 3) tk (by kernel_rfl) (by kernel_rfl) fun h7 S7 => ?_)
  refine wpAny_bind (op0 S7 [11] none (by kernel_rfl) (by kernel_rfl) ?_)
  refine wpAny_bind (op0 S7 [11, 11] PUnit.unit (by kernel_rfl) (by kernel_rfl) ?_)
  refine wpAny_bind (op0 S7 [11] none (by kernel_rfl) (by kernel_rfl) ?_)
  refine wpAny_bind (op0 S7 [11] none (by kernel_rfl) (by kernel_rfl) ?_)
  refine wpAny_bind (opP none (by kernel_rfl) ?_)
  refine wpAny_bind (opP [.type "object"] (by kernel_rfl) ?_)
  refine wpAny_bind (wpAny_pure ?_)
  refine wpAny_bind ?_
  rw [show List.filter (fun y : Value => y != Value.ref (N + 2)) (Value.ref (N + 2) :: [Value.type "object"]) = [Value.type "object"] from by simp]
  refine opP false (by kernel_rfl) ?_
  refine wpAny_bind (opS S7 [.ld 12, .up 12, .ld 12] () (x.L ++ [(N + 1, dO x.es1 1), (N + 2, kO (cd1 (N + 2) (N + 1)) (x.sl t))]) (N + 3) tk (by kernel_rfl) (by kernel_rfl) fun h8 S8 => ?_)
  refine wpAny_bind (opP (some "object.__new__") (by kernel_rfl) ?_)
  refine wpAny_bind (opS S8 [.up 12] () (x.L ++ [(N + 1, dO x.es1 1), (N + 2, kO (cd1 (N + 2) (N + 1)) (x.sl t ++ [some (.builtin "object.__new__")]))]) (N + 3) tk (by kernel_rfl) (by kernel_rfl) fun h9 S9 => ?_)
  refine wpAny_bind (op0 S9 [12, 12, 12, 11] () (by kernel_rfl) (by kernel_rfl) ?_)
  refine wpAny_bind (opS S9 [.ld 11, .fr, .al, .ld 11, .fr, .ld 11, .up 11, .ld 12, .up 12, .ld 12] () (x.L ++ [(N + 1, dO (x.es2 w (tk + 1) (N + 3)) 2), (N + 2, kO (cd2 (N + 2) (N + 1)) (x.sl t ++ [some (.builtin "object.__new__")])), (N + 3, mdO (N + 2) tk)]) (N + 4) (tk + 2) (by kernel_rfl) (by kernel_rfl) fun h10 S10 => ?_)
  refine wpAny_bind (opP false (by kernel_rfl) ?_)
  refine wpAny_bind (opS S10 [.up 12] () (x.L ++ [(N + 1, dO (x.es2 w (tk + 1) (N + 3)) 2), (N + 2, kO (cd2 (N + 2) (N + 1)) (x.sl t ++ [some (.builtin "object.__new__"), some (.bool false)])), (N + 3, mdO (N + 2) tk)]) (N + 4) (tk + 2) (by kernel_rfl) (by kernel_rfl) fun h11 S11 => ?_)
  refine wp_f (by kernel_rfl) ?_
  refine wp_f (by kernel_rfl) ?_
  refine wpAny_bind (op0 S11 [11] none (by kernel_rfl) (by kernel_rfl) ?_)
  refine wp_t (by kernel_rfl) ?_
  refine wpAny_bind (opS S11 [.fr, .ld 11, .up 11] () (x.L ++ [(N + 1, dO (x.es3 w (tk + 1) (N + 3)) 3), (N + 2, kO (cd2 (N + 2) (N + 1)) (x.sl t ++ [some (.builtin "object.__new__"), some (.bool false)])), (N + 3, mdO (N + 2) tk)]) (N + 4) (tk + 3) (by kernel_rfl) (by kernel_rfl) fun h12 S12 => ?_)
  refine wpAny_bind (op0 S12 [11] (some (.ref x.f4)) (by kernel_rfl) (by kernel_rfl) ?_)
  refine wp_t (by kernel_rfl) ?_
  refine wpAny_bind (op0 S12 [11] (some .none) (by kernel_rfl) (by kernel_rfl) ?_)
  refine wp_f (by kernel_rfl) ?_
  refine wpAny_bind (opP PUnit.unit (by kernel_rfl) ?_)
  refine wpAny_bind (wpAny_tryCatch (wpAny_holding ?_))
  refine wpAny_bind (op0 S12 [11] (x.es3 w (tk + 1) (N + 3)).toArray (by kernel_rfl) (by kernel_rfl) ?_)
  refine wpAny_bind (opP false (by kernel_rfl) ?_)
  refine wp_f (by kernel_rfl) ?_
  refine wpAny_bind (op0 S12 [11] (x.es3 w (tk + 1) (N + 3)).toArray (by kernel_rfl) (by kernel_rfl) ?_)
  refine wpAny_bind (op0 S12 [2, 3, 4, 5, 6, 7, 8, 9, 13] PUnit.unit (by kernel_rfl) (by kernel_rfl) ?_)
  refine wpAny_bind (sup_spec (tk0 := tk) (t := t) S12 fun h13 S13 => ?_)
  refine wpAny_bind (wpAny_holding (get_spec S13 fun h14 S14 => ?_))
  refine wpAny_bind (isub_spec S14 ?_)
  refine wpAny_pure ?_
  refine wpAny_pure ?_
  exact hQ h14 (S14.sub (List.sublist_append_left _ _))
end Mine
end
section
namespace Mine
set_option maxHeartbeats 8000000
theorem ent_type_new : entryFor table "type.__new__" = some Builtin.«type.__new__» := entryFor_of_tree (by kernel_rfl)
theorem ent_type_init : entryFor table "type.__init__" = some Builtin.«type.__init__» := entryFor_of_tree (by kernel_rfl)
theorem type_call {w : World} {h0 h : Heap} {g : Array GenState} {d : Drawn} {tk : Nat} {os : OsState} {L0 : List (Addr × Obj)} {x : Cx} {N : Nat} {t : Tok} {A : Around} {Q : Value → Shared → Prop} {E : Value → Shared → Prop}
    (hn : x.nsA ≠ sysModules) (S : Sg L0 h0 x.L N h) (hQ : ∀ h', Sg L0 h0 (x.LF w t tk N) (N + 6) h' → Q (.ref (N + 2)) ⟨h', g, d, tk + 4, os⟩) :
    wpAny (model PySem.Challenge.rw_op0083_01.row.prog w) A (call (.type "type") [.str (Str.ofString "K") t, .ref x.T1, .ref x.nsA] []) Q E ⟨h, g, d, tk, os⟩ := by
  refine wpAny_call (codeAny_of_tree ?_)
  refine opP (.again (.builtin "type.__call__" ⟨.type "type" :: [.str (Str.ofString "K") t, .ref x.T1, .ref x.nsA], []⟩)) (by kernel_rfl) ?_
  refine ⟨by kernel_rfl, codeAny_builtin ent_type_call ?_⟩
  unfold Builtin.«type.__call__»
  refine wp_t (by kernel_rfl) ?_
  refine wp_f (by kernel_rfl) ?_
  refine wp_f (by kernel_rfl) ?_
  refine wp_f (by kernel_rfl) ?_
  refine wpAny_bind (opP () (by kernel_rfl) ?_)
  refine wpAny_bind (opP [.type "type", .type "object"] (by kernel_rfl) ?_)
  refine wp_f (by kernel_rfl) ?_
  refine wpAny_bind (opP (some "type.__new__") (by kernel_rfl) ?_)
  refine wpAny_bind (wpAny_pure ?_)
  refine wpAny_bind (wpAny_holding (wpAny_call (codeAny_of_tree ?_)))
  refine opP (.again (.builtin "type.__new__" ⟨[.type "type", .str (Str.ofString "K") t, .ref x.T1, .ref x.nsA], []⟩)) (by kernel_rfl) ?_
  refine ⟨by kernel_rfl, codeAny_builtin ent_type_new ?_⟩
  refine type_new hn S fun h1 S1 => ?_
  refine wpAny_bind (op0 S1 [12] true (by kernel_rfl) (by kernel_rfl) ?_)
  refine wp_f (by kernel_rfl) ?_
  refine wpAny_bind (wpAny_holding ?_)
  unfold callSpecial?
  refine wpAny_bind (op0 S1 [12] (some (.builtin "type.__init__")) (by kernel_rfl) (by kernel_rfl) ?_)
  refine wpAny_holding ?_
  refine wpAny_bind (opP (.builtin "type.__init__", [.ref (N + 2)]) (by kernel_rfl) ?_)
  refine wpAny_bind (wpAny_call (codeAny_of_tree ?_))
  refine op0 S1 [12] (.again (.builtin "type.__init__" ⟨[.ref (N + 2), .str (Str.ofString "K") t, .ref x.T1, .ref x.nsA], []⟩)) (by kernel_rfl) (by kernel_rfl) ?_
  refine ⟨by kernel_rfl, codeAny_builtin ent_type_init ?_⟩
  refine opP (.done (.ret .none)) (by kernel_rfl) ?_
  refine wpAny_pure ?_
  refine wp_f (by kernel_rfl) ?_
  exact wpAny_pure (hQ h1 S1)
end Mine
end
section
namespace Mine
set_option maxHeartbeats 8000000
noncomputable def bodyOf : Stmt → List Stmt
  | .FunctionDef _ _ b _ _ _ _ _ _ _ => b
  | .ClassDef _ _ _ b _ _ _ _ _ _ _ => b
  | _ => []
noncomputable def scopeOf : Stmt → Scope
  | .FunctionDef _ _ _ _ _ _ s _ _ _ => s
  | .ClassDef _ _ _ _ _ _ s _ _ _ _ => s
  | _ => default
noncomputable def topSt (n : Nat) : Stmt := PySem.Challenge.pw_op0083_01.main.body.getD n (.Pass default)
noncomputable def ckB : List Stmt := bodyOf (topSt 5)
noncomputable def ckC : Stmt := ckB.getD 0 (.Pass default)
noncomputable def ckR : Stmt := ckB.getD 1 (.Pass default)
noncomputable def ckCB : List Stmt := bodyOf ckC
noncomputable def ckSc : Scope := scopeOf (topSt 5)
noncomputable def clSc : Scope := scopeOf ckC
noncomputable def ob (w : World) (a : Nat) : Obj := ((hdz.heap_163 w.params).lookup a).getD default
noncomputable def fdOf (o : Obj) : FuncData := match o.data with | .func f => f | _ => default
noncomputable def L42 (w : World) (t37 : Obj) : List (Addr × Obj) := [(42, ob w 42), (41, ob w 41), (37, t37), (2, ob w 2), (3, ob w 3), (0, ob w 0), (4, ob w 4)]
noncomputable def env42 (N : Nat) : Env := { scope := ckSc, locals := N, globals := 3, cells := [(Str.ofString "mycmp", N + 1)], qual := Str.ofString "cmp_to_key.<locals>.", func := some 42, code := .ref 41, frame := some N, builtins := 0 }
noncomputable def frO (es : List DictEntry) (n : Nat) : Obj := ⟨.type "frame", none, .dict es.toArray n, #[]⟩
noncomputable def cellO (v : Option Value) : Obj := ⟨.type "cell", none, .cell v, #[]⟩
theorem noLimit_of {h : Heap} {o : Obj} {n : Nat} (e : h.get? 2 = some o) (hd : o.data = .dict #[] n) : h.NoLimit :=
  ⟨fun _ => none, ⟨o, #[], n, e, hd, by intro i hi; simp at hi, fun _ => rfl⟩, rfl⟩
noncomputable def fsOf (o : Obj) : Array Value := match o.data with | .fields v => v | _ => #[]
noncomputable def tqOf (o : Obj) : Tok := match ((fsOf o)[1]? : Option Value) with | some (.str _ t) => t | _ => 0
theorem fn_call {prog : Program} {w : World} {A : Around} {R : Result → Shared → Prop} {s : Shared} {a : Addr} {args : Args} {o : Obj} {fd : FuncData} {body : List Stmt} {binds : List (Str × Value)} (hroom : A.depth < recursionLimit)
    (ho : s.heap.get? a = some o) (hd : o.data = .func fd) (hco : fd.scope.isCoroutine = false) (hgen : fd.scope.isGenerator = false) (hbody : fd.body = .stmts body) (hcd : s.heap.CodeRec fd.code fd.qualname)
    (hb : skim ⟨prog, w.params⟩ 400 (bindArgs fd args) = .pure binds)
    (h : wpAny (model prog w) A.in1 (newFunctionEnv fd.scope fd.globals fd.closure binds (fd.qualname ++ ".<locals>.") (some a) fd.code none fd.builtins) (fun env s₂ => s₂.heap.NoLimit ∧ codeAny (model prog w) A (.func body env) R s₂) (fun e s' => R (.error e) s') s) :
    codeAny (model prog w) A (.call (.ref a) args) R s := codeAny_call_function hroom ho hd hco hgen hbody hcd (opP binds hb h)
theorem code42 {w : World} {h : Heap} (e : h.get? 41 = some (ob w 41)) : h.CodeRec (fdOf (ob w 42)).code (fdOf (ob w 42)).qualname := ⟨41, ob w 41, fsOf (ob w 41), tqOf (ob w 41), by kernel_rfl, e, by kernel_rfl, by kernel_rfl⟩
theorem code119 {w : World} {h : Heap} (e : h.get? 118 = some (ob w 118)) : h.CodeRec (fdOf (ob w 119)).code (fdOf (ob w 119)).qualname := ⟨118, ob w 118, fsOf (ob w 118), tqOf (ob w 118), by kernel_rfl, e, by kernel_rfl, by kernel_rfl⟩
theorem ck_enter {w : World} {h0 h : Heap} {g : Array GenState} {d : Drawn} {tk : Nat} {os : OsState} {L0 : List (Addr × Obj)} {N : Nat} {f : Addr} {t37 : Obj} {A : Around} {Q : Value → Shared → Prop} {E : Value → Shared → Prop}
    (hA : A.depth < recursionLimit) (S : Sg L0 h0 (L42 w t37) N h)
    (hh : ∀ h', Sg L0 h0 (L42 w t37 ++ [(N, frO [] 0), (N + 1, cellO (some (.ref f)))]) (N + 2) h' →
      wpAny (model PySem.Challenge.rw_op0083_01.row.prog w) (A.deeper (env42 N)) (execs ckB (env42 N)) (fun fl s' => Q (match fl with | .ret v => v | _ => .none) s') (fun _ _ => False) ⟨h', g, d, tk, os⟩) :
    wpAny (model PySem.Challenge.rw_op0083_01.row.prog w) A (call (.ref 42) [.ref f]) Q E ⟨h, g, d, tk, os⟩ := by
  refine wpAny_call (fn_call (body := ckB) (fd := fdOf (ob w 42)) hA (S.lg.get (i := 0) rfl) (by kernel_rfl) (by kernel_rfl) (by kernel_rfl) (by kernel_rfl) (code42 (S.lg.get (i := 1) rfl)) (binds := [(Str.ofString "mycmp", .ref f)]) (by kernel_rfl) ?_)
  refine opS S [.al, .al, .ld 8, .up 8] (env42 N) (L42 w t37 ++ [(N, frO [] 0), (N + 1, cellO (some (.ref f)))]) (N + 2) tk (by kernel_rfl) (by kernel_rfl) fun h1 S1 => ?_
  refine ⟨noLimit_of (n := 0) (S1.lg.get (i := 3) rfl) (by kernel_rfl), codeAny_func ?_⟩
  exact wpAny_mono (hh h1 S1) (fun _ _ q => q) fun _ _ q => q.elim
theorem ckB_eq : ckB = [ckC, ckR] := by kernel_rfl
noncomputable def posC : Pos := ⟨29, 4, 50, 23⟩
theorem ckC_eq : ckC = .ClassDef (Str.ofString "K") [.Name (Str.ofString "object") ⟨29, 12, 29, 18⟩] [] ckCB [] [] clSc none (Str.ofString "K") [Str.ofString "obj"] posC := by kernel_rfl
end Mine
end
section
namespace Mine
set_option maxHeartbeats 8000000
theorem ent_type_ga : entryFor table "type.__getattribute__" = some Builtin.«type.__getattribute__» := entryFor_of_tree (by kernel_rfl)
theorem ent_type_prep : entryFor table "type.__prepare__" = some Builtin.«type.__prepare__» := entryFor_of_tree (by kernel_rfl)
noncomputable def pmO : Obj := ⟨.type "builtin_function_or_method", none, .fields #[.builtin "type.__prepare__", .type "type"], #[]⟩
theorem prep_get {w : World} {h0 h : Heap} {g : Array GenState} {d : Drawn} {tk : Nat} {os : OsState} {L0 L : List (Addr × Obj)} {N : Nat} {A : Around} {Q : Option Value → Shared → Prop} {E : Value → Shared → Prop}
    (S : Sg L0 h0 L N h) (hh : ∀ h', Sg L0 h0 (L ++ [(N, pmO)]) (N + 1) h' → Q (some (.ref N)) ⟨h', g, d, tk + 1, os⟩) :
    wpAny (model PySem.Challenge.rw_op0083_01.row.prog w) A (getAttr? (.type "type") (Str.ofString "__prepare__")) Q E ⟨h, g, d, tk, os⟩ := by
  unfold getAttr?
  refine wpAny_bind (opS S [.fr] (.str (Str.ofString "__prepare__") tk) L N (tk + 1) (by kernel_rfl) (by kernel_rfl) fun h1 S1 => ?_)
  unfold getAttrBy?
  refine wpAny_bind (wpAny_attempt ?_)
  unfold getAttrBy
  refine wpAny_holding ?_
  refine wpAny_bind (opP (.type "type") (by kernel_rfl) ?_)
  refine wpAny_bind (opP (some (.builtin "type.__getattribute__")) (by kernel_rfl) ?_)
  refine wp_f (by kernel_rfl) ?_
  unfold getAttrByItsOwn
  refine wpAny_bind (opP none (by kernel_rfl) ?_)
  refine wpAny_bind (wpAny_attempt (wpAny_holding ?_))
  unfold callGetattribute
  refine wp_f (by kernel_rfl) ?_
  unfold boundAndCalled
  refine wpAny_bind (opP (.builtin "type.__getattribute__", [.type "type"]) (by kernel_rfl) ?_)
  refine wpAny_call (codeAny_of_tree ?_)
  refine opP (.again (.builtin "type.__getattribute__" ⟨[.type "type", .str (Str.ofString "__prepare__") tk], []⟩)) (by kernel_rfl) ?_
  refine ⟨by kernel_rfl, codeAny_builtin ent_type_ga ?_⟩
  refine opC S1 [] (.call (.builtin "classmethod_descriptor.__get__") ⟨[.builtin "type.__prepare__", .none, .type "type"], []⟩) (by kernel_rfl) (by kernel_rfl) (codeAny_of_tree ?_)
  refine opP (.again (.builtin "classmethod_descriptor.__get__" ⟨[.builtin "type.__prepare__", .none, .type "type"], []⟩)) (by kernel_rfl) ?_
  refine ⟨by kernel_rfl, codeAny_builtin ent_cm_get ?_⟩
  refine opS S1 [.al] (.done (.ret (.ref N))) (L ++ [(N, pmO)]) (N + 1) (tk + 1) (by kernel_rfl) (by kernel_rfl) fun h2 S2 => ?_
  refine opP (.done (.ret (.ref N))) (by kernel_rfl) ?_
  refine opP (.ref N) (by kernel_rfl) ?_
  exact wpAny_pure (hh h2 S2)
end Mine
end
section
namespace Mine
set_option maxHeartbeats 8000000
noncomputable def tabO (vs : List Value) : Obj := ⟨.none, none, .fields vs.toArray, #[]⟩
noncomputable def fileV (t : Tok) : Value := .str (Str.ofString "/claim/cut.py") t
noncomputable def codeO (name qual : String) (line argc flags : Int) (t0 t1 t2 : Tok) (free tab : Addr) (l1 l2 tm : Value) (n : Int) (t3 : Tok) : Obj :=
  ⟨.type "code", none, .fields #[.str (Str.ofString name) t0, .str (Str.ofString qual) t1, fileV t2, .int line 0, .int argc 0, .int 0 0, .int 0 0, .int flags 0, .ref free, .bool true, .int 181 0, .ref tab, .none, l1, l2, tm, .int n 0, .int line 0, fileV t3], #[]⟩
noncomputable def seqO (c : String) (vs : List Value) (n : Nat) : Obj := ⟨.type c, none, .seq vs.toArray n, #[]⟩
noncomputable def paramsOf : Stmt → Arguments
  | .FunctionDef _ a _ _ _ _ _ _ _ _ => a
  | _ => default
noncomputable def nameOfS : Stmt → Str
  | .FunctionDef n _ _ _ _ _ _ _ _ _ => n
  | _ => default
noncomputable def ckF (i : Nat) : Stmt := ckCB.getD (i + 2) (.Pass default)
noncomputable def fQual (n : String) : String := "cmp_to_key.<locals>.K." ++ n
noncomputable def tmO (i : Nat) (n : String) : Obj := ⟨.none, none, .func { name := nameOfS (ckF i), qualname := Str.ofString (fQual n), params := paramsOf (ckF i), body := .stmts (bodyOf (ckF i)), scope := scopeOf (ckF i), globals := 0, closure := [], defaults := .none, kwdefaults := .none }, #[]⟩
noncomputable def fnFD (i : Nat) (n : String) (cl : List (Str × Addr)) (cd ct : Value) : FuncData := { name := nameOfS (ckF i), qualname := Str.ofString (fQual n), params := paramsOf (ckF i), body := .stmts (bodyOf (ckF i)), scope := scopeOf (ckF i), globals := 3, closure := cl, defaults := .none, kwdefaults := .none, pyModule := .str (Str.ofString "law_op0083_01") 319, code := cd, closureTuple := ct, builtins := 0 }
noncomputable def fnO (fd : FuncData) : Obj := ⟨.type "function", none, .func fd, #[]⟩
noncomputable def LA (w : World) (t37 : Obj) (N : Nat) (f : Addr) : List (Addr × Obj) := L42 w t37 ++ [(N, frO [] 0), (N + 1, cellO (some (.ref f)))]
noncomputable def mc : Str := Str.ofString "mycmp"
noncomputable def cenv1 (ns cK fr : Nat) (cell : Addr) : Env := { scope := clSc, locals := ns, globals := 3, cells := [(mc, cell)], qual := Str.ofString "cmp_to_key.<locals>.K.", code := .ref cK, frame := some fr, builtins := 0 }
noncomputable def bfO (cK ns : Addr) : Obj := ⟨.type "frame", none, .plain, #[some (.ref cK), some (.ref 3), some (.ref ns), none, some (.str (Str.ofString "law_op0083_01") 319), none, some (.ref 0)]⟩
noncomputable def kh (w : World) (n : String) : Int := PyData.keyHash w.params (Str.ofString n)
noncomputable def en (w : World) (n : String) (t : Tok) (v : Value) : DictEntry := ⟨kh w n, .str (Str.ofString n) t, v⟩
/-- a function of the class's body, made with its code: from place a and token b -/
noncomputable def mk1 (i : Nat) (n : String) (p2 : String) (line : Int) (a b cell : Nat) : List (Addr × Obj) :=
  [(a, seqO "tuple" [.ref cell] 0), (a + 1, seqO "tuple" [.str mc (b + 3)] 0), (a + 2, tabO []), (a + 3, seqO "tuple" [.str (Str.ofString "self") (b + 4), .str (Str.ofString p2) (b + 5)] 0), (a + 4, seqO "tuple" [] 0), (a + 5, tmO i n),
   (a + 6, codeO n (fQual n) line 2 19 b (b + 1) (b + 2) (a + 1) (a + 2) (.ref (a + 3)) (.ref (a + 4)) (.ref (a + 5)) (b + 6 : Nat) (b + 7)), (a + 7, fnO (fnFD i n [(mc, cell)] (.ref (a + 6)) (.ref a)))]
noncomputable def mk0 (a b : Nat) : List (Addr × Obj) :=
  [(a, seqO "tuple" [] 0), (a + 1, tabO []), (a + 2, seqO "tuple" [.str (Str.ofString "self") (b + 3), .str (Str.ofString "obj") (b + 4)] 0), (a + 3, seqO "tuple" [] 0), (a + 4, tmO 0 "__init__"),
   (a + 5, codeO "__init__" (fQual "__init__") 33 2 19 b (b + 1) (b + 2) a (a + 1) (.ref (a + 2)) (.ref (a + 3)) (.ref (a + 4)) (b + 5 : Nat) (b + 6)), (a + 6, fnO (fnFD 0 "__init__" [] (.ref (a + 5)) .none))]
noncomputable def tabK (N : Nat) : Obj := tabO [.int 33 0, .int 8 0, .ref (N + 15), .int 36 0, .int 8 0, .ref (N + 23), .int 39 0, .int 8 0, .ref (N + 31), .int 42 0, .int 8 0, .ref (N + 39), .int 45 0, .int 8 0, .ref (N + 47), .int 48 0, .int 8 0, .ref (N + 55)]
noncomputable def codeK (N tk : Nat) : Obj := codeO "K" "cmp_to_key.<locals>.K" 29 0 0 (tk + 2) (tk + 3) (tk + 4) (N + 5) (N + 6) .none .none .none (tk + 6 : Nat) (tk + 7)
noncomputable def LC1 (w : World) (N tk f : Nat) (ns tabk : Obj) : List (Addr × Obj) := LA w (tabO [.int 29 0, .int 4 0, .ref (N + 7)]) N f ++ [(N + 2, tupO), (N + 3, pmO), (N + 4, ns), (N + 5, seqO "tuple" [.str mc (tk + 5)] 0), (N + 6, tabk), (N + 7, codeK N tk)]
noncomputable def es0 (w : World) (tk : Nat) : List DictEntry := [en w "__module__" (tk + 8) (.str (Str.ofString "law_op0083_01") 319), en w "__qualname__" (tk + 10) (.str (Str.ofString "cmp_to_key.<locals>.K") (tk + 9)), en w "__firstlineno__" (tk + 12) (.int 29 (tk + 11))]
noncomputable def es11 (w : World) (N tk : Nat) : List DictEntry := [en w "__module__" (tk + 8) (.str (Str.ofString "cpy313.functools") (tk + 13)), en w "__qualname__" (tk + 10) (.str (Str.ofString "cmp_to_key.<locals>.K") (tk + 9)), en w "__firstlineno__" (tk + 12) (.int 29 (tk + 11)),
  en w "__slots__" (tk + 16) (.ref (N + 9)), en w "__init__" (tk + 24) (.ref (N + 16)), en w "__lt__" (tk + 33) (.ref (N + 24)), en w "__gt__" (tk + 42) (.ref (N + 32)), en w "__eq__" (tk + 51) (.ref (N + 40)), en w "__le__" (tk + 60) (.ref (N + 48)), en w "__ge__" (tk + 69) (.ref (N + 56)),
  en w "__hash__" (tk + 70) .none]
noncomputable def fns1 (N tk : Nat) : List (Addr × Obj) := (N + 9, seqO "list" [.str (Str.ofString "obj") (tk + 15)] 0) :: (mk0 (N + 10) (tk + 17) ++ mk1 1 "__lt__" "other" 36 (N + 17) (tk + 25) (N + 1) ++ mk1 2 "__gt__" "other" 39 (N + 25) (tk + 34) (N + 1) ++ mk1 3 "__eq__" "other" 42 (N + 33) (tk + 43) (N + 1) ++ mk1 4 "__le__" "other" 45 (N + 41) (tk + 52) (N + 1) ++ mk1 5 "__ge__" "other" 48 (N + 49) (tk + 61) (N + 1))
noncomputable def hBody1 : List Hn := [.fr, .ld 11, .fr, .ld 11, .up 11, .fr, .al, .ld 11, .fr, .ld 11, .up 11, .ld 14, .ld 13, .fr, .fr, .fr, .al, .al, .fr, .fr, .al, .al, .al, .fr, .fr, .al, .ld 13, .up 13, .ld 13, .ld 4, .ld 6, .ld 4, .al, .ld 11, .fr, .ld 11, .up 11, .al, .ld 14, .ld 13, .fr, .fr, .fr, .fr, .al, .al, .fr, .fr, .al, .al, .al, .fr, .fr, .al, .ld 13, .up 13, .ld 13, .ld 4, .ld 6, .ld 4, .al, .ld 11, .fr, .ld 11, .up 11, .al, .ld 14, .ld 13, .fr, .fr, .fr, .fr, .al, .al, .fr, .fr, .al, .al, .al, .fr, .fr, .al, .ld 13, .up 13, .ld 13, .ld 4, .ld 6, .ld 4, .al, .ld 11, .fr, .ld 11, .up 11, .al, .ld 14, .ld 13, .fr, .fr, .fr, .fr, .al, .al, .fr, .fr, .al, .al, .al, .fr, .fr, .al, .ld 13, .up 13, .ld 13, .ld 4, .ld 6, .ld 4, .al, .ld 11, .fr, .ld 11, .up 11, .al, .ld 14, .ld 13, .fr, .fr, .fr, .fr, .al, .al, .fr, .fr, .al, .al, .al, .fr, .fr, .al, .ld 13, .up 13, .ld 13, .ld 4, .ld 6, .ld 4, .al, .ld 11, .fr, .ld 11, .up 11, .al, .ld 14, .ld 13, .fr, .fr, .fr, .fr, .al, .al, .fr, .fr, .al, .al, .al, .fr, .fr, .al, .ld 13, .up 13, .ld 13, .ld 4, .ld 6, .ld 4, .al, .ld 11, .fr, .ld 11, .up 11, .ld 11, .fr, .ld 11, .up 11]
noncomputable def nmOf (i : Nat) : String := ["__module__", "__qualname__", "__firstlineno__", "__slots__", "__init__", "__lt__", "__gt__", "__eq__", "__le__", "__ge__", "__hash__", "__static_attributes__"].getD i ""
noncomputable def x1 (w : World) (N tk : Nat) : Cx where
  T1 := N + 2
  nsA := N + 4
  SL := N + 9
  f1 := N + 16
  f2 := N + 24
  f3 := N + 32
  f4 := N + 40
  f5 := N + 48
  f6 := N + 56
  ST := N + 57
  hh := fun i => kh w (nmOf i)
  tt := fun i => tk + [8, 10, 12, 16, 24, 33, 42, 51, 60, 69, 70, 72, 0, 0, 0, 0, 0, 0, 0, 0, 13, 9, 11, 15].getD i 0
  n0 := 12
  n1 := 0
  fd := fun _ => none
  fx := fun i => match i with
    | 1 => .func (fnFD 0 "__init__" [] (.ref (N + 15)) .none)
    | 2 => .func (fnFD 1 "__lt__" [(mc, N + 1)] (.ref (N + 23)) (.ref (N + 17)))
    | 3 => .func (fnFD 2 "__gt__" [(mc, N + 1)] (.ref (N + 31)) (.ref (N + 25)))
    | 4 => .func (fnFD 3 "__eq__" [(mc, N + 1)] (.ref (N + 39)) (.ref (N + 33)))
    | 5 => .func (fnFD 4 "__le__" [(mc, N + 1)] (.ref (N + 47)) (.ref (N + 41)))
    | _ => .func (fnFD 5 "__ge__" [(mc, N + 1)] (.ref (N + 55)) (.ref (N + 49)))
  fs := fun _ => #[]
  sx := #[.str (Str.ofString "obj") (tk + 71)]
  sn := 0
noncomputable def LE1 (w : World) (N tk f : Nat) : List (Addr × Obj) := LC1 w N tk f (dO (es11 w N tk ++ [en w "__static_attributes__" (tk + 72) (.ref (N + 57))]) 12) (tabK N) ++ [(N + 8, bfO (N + 7) (N + 4))] ++ fns1 N tk ++ [(N + 57, seqO "tuple" [.str (Str.ofString "obj") (tk + 71)] 0)]
noncomputable def is1 : List Nat := [9, 11, 16, 23, 31, 39, 47, 55, 63, 64, 3]
noncomputable def js1 : List Nat := [0, 1, 2, 4, 5, 6, 7, 8, 13, 14, 22, 30]
theorem pick1 (w : World) (N tk f : Nat) : pick (LE1 w N tk f) is1 = (x1 w N tk).L := by kernel_rfl
/-- what stands behind the first call of cmp_to_key -/
noncomputable def LG1 (w : World) (N tk f : Nat) (fr : Obj) : List (Addr × Obj) := [(42, ob w 42), (41, ob w 41), (37, tabO [.int 29 0, .int 4 0, .ref (N + 7)]), (3, ob w 3), (0, ob w 0), (4, ob w 4), (N, fr), (N + 1, cellO (some (.ref f))), (N + 6, tabK N), (N + 7, codeK N tk),
  (N + 15, codeO "__init__" (fQual "__init__") 33 2 19 (tk + 17) (tk + 18) (tk + 19) (N + 10) (N + 11) (.ref (N + 12)) (.ref (N + 13)) (.ref (N + 14)) (tk + 22 : Nat) (tk + 23)),
  (N + 23, codeO "__lt__" (fQual "__lt__") 36 2 19 (tk + 25) (tk + 26) (tk + 27) (N + 18) (N + 19) (.ref (N + 20)) (.ref (N + 21)) (.ref (N + 22)) (tk + 31 : Nat) (tk + 32))]
theorem pick2 (w : World) (N tk f : Nat) : pick (LE1 w N tk f) js1 = LG1 w N tk f (frO [] 0) := by kernel_rfl
theorem ck_class {w : World} {h0 h : Heap} {g : Array GenState} {d : Drawn} {tk : Nat} {os : OsState} {L0 : List (Addr × Obj)} {N : Nat} {f : Addr} {A : Around} {Q : Flow → Shared → Prop} {E : Value → Shared → Prop}
    (hA : A.depth < recursionLimit) (S : Sg L0 h0 (LA w (tabO []) N f) (N + 2) h)
    (hQ : ∀ h', Sg L0 h0 (LG1 w N tk f (frO [en w "K" (tk + 77) (.ref (N + 60))] 1) ++ (x1 w N tk).LF w tk (tk + 73) (N + 58)) (N + 64) h' → Q (.ret (.ref (N + 60))) ⟨h', g, d, tk + 78, os⟩) :
    wpAny (model PySem.Challenge.rw_op0083_01.row.prog w) A (execs ckB (env42 N)) Q E ⟨h, g, d, tk, os⟩ := by
  rw [ckB_eq]
  refine wpAny_execs_cons ?_
  rw [ckC_eq, arm_exec_ClassDef]
  refine wpAny_bind (opP [] (by kernel_rfl) ?_)
  refine wpAny_bind (wpAny_standAt ?_)
  refine wpAny_bind (op0 S [5] () (by kernel_rfl) (by kernel_rfl) ?_)
  refine wpAny_bind (wpAny_holding ?_)
  refine wpAny_bind (op0 S [4, 5] ⟨[.type "object"], []⟩ (by kernel_rfl) (by kernel_rfl) ?_)
  refine wpAny_bind (wpAny_standAt ?_)
  refine wpAny_holding ?_
  unfold buildClass
  refine wpAny_bind (opS S [.al] (.ref (N + 2)) (LA w (tabO []) N f ++ [(N + 2, tupO)]) (N + 3) tk (by kernel_rfl) (by kernel_rfl) fun h1 S1 => ?_)
  refine wpAny_bind (opP ([.type "object"], false) (by kernel_rfl) ?_)
  refine wpAny_bind (opP (.type "type") (by kernel_rfl) ?_)
  refine wpAny_bind (opP true (by kernel_rfl) ?_)
  refine wp_t (by kernel_rfl) ?_
  refine wpAny_bind (opP (.type "type") (by kernel_rfl) ?_)
  refine wpAny_bind (opS S1 [.fr] (.str (Str.ofString "K") tk) (LA w (tabO []) N f ++ [(N + 2, tupO)]) (N + 3) (tk + 1) (by kernel_rfl) (by kernel_rfl) fun h2 S2 => ?_)
  refine wp_f (by kernel_rfl) ?_
  refine wpAny_bind (wpAny_pure ?_)
  refine wpAny_holding ?_
  refine wpAny_bind (prep_get S2 fun h3 S3 => ?_)
  refine wpAny_bind (wpAny_call (codeAny_of_tree ?_))
  refine op0 S3 [10] (.again (.builtin "type.__prepare__" ⟨[.type "type", .str (Str.ofString "K") tk, .ref (N + 2)], []⟩)) (by kernel_rfl) (by kernel_rfl) ?_
  refine ⟨by kernel_rfl, codeAny_builtin ent_type_prep ?_⟩
  refine opS S3 [.al] (.done (.ret (.ref (N + 4)))) (LA w (tabO []) N f ++ [(N + 2, tupO), (N + 3, pmO), (N + 4, dO [] 0)]) (N + 5) (tk + 2) (by kernel_rfl) (by kernel_rfl) fun h4 S4 => ?_
  refine wpAny_bind (opP () (by kernel_rfl) ?_)
  refine wpAny_bind (op0 S4 [11] (some (.builtin "dict.__getitem__")) (by kernel_rfl) (by kernel_rfl) ?_)
  refine wp_f (by kernel_rfl) ?_
  refine wpAny_holding ?_
  refine wp_f (by kernel_rfl) ?_
  refine wpAny_bind (wpAny_pure ?_)
  refine wp_f (by kernel_rfl) ?_
  refine wpAny_bind (wpAny_pure ?_)
  refine wpAny_bind (opS S4 [.ld 1, .ld 2, .fr, .fr, .fr, .fr, .al, .al, .fr, .fr, .al, .ld 2, .up 2, .ld 2] (.ref (N + 7)) (LC1 w N tk f (dO [] 0) (tabO [])) (N + 8) (tk + 8) (by kernel_rfl) (by kernel_rfl) fun h5 S5 => ?_)
  refine wpAny_bind (op0 S5 [4, 6] 0 (by kernel_rfl) (by kernel_rfl) ?_)
  refine wpAny_bind (opS S5 [.ld 4, .al] (N + 8) (LC1 w N tk f (dO [] 0) (tabO []) ++ [(N + 8, bfO (N + 7) (N + 4))]) (N + 9) (tk + 8) (by kernel_rfl) (by kernel_rfl) fun h6 S6 => ?_)
  refine wpAny_bind (opP [(mc, N + 1)] (by kernel_rfl) ?_)
  refine wpAny_holding ?_
  refine wpAny_bind (wpAny_enterFrame (noLimit_of (n := 0) (S6.lg.get (i := 3) rfl) (by kernel_rfl)) hA ?_)
  refine wpAny_bind (wpAny_onRaise ?_)
  refine opS S6 [.ld 11, .ld 11, .ld 4, .ld 11, .fr, .ld 11, .up 11, .fr, .ld 11, .fr, .ld 11, .up 11, .fr, .ld 11, .fr, .ld 11, .up 11] () (LC1 w N tk f (dO (es0 w tk) 3) (tabO []) ++ [(N + 8, bfO (N + 7) (N + 4))]) (N + 9) (tk + 13) (by kernel_rfl) (by kernel_rfl) fun h7 S7 => ?_
  refine wpAny_bind (wpAny_run (codeAny_of_tree ?_))
  refine opS S7 hBody1 (.done .next) (LC1 w N tk f (dO (es11 w N tk) 11) (tabK N) ++ [(N + 8, bfO (N + 7) (N + 4))] ++ fns1 N tk) (N + 57) (tk + 71) (by kernel_rfl) (by kernel_rfl) fun h8 S8 => ?_
  refine wpAny_bind (wpAny_onRaise ?_)
  refine opS S8 [.fr, .al, .ld 11, .fr, .ld 11, .up 11] () (LE1 w N tk f) (N + 58) (tk + 73) (by kernel_rfl) (by kernel_rfl) fun h9 S9 => ?_
  refine wp_f (by kernel_rfl) ?_
  have H9 : Lg (x1 w N tk).L h9 := pick1 w N tk f ▸ S9.lg.pick (is := is1) (by decide)
  refine wpAny_bind (type_call (x := x1 w N tk) (by show N + 4 ≠ 1; omega) (Sg.start H9 S9.sz) fun h10 T10 => ?_)
  rw [← pick1 w N tk f] at T10
  have S10 := S9.join (is := is1) (js := js1) (by decide) T10
  rw [pick2] at S10
  refine wpAny_pure ?_
  refine wpAny_bind (opP (.ref (N + 60)) (by kernel_rfl) ?_)
  refine wpAny_bind (wpAny_standAt ?_)
  refine wpAny_bind (opS S10 [.fr, .ld 6, .up 6] () (LG1 w N tk f (frO [en w "K" (tk + 77) (.ref (N + 60))] 1) ++ (x1 w N tk).LF w tk (tk + 73) (N + 58)) (N + 64) (tk + 78) (by kernel_rfl) (by kernel_rfl) fun h11 S11 => ?_)
  refine wpAny_pure ?_
  exact op0 S11 [6] (.ret (.ref (N + 60))) (by kernel_rfl) (by kernel_rfl) (hQ h11 S11)
end Mine
end
section
namespace Mine
set_option maxHeartbeats 8000000
noncomputable def t37 (n : Nat) : Obj := tabO [.int 29 0, .int 4 0, .ref (n + 7)]
noncomputable def L42b (w : World) (n u : Nat) : List (Addr × Obj) := L42 w (t37 n) ++ [(n + 7, codeK n u), (n + 6, tabK n)]
noncomputable def LAb (w : World) (n u N : Nat) (f : Addr) : List (Addr × Obj) := L42b w n u ++ [(N, frO [] 0), (N + 1, cellO (some (.ref f)))]
theorem ck_enter2 {w : World} {h0 h : Heap} {g : Array GenState} {d : Drawn} {tk : Nat} {os : OsState} {L0 : List (Addr × Obj)} {n u N : Nat} {f : Addr} {A : Around} {Q : Value → Shared → Prop} {E : Value → Shared → Prop}
    (hA : A.depth < recursionLimit) (S : Sg L0 h0 (L42b w n u) N h)
    (hh : ∀ h', Sg L0 h0 (LAb w n u N f) (N + 2) h' →
      wpAny (model PySem.Challenge.rw_op0083_01.row.prog w) (A.deeper (env42 N)) (execs ckB (env42 N)) (fun fl s' => Q (match fl with | .ret v => v | _ => .none) s') (fun _ _ => False) ⟨h', g, d, tk, os⟩) :
    wpAny (model PySem.Challenge.rw_op0083_01.row.prog w) A (call (.ref 42) [.ref f]) Q E ⟨h, g, d, tk, os⟩ := by
  refine wpAny_call (fn_call (body := ckB) (fd := fdOf (ob w 42)) hA (S.lg.get (i := 0) rfl) (by kernel_rfl) (by kernel_rfl) (by kernel_rfl) (by kernel_rfl) (code42 (S.lg.get (i := 1) rfl)) (binds := [(Str.ofString "mycmp", .ref f)]) (by kernel_rfl) ?_)
  refine opS S [.al, .al, .ld 10, .up 10] (env42 N) (LAb w n u N f) (N + 2) tk (by kernel_rfl) (by kernel_rfl) fun h1 S1 => ?_
  refine ⟨noLimit_of (n := 0) (S1.lg.get (i := 3) rfl) (by kernel_rfl), codeAny_func ?_⟩
  exact wpAny_mono (hh h1 S1) (fun _ _ q => q) fun _ _ q => q.elim
noncomputable def LC2 (w : World) (n u N f : Nat) (ns : Obj) : List (Addr × Obj) := LAb w n u N f ++ [(N + 2, tupO), (N + 3, pmO), (N + 4, ns)]
noncomputable def es0b (w : World) (tk : Nat) : List DictEntry := [en w "__module__" (tk + 2) (.str (Str.ofString "law_op0083_01") 319), en w "__qualname__" (tk + 4) (.str (Str.ofString "cmp_to_key.<locals>.K") (tk + 3)), en w "__firstlineno__" (tk + 6) (.int 29 (tk + 5))]
noncomputable def es11b (w : World) (N tk : Nat) : List DictEntry := [en w "__module__" (tk + 2) (.str (Str.ofString "cpy313.functools") (tk + 7)), en w "__qualname__" (tk + 4) (.str (Str.ofString "cmp_to_key.<locals>.K") (tk + 3)), en w "__firstlineno__" (tk + 6) (.int 29 (tk + 5)),
  en w "__slots__" (tk + 10) (.ref (N + 6)), en w "__init__" (tk + 11) (.ref (N + 7)), en w "__lt__" (tk + 12) (.ref (N + 9)), en w "__gt__" (tk + 13) (.ref (N + 11)), en w "__eq__" (tk + 14) (.ref (N + 13)), en w "__le__" (tk + 15) (.ref (N + 15)), en w "__ge__" (tk + 16) (.ref (N + 17)),
  en w "__hash__" (tk + 17) .none]
noncomputable def mk2 (i : Nat) (s : String) (a cell c : Nat) : List (Addr × Obj) := [(a, seqO "tuple" [.ref cell] 0), (a + 1, fnO (fnFD i s [(mc, cell)] (.ref c) (.ref a)))]
noncomputable def fns2 (n N tk : Nat) : List (Addr × Obj) := [(N + 6, seqO "list" [.str (Str.ofString "obj") (tk + 9)] 0), (N + 7, fnO (fnFD 0 "__init__" [] (.ref (n + 15)) .none))] ++ mk2 1 "__lt__" (N + 8) (N + 1) (n + 23) ++ mk2 2 "__gt__" (N + 10) (N + 1) (n + 31) ++ mk2 3 "__eq__" (N + 12) (N + 1) (n + 39) ++ mk2 4 "__le__" (N + 14) (N + 1) (n + 47) ++ mk2 5 "__ge__" (N + 16) (N + 1) (n + 55)
noncomputable def hFn2 : List Hn := [.ld 7, .ld 8, .ld 4, .ld 6, .ld 4, .al, .ld 13, .fr, .ld 13, .up 13]
noncomputable def hBody2 : List Hn := [.fr, .ld 13, .fr, .ld 13, .up 13, .fr, .al, .ld 13, .fr, .ld 13, .up 13] ++ hFn2 ++ (.al :: hFn2) ++ (.al :: hFn2) ++ (.al :: hFn2) ++ (.al :: hFn2) ++ (.al :: hFn2) ++ [.ld 13, .fr, .ld 13, .up 13]
noncomputable def x2 (w : World) (n N tk : Nat) : Cx where
  T1 := N + 2
  nsA := N + 4
  SL := N + 6
  f1 := N + 7
  f2 := N + 9
  f3 := N + 11
  f4 := N + 13
  f5 := N + 15
  f6 := N + 17
  ST := N + 18
  hh := fun i => kh w (nmOf i)
  tt := fun i => tk + [2, 4, 6, 10, 11, 12, 13, 14, 15, 16, 17, 19, 0, 0, 0, 0, 0, 0, 0, 0, 7, 3, 5, 9].getD i 0
  n0 := 12
  n1 := 0
  fd := fun _ => none
  fx := fun i => match i with
    | 1 => .func (fnFD 0 "__init__" [] (.ref (n + 15)) .none)
    | 2 => .func (fnFD 1 "__lt__" [(mc, N + 1)] (.ref (n + 23)) (.ref (N + 8)))
    | 3 => .func (fnFD 2 "__gt__" [(mc, N + 1)] (.ref (n + 31)) (.ref (N + 10)))
    | 4 => .func (fnFD 3 "__eq__" [(mc, N + 1)] (.ref (n + 39)) (.ref (N + 12)))
    | 5 => .func (fnFD 4 "__le__" [(mc, N + 1)] (.ref (n + 47)) (.ref (N + 14)))
    | _ => .func (fnFD 5 "__ge__" [(mc, N + 1)] (.ref (n + 55)) (.ref (N + 16)))
  fs := fun _ => #[]
  sx := #[.str (Str.ofString "obj") (tk + 18)]
  sn := 0
noncomputable def LE2 (w : World) (n u N tk f : Nat) : List (Addr × Obj) := LC2 w n u N f (dO (es11b w N tk ++ [en w "__static_attributes__" (tk + 19) (.ref (N + 18))]) 12) ++ [(N + 5, bfO (n + 7) (N + 4))] ++ fns2 n N tk ++ [(N + 18, seqO "tuple" [.str (Str.ofString "obj") (tk + 18)] 0)]
noncomputable def is2 : List Nat := [11, 13, 15, 16, 18, 20, 22, 24, 26, 27, 3]
noncomputable def js2 : List Nat := [0, 1, 2, 4, 5, 6, 7, 8, 9, 10]
theorem pick1b (w : World) (n u N tk f : Nat) : pick (LE2 w n u N tk f) is2 = (x2 w n N tk).L := by kernel_rfl
noncomputable def LG2 (w : World) (n u N f : Nat) (fr : Obj) : List (Addr × Obj) := [(42, ob w 42), (41, ob w 41), (37, t37 n), (3, ob w 3), (0, ob w 0), (4, ob w 4), (n + 7, codeK n u), (n + 6, tabK n), (N, fr), (N + 1, cellO (some (.ref f)))]
theorem pick2b (w : World) (n u N tk f : Nat) : pick (LE2 w n u N tk f) js2 = LG2 w n u N f (frO [] 0) := by kernel_rfl
theorem ck_class2 {w : World} {h0 h : Heap} {g : Array GenState} {d : Drawn} {tk : Nat} {os : OsState} {L0 : List (Addr × Obj)} {n u N : Nat} {f : Addr} {A : Around} {Q : Flow → Shared → Prop} {E : Value → Shared → Prop}
    (hA : A.depth < recursionLimit) (S : Sg L0 h0 (LAb w n u N f) (N + 2) h)
    (hQ : ∀ h', Sg L0 h0 (LG2 w n u N f (frO [en w "K" (tk + 24) (.ref (N + 21))] 1) ++ (x2 w n N tk).LF w tk (tk + 20) (N + 19)) (N + 25) h' → Q (.ret (.ref (N + 21))) ⟨h', g, d, tk + 25, os⟩) :
    wpAny (model PySem.Challenge.rw_op0083_01.row.prog w) A (execs ckB (env42 N)) Q E ⟨h, g, d, tk, os⟩ := by
  rw [ckB_eq]
  refine wpAny_execs_cons ?_
  rw [ckC_eq, arm_exec_ClassDef]
  refine wpAny_bind (opP [] (by kernel_rfl) ?_)
  refine wpAny_bind (wpAny_standAt ?_)
  refine wpAny_bind (op0 S [5] () (by kernel_rfl) (by kernel_rfl) ?_)
  refine wpAny_bind (wpAny_holding ?_)
  refine wpAny_bind (op0 S [4, 5] ⟨[.type "object"], []⟩ (by kernel_rfl) (by kernel_rfl) ?_)
  refine wpAny_bind (wpAny_standAt ?_)
  refine wpAny_holding ?_
  unfold buildClass
  refine wpAny_bind (opS S [.al] (.ref (N + 2)) (LAb w n u N f ++ [(N + 2, tupO)]) (N + 3) tk (by kernel_rfl) (by kernel_rfl) fun h1 S1 => ?_)
  refine wpAny_bind (opP ([.type "object"], false) (by kernel_rfl) ?_)
  refine wpAny_bind (opP (.type "type") (by kernel_rfl) ?_)
  refine wpAny_bind (opP true (by kernel_rfl) ?_)
  refine wp_t (by kernel_rfl) ?_
  refine wpAny_bind (opP (.type "type") (by kernel_rfl) ?_)
  refine wpAny_bind (opS S1 [.fr] (.str (Str.ofString "K") tk) (LAb w n u N f ++ [(N + 2, tupO)]) (N + 3) (tk + 1) (by kernel_rfl) (by kernel_rfl) fun h2 S2 => ?_)
  refine wp_f (by kernel_rfl) ?_
  refine wpAny_bind (wpAny_pure ?_)
  refine wpAny_holding ?_
  refine wpAny_bind (prep_get S2 fun h3 S3 => ?_)
  refine wpAny_bind (wpAny_call (codeAny_of_tree ?_))
  refine op0 S3 [12] (.again (.builtin "type.__prepare__" ⟨[.type "type", .str (Str.ofString "K") tk, .ref (N + 2)], []⟩)) (by kernel_rfl) (by kernel_rfl) ?_
  refine ⟨by kernel_rfl, codeAny_builtin ent_type_prep ?_⟩
  refine opS S3 [.al] (.done (.ret (.ref (N + 4)))) (LC2 w n u N f (dO [] 0)) (N + 5) (tk + 2) (by kernel_rfl) (by kernel_rfl) fun h4 S4 => ?_
  refine wpAny_bind (opP () (by kernel_rfl) ?_)
  refine wpAny_bind (op0 S4 [13] (some (.builtin "dict.__getitem__")) (by kernel_rfl) (by kernel_rfl) ?_)
  refine wp_f (by kernel_rfl) ?_
  refine wpAny_holding ?_
  refine wp_f (by kernel_rfl) ?_
  refine wpAny_bind (wpAny_pure ?_)
  refine wp_f (by kernel_rfl) ?_
  refine wpAny_bind (wpAny_pure ?_)
  refine wpAny_bind (op0 S4 [1, 2] (.ref (n + 7)) (by kernel_rfl) (by kernel_rfl) ?_)
  refine wpAny_bind (op0 S4 [4, 6] 0 (by kernel_rfl) (by kernel_rfl) ?_)
  refine wpAny_bind (opS S4 [.ld 4, .al] (N + 5) (LC2 w n u N f (dO [] 0) ++ [(N + 5, bfO (n + 7) (N + 4))]) (N + 6) (tk + 2) (by kernel_rfl) (by kernel_rfl) fun h6 S6 => ?_)
  refine wpAny_bind (opP [(mc, N + 1)] (by kernel_rfl) ?_)
  refine wpAny_holding ?_
  refine wpAny_bind (wpAny_enterFrame (noLimit_of (n := 0) (S6.lg.get (i := 3) rfl) (by kernel_rfl)) hA ?_)
  refine wpAny_bind (wpAny_onRaise ?_)
  refine opS S6 [.ld 13, .ld 13, .ld 4, .ld 13, .fr, .ld 13, .up 13, .fr, .ld 13, .fr, .ld 13, .up 13, .fr, .ld 13, .fr, .ld 13, .up 13] () (LC2 w n u N f (dO (es0b w tk) 3) ++ [(N + 5, bfO (n + 7) (N + 4))]) (N + 6) (tk + 7) (by kernel_rfl) (by kernel_rfl) fun h7 S7 => ?_
  refine wpAny_bind (wpAny_run (codeAny_of_tree ?_))
  refine opS S7 hBody2 (.done .next) (LC2 w n u N f (dO (es11b w N tk) 11) ++ [(N + 5, bfO (n + 7) (N + 4))] ++ fns2 n N tk) (N + 18) (tk + 18) (by kernel_rfl) (by kernel_rfl) fun h8 S8 => ?_
  refine wpAny_bind (wpAny_onRaise ?_)
  refine opS S8 [.fr, .al, .ld 13, .fr, .ld 13, .up 13] () (LE2 w n u N tk f) (N + 19) (tk + 20) (by kernel_rfl) (by kernel_rfl) fun h9 S9 => ?_
  refine wp_f (by kernel_rfl) ?_
  have H9 : Lg (x2 w n N tk).L h9 := pick1b w n u N tk f ▸ S9.lg.pick (is := is2) (by decide)
  refine wpAny_bind (type_call (x := x2 w n N tk) (by show N + 4 ≠ 1; omega) (Sg.start H9 S9.sz) fun h10 T10 => ?_)
  rw [← pick1b w n u N tk f] at T10
  have S10 := S9.join (is := is2) (js := js2) (by decide) T10
  rw [pick2b] at S10
  refine wpAny_pure ?_
  refine wpAny_bind (opP (.ref (N + 21)) (by kernel_rfl) ?_)
  refine wpAny_bind (wpAny_standAt ?_)
  refine wpAny_bind (opS S10 [.fr, .ld 8, .up 8] () (LG2 w n u N f (frO [en w "K" (tk + 24) (.ref (N + 21))] 1) ++ (x2 w n N tk).LF w tk (tk + 20) (N + 19)) (N + 25) (tk + 25) (by kernel_rfl) (by kernel_rfl) fun h11 S11 => ?_)
  refine wpAny_pure ?_
  exact op0 S11 [8] (.ret (.ref (N + 21))) (by kernel_rfl) (by kernel_rfl) (hQ h11 S11)
end Mine
end
section
namespace Mine
/-- hints of the machine: plain steps, entering a call, a return, going on in a new code -/
inductive Hm where
  | go (xs : List Hn)
  | cl (f : Option (Nat × Nat))
  | ag (f : Option (Nat × Nat))
  | rt
  | hd
  | ct (v : Value) (n : Nat) (is : List Nat)
structure Fm where
  dp : Nat
  dq : Nat
  k : Result → Sem Fin
inductive Cf (α : Type) where
  | top (t : Sem α)
  | sub (t : Sem Fin) (dp dq : Nat) (ks : List Fm) (k0 : Result → Sem α)
/-- a call that is answered by a contract: the code, what of the heap it needs, the tokens, the answer, how many tokens it takes -/
structure Ob where
  c : Code
  P : List (Addr × Obj)
  tk : Nat
  v : Value
  n : Nat
structure Ms (α : Type) where
  ob : List Ob
  ok : Bool
  L : List (Addr × Obj)
  sz : Nat
  tk : Nat
  c : Cf α
  c1 : List (List Addr)
  c2 : List (List Addr)
/-- iterators whose own __iter__ is another's -/
noncomputable def ownIt (id : String) : Bool := decide (id = "str_ascii_iterator.__iter__") || decide (id = "range_iterator.__iter__") || decide (id = "list_iterator.__iter__")
theorem ownIt_eq {id : String} (h : ownIt id = true) : entryFor table id = some Builtin.«dict_keyiterator.__iter__» := by
  unfold ownIt at h
  simp only [Bool.or_eq_true, decide_eq_true_eq] at h
  rcases h with (rfl | rfl) | rfl
  · exact F.entry_str_ascii_iterator_iter
  · exact entryFor_alias (id' := "dict_keyiterator.__iter__") (by kernel_rfl) rfl (by decide +kernel) (by kernel_rfl)
  · exact entryFor_alias (id' := "dict_keyiterator.__iter__") (by kernel_rfl) rfl (by decide +kernel) (by kernel_rfl)
noncomputable def okDen : Code → Bool
  | .builtin id _ => ownIt id || (entriesT.find (code id)).isSome
  | _ => true
noncomputable def denF : Code → Sem Fin
  | .builtin id args => match ownIt id with
    | true => Builtin.«dict_keyiterator.__iter__» args
    | false => match entriesT.find (code id) with | some b => b args | none => .unsupported ""
  | c => denote table c
theorem denF_eq {c : Code} (h : okDen c = true) : denote table c = denF c := by
  cases c with
  | builtin id args =>
    unfold okDen at h
    unfold denF
    show (match entryFor table id with | some b => b args | none => unsupported ((withoutEnding? id "#data").getD id)) = _
    cases ho : ownIt id with
    | true =>
      rw [ownIt_eq ho]
      show Builtin.«dict_keyiterator.__iter__» args = (match ownIt id with | true => Builtin.«dict_keyiterator.__iter__» args | false => _)
      rw [ho]
    | false =>
      have h : (ownIt id || (entriesT.find (code id)).isSome) = true := h
      rw [ho, Bool.false_or] at h
      obtain ⟨b, hb⟩ := Option.isSome_iff_exists.mp h
      rw [entryFor_of_tree hb]
      show b args = (match ownIt id with | true => _ | false => match entriesT.find (code id) with | some b => b args | none => .unsupported "")
      rw [ho, hb]
  | _ => rfl
noncomputable def enterT (fd : FuncData) (body : List Stmt) (a : Addr) (args : Args) : Sem Fin := do
  let b ← bindArgs fd args
  let env ← newFunctionEnv fd.scope fd.globals fd.closure b (fd.qualname ++ ".<locals>.") (some a) fd.code none fd.builtins
  return .again (.func body env)
noncomputable def callArgs : Code → Option (Addr × Args)
  | .call (.ref a) args => some (a, args)
  | _ => none
noncomputable def fdAt (o : Obj) : Option FuncData := match o.data with | .func fd => some fd | _ => none
noncomputable def bodyAt (fd : FuncData) : Option (List Stmt) := match fd.body with | .stmts b => some b | _ => none
noncomputable def refAt : Value → Option Addr
  | .ref a => some a
  | _ => none
noncomputable def qnAt (o : Obj) : Option Str := match o.data with
  | .fields vs => match vs[1]? with
    | some (Value.str q _) => some q
    | _ => none
  | _ => none
noncomputable def fnAt (p q : Addr × Obj) (c : Code) : Option (Sem Fin × List Addr × List Addr) :=
  (callArgs c).bind fun aa => (fdAt p.2).bind fun fd => (bodyAt fd).bind fun body => (refAt fd.code).bind fun cA => (qnAt q.2).bind fun qn =>
    match fd.scope.isCoroutine, fd.scope.isGenerator, qn == fd.qualname with
    | false, false, true => some (enterT fd body aa.1 aa.2, [aa.1, cA], [p.1, q.1])
    | _, _, _ => none
noncomputable def entC (L : List (Addr × Obj)) (f : Option (Nat × Nat)) (c : Code) : Option (Sem Fin × Nat × List Addr × List Addr) :=
  match f with
  | none => match okDen c with
    | true => some (denF c, c.weight + c.cUnits, [], [])
    | false => none
  | some (i, j) => (L[i]?).bind fun p => (L[j]?).bind fun q => (fnAt p q c).bind fun r => some (r.1, 1, r.2.1, r.2.2)
noncomputable def isStat (p : Addr × Obj) : Bool := match p.1 == 2, p.2.data with | true, .dict ⟨[]⟩ _ => true | _, _ => false
theorem isStat_no {p : Addr × Obj} {h : Heap} (e : h.get? p.1 = some p.2) (hs : isStat p = true) : h.NoLimit := by
  unfold isStat at hs
  split at hs
  · rename_i n h1 h2
    have := eq_of_beq h1
    rw [this] at e
    exact noLimit_of (n := n) e h2
  · cases hs
noncomputable def finQ (M : Model) (A : Around) (R : Result → Shared → Prop) : Fin → Shared → Prop := fun fin s' => match fin with
  | .done f => R (.ok f) s'
  | .again c' => c'.quiet = true ∧ s'.heap.NoLimit ∧ codeAny M A c' R s'
/-- how deep a place may lie: frames and C units under one bound, nothing being handled -/
noncomputable def Bd (m : Nat) (A : Around) : Prop := A.depth ≤ m ∧ A.units ≤ m ∧ A.handled = none
theorem dD {D a b k : Nat} (h : D ≤ a) (hb : Nat.ble (a + k) b = true) : D + k ≤ b := Nat.le_trans (Nat.add_le_add_right h k) (Nat.le_of_ble_eq_true hb)
theorem dD0 {D a b : Nat} (h : D ≤ a) (hb : Nat.ble a b = true) : D ≤ b := Nat.le_trans h (Nat.le_of_ble_eq_true hb)
theorem Bd.mono {m n : Nat} {A : Around} (h : Bd m A) (l : m ≤ n) : Bd n A := ⟨Nat.le_trans h.1 l, Nat.le_trans h.2.1 l, h.2.2⟩
theorem Bd.mark {m : Nat} {A : Around} (h : Bd m A) : Bd m (A.mark none) := ⟨h.1, h.2.1, by show Option.or none A.handled = none; rw [h.2.2]; rfl⟩
theorem Bd.in1 {m : Nat} {A : Around} (h : Bd m A) : Bd (m + 1) A.in1 := ⟨Nat.le_succ_of_le h.1, Nat.succ_le_succ h.2.1, h.2.2⟩
theorem Bd.under {m : Nat} {A : Around} (h : Bd m A) (c : Code) : Bd (m + (c.weight + c.cUnits)) (A.under c) := by
  have h1 := h.1
  have h2 := h.2.1
  exact ⟨by show A.depth + c.weight ≤ _; omega, by show A.units + c.cUnits ≤ _; omega, h.2.2⟩
theorem fnAt_sound {prog : Program} {w : World} {A : Around} {R : Result → Shared → Prop} {s : Shared} {p q : Addr × Obj} {c : Code} {t : Sem Fin} {a1 a2 : List Addr}
    (hp : s.heap.get? p.1 = some p.2) (hq : s.heap.get? q.1 = some q.2) (e : fnAt p q c = some (t, a1, a2)) (ha : a1 = a2) (hA : A.depth < recursionLimit)
    (h : wpAny (model prog w) A.in1 t (finQ (model prog w) A R) (fun e s' => R (.error e) s') s) : codeAny (model prog w) A c R s := by
  unfold fnAt at e
  obtain ⟨aa, e1, e⟩ := Option.bind_eq_some_iff.mp e
  obtain ⟨fd, e2, e⟩ := Option.bind_eq_some_iff.mp e
  obtain ⟨body, e3, e⟩ := Option.bind_eq_some_iff.mp e
  obtain ⟨cA, e4, e⟩ := Option.bind_eq_some_iff.mp e
  obtain ⟨qn, e5, e⟩ := Option.bind_eq_some_iff.mp e
  have h1 : c = .call (.ref aa.1) aa.2 := by
    unfold callArgs at e1
    split at e1
    · cases e1; rfl
    · cases e1
  have h2 : p.2.data = .func fd := by
    unfold fdAt at e2
    split at e2
    · rename_i f hf; cases e2; exact hf
    · cases e2
  have h3 : fd.body = .stmts body := by
    unfold bodyAt at e3
    split at e3
    · rename_i b hb; cases e3; exact hb
    · cases e3
  have h4 : fd.code = .ref cA := by
    unfold refAt at e4
    split at e4
    · rename_i b hb; cases e4; exact hb
    · cases e4
  have h5 : ∃ vs tq, q.2.data = .fields vs ∧ vs[1]? = some (.str qn tq) := by
    unfold qnAt at e5
    split at e5
    · rename_i vs hv
      split at e5
      · rename_i q' t' hq'; cases e5; exact ⟨vs, t', hv, hq'⟩
      · cases e5
    · cases e5
  split at e
  · rename_i g1 g2 g3
    cases e
    obtain ⟨i1, i2⟩ := List.cons.inj ha
    have i3 := (List.cons.inj i2).1
    obtain ⟨vs, tq, j1, j2⟩ := h5
    have g3' := eq_of_beq g3
    subst h1
    rw [i1] at h
    rw [i1]
    have j2' : vs[1]? = some (.str fd.qualname tq) := by rw [← g3']; exact j2
    refine codeAny_of_tree ?_
    show wpAny _ A.in1 (callAny (.ref p.1) aa.2) _ _ s
    simp only [callAny]
    refine wpAny_bind (wpAny_load hp ?_)
    simp only [h2, callFunction, g1, g2, h3, h4]
    refine wpAny_bind (m := field (.ref cA) 1) (wpAny_field (by rw [i3]; exact hq) j1 j2' (wpAny_bind (wpAny_pure ?_)))
    unfold enterT at h
    rw [h4] at h
    intro Γ pp hΓ
    have z := h Γ pp hΓ
    rw [Sem.wp_bind'] at z ⊢
    refine Sem.wp_mono _ Γ _ (fun b p1 s1 z1 => ?_) (fun _ _ _ z1 => z1) _ _ z
    rw [Sem.wp_bind'] at z1 ⊢
    refine Sem.wp_mono _ Γ _ (fun b p2 s2 z2 => ?_) (fun _ _ _ z1 => z1) _ _ z1
    have z2' : _ ∧ _ ∧ _ := z2
    have ef := wpAny_enterFrame (M := model prog w) (E := fun e s' => R (.error e) s') (Q := fun _ s' => s' = s2) (A := A.in1) (s := s2) z2'.2.1 hA rfl Γ p2 hΓ
    rw [Sem.wp_bind']
    refine Sem.wp_mono _ Γ _ (fun _ p3 s3 z3 => ?_) (fun _ _ _ z => z) _ _ ef
    subst z3
    exact And.intro rfl z2'.2.2
  · cases e
theorem entC_sound {prog : Program} {w : World} {A : Around} {R : Result → Shared → Prop} {s : Shared} {L : List (Addr × Obj)} {f : Option (Nat × Nat)} {c : Code} {t : Sem Fin} {wt dp D : Nat} {a1 a2 : List Addr} (hD : D ≤ 780)
    (H : Lg L s.heap) (e : entC L f c = some (t, wt, a1, a2)) (ha : a1 = a2) (hA : Bd (D + dp) A) (hp : dp < 200)
    (h : ∀ At : Around, Bd (D + (dp + wt)) At → wpAny (model prog w) At t (finQ (model prog w) A R) (fun e s' => R (.error e) s') s) : codeAny (model prog w) A c R s := by
  cases f with
  | none =>
    unfold entC at e
    dsimp only at e
    split at e
    · rename_i hd
      cases e
      refine x_code ?_
      rw [denF_eq hd]
      refine wpAny_mono (h (A.under c) (by rw [← Nat.add_assoc]; exact hA.under c)) (fun fin s' q => ?_) (fun _ _ q => q)
      cases fin with
      | done f => exact q
      | again c' => exact ⟨q.1, q.2.2⟩
    · cases e
  | some ij =>
    obtain ⟨i, j⟩ := ij
    unfold entC at e
    dsimp only at e
    obtain ⟨p, e1, e⟩ := Option.bind_eq_some_iff.mp e
    obtain ⟨q, e2, e⟩ := Option.bind_eq_some_iff.mp e
    obtain ⟨r, e3, e⟩ := Option.bind_eq_some_iff.mp e
    cases e
    have hr : recursionLimit = 1000 := rfl
    have h1 := hA.1
    exact fnAt_sound (t := r.1) (a1 := r.2.1) (a2 := r.2.2) (H.get e1) (H.get e2) e3 ha (by omega) (h A.in1 (by rw [← Nat.add_assoc]; exact hA.in1))
noncomputable def popC {α : Type} (r : Result) (ks : List Fm) (k0 : Result → Sem α) : Cf α :=
  match ks with
  | [] => .top (k0 r)
  | f :: ks => .sub (f.k r) f.dp f.dq ks k0
noncomputable def resAt : Sem Fin → Option Result
  | .pure (.done f) => some (.ok f)
  | .raise e => some (.error e)
  | _ => none
noncomputable def agAt : Sem Fin → Option Code
  | .pure (.again c) => some c
  | _ => none
noncomputable def callOf {β : Type} : Sem β → Option (Code × (Result → Sem β))
  | .call c none _ _ k => some (c, k)
  | _ => none
noncomputable def hdOf {β : Type} : Sem β → Option (Sem β)
  | .handled false k => some (k none)
  | _ => none
noncomputable def plainOf : Hm → Option (List Hn)
  | .go xs => some xs
  | _ => none
noncomputable def nodupB : List Nat → Bool
  | [] => true
  | i :: is => !is.contains i && nodupB is
theorem nodupB_nd : ∀ {is : List Nat}, nodupB is = true → is.Nodup
  | [], _ => List.nodup_nil
  | i :: is, h => by
    have h' := (Bool.and_eq_true _ _).mp h
    refine List.nodup_cons.mpr ⟨fun hm => ?_, nodupB_nd h'.2⟩
    have : is.contains i = true := List.contains_iff_mem.mpr hm
    rw [this] at h'
    cases h'.1
/-- the machine -/
noncomputable def runM {α : Type} (g : Setting) (z : Nat) : List Hm → List (Addr × Obj) → Nat → Nat → Cf α → Ms α
  | [], L, sz, tk, c => ⟨[], true, L, sz, tk, c, [], []⟩
  | x :: xs, L, sz, tk, c => match c with
    | .top t => match x with
      | .go ys => let r := runH g ys L sz tk t; let q := runM g z xs r.L r.sz r.tk (.top r.t); { q with ok := r.ok && q.ok, c1 := r.c1 :: q.c1, c2 := r.c2 :: q.c2 }
      | .cl f => match callOf (skim g 400 t) with
        | some (c, k) => match entC L f c with
          | some (t', wt, a1, a2) => let q := runM g z xs L sz tk (.sub t' 0 wt [] k); { q with c1 := a1 :: q.c1, c2 := a2 :: q.c2 }
          | none => ⟨[], false, L, sz, tk, .top t, [], []⟩
        | none => ⟨[], false, L, sz, tk, .top t, [], []⟩
      | .hd => match hdOf (skim g 400 t) with
        | some t' => runM g z xs L sz tk (.top t')
        | none => ⟨[], false, L, sz, tk, .top t, [], []⟩
      | .ct v n is => match callOf (skim g 400 t) with
        | some (c, k) => let q := runM g z xs L sz (tk + n) (.top (k (.ok (.ret v)))); { q with ob := ⟨c, pick L is, tk, v, n⟩ :: q.ob, ok := nodupB is && q.ok }
        | none => ⟨[], false, L, sz, tk, .top t, [], []⟩
      | _ => ⟨[], false, L, sz, tk, .top t, [], []⟩
    | .sub t dp dq ks k0 => match x with
      | .go ys => let r := runH g ys L sz tk t; let q := runM g z xs r.L r.sz r.tk (.sub r.t dp dq ks k0); { q with ok := r.ok && q.ok, c1 := r.c1 :: q.c1, c2 := r.c2 :: q.c2 }
      | .cl f => match callOf (skim g 400 t) with
        | some (c, k) => match entC L f c, Nat.blt dq 200 with
          | some (t', wt, a1, a2), true => let q := runM g z xs L sz tk (.sub t' dq (dq + wt) (⟨dp, dq, k⟩ :: ks) k0); { q with c1 := a1 :: q.c1, c2 := a2 :: q.c2 }
          | _, _ => ⟨[], false, L, sz, tk, .sub t dp dq ks k0, [], []⟩
        | none => ⟨[], false, L, sz, tk, .sub t dp dq ks k0, [], []⟩
      | .ag f => match agAt (skim g 400 t) with
        | some c => match c.quiet, (L[z]?).map isStat, entC L f c, Nat.blt dp 200 with
          | true, some true, some (t', wt, a1, a2), true => let q := runM g z xs L sz tk (.sub t' dp (dp + wt) ks k0); { q with c1 := a1 :: q.c1, c2 := a2 :: q.c2 }
          | _, _, _, _ => ⟨[], false, L, sz, tk, .sub t dp dq ks k0, [], []⟩
        | none => ⟨[], false, L, sz, tk, .sub t dp dq ks k0, [], []⟩
      | .ct v n is => match callOf (skim g 400 t), Nat.blt dq 200 with
        | some (c, k), true => let q := runM g z xs L sz (tk + n) (.sub (k (.ok (.ret v))) dp dq ks k0); { q with ob := ⟨c, pick L is, tk, v, n⟩ :: q.ob, ok := nodupB is && q.ok }
        | _, _ => ⟨[], false, L, sz, tk, .sub t dp dq ks k0, [], []⟩
      | .rt => match resAt (skim g 400 t) with
        | some r => runM g z xs L sz tk (popC r ks k0)
        | none => ⟨[], false, L, sz, tk, .sub t dp dq ks k0, [], []⟩
      | .hd => match hdOf (skim g 400 t) with
        | some t' => runM g z xs L sz tk (.sub t' dp dq ks k0)
        | none => ⟨[], false, L, sz, tk, .sub t dp dq ks k0, [], []⟩
section
variable {α : Type} {prog : Program} {w : World} {Q : α → Shared → Prop} {E : Value → Shared → Prop}
/-- what a configuration owes -/
noncomputable def WS (D : Nat) (M : Model) (A : Around) (Q : α → Shared → Prop) (E : Value → Shared → Prop) (k0 : Result → Sem α) : List Fm → Result → Shared → Prop
  | [] => fun r s => wpAny M A (k0 r) Q E s
  | f :: ks => fun r s => ∀ Ab At : Around, Bd (D + f.dp) Ab → Bd (D + f.dq) At →
      wpAny M At (f.k r) (finQ M Ab (WS D M A Q E k0 ks)) (fun e s' => WS D M A Q E k0 ks (.error e) s') s
noncomputable def WC (D : Nat) (M : Model) (A : Around) (Q : α → Shared → Prop) (E : Value → Shared → Prop) : Cf α → Shared → Prop
  | .top t => fun s => wpAny M A t Q E s
  | .sub t dp dq ks k0 => fun s => ∀ Ab At : Around, Bd (D + dp) Ab → Bd (D + dq) At →
      wpAny M At t (finQ M Ab (WS D M A Q E k0 ks)) (fun e s' => WS D M A Q E k0 ks (.error e) s') s
/-- a contract kept -/
noncomputable def ObOK (prog : Program) (w : World) (o : Ob) : Prop := ∀ (A : Around) (R : Result → Shared → Prop) (h : Heap) (g : Array GenState) (d : Drawn) (os : OsState), Bd 980 A → Lg o.P h →
  R (.ok (.ret o.v)) ⟨h, g, d, o.tk + o.n, os⟩ → codeAny (model prog w) A o.c R ⟨h, g, d, o.tk, os⟩
noncomputable def ObAll (prog : Program) (w : World) : List Ob → Prop
  | [] => True
  | o :: l => ObOK prog w o ∧ ObAll prog w l
theorem WC_pop {D : Nat} {M : Model} {A : Around} {r : Result} {ks : List Fm} {k0 : Result → Sem α} {s : Shared} (h : WC D M A Q E (popC r ks k0) s) : WS D M A Q E k0 ks r s := by
  cases ks with
  | nil => exact h
  | cons f ks => exact h
theorem call_of {β : Type} {A : Around} {Q : β → Shared → Prop} {E : Value → Shared → Prop} {t : Sem β} {c : Code} {k : Result → Sem β} {s : Shared} (e : callOf t = some (c, k)) (h : codeAny (model prog w) (A.mark none) c (fun r s' => wpAny (model prog w) A (k r) Q E s') s) : wpAny (model prog w) A t Q E s := by
  cases t with
  | call c' hd' g' l k' =>
    cases hd' with
    | none => cases e; exact x_call h (by intro z; cases z)
    | some _ => cases e
  | _ => cases e
theorem hd_of {β : Type} {A : Around} {Q : β → Shared → Prop} {E : Value → Shared → Prop} {t t' : Sem β} {s : Shared} (hA : A.handled = none) (e : hdOf t = some t') (h : wpAny (model prog w) A t' Q E s) : wpAny (model prog w) A t Q E s := by
  cases t with
  | handled o k =>
    cases o with
    | false => cases e; exact x_handled (by rw [hA]; exact h)
    | true => cases e
  | _ => cases e
theorem res_of {A : Around} {R : Result → Shared → Prop} {Ab : Around} {t : Sem Fin} {r : Result} {s : Shared} (e : resAt t = some r) (h : R r s) : wpAny (model prog w) A t (finQ (model prog w) Ab R) (fun e s' => R (.error e) s') s := by
  cases t with
  | pure f =>
    cases f with
    | done f => cases e; exact wpAny_pure h
    | again c => cases e
  | raise x => cases e; exact x_raise h
  | _ => cases e
theorem ag_of {A : Around} {R : Result → Shared → Prop} {Ab : Around} {t : Sem Fin} {c : Code} {s : Shared} (e : agAt t = some c) (h : c.quiet = true ∧ s.heap.NoLimit ∧ codeAny (model prog w) Ab c R s) : wpAny (model prog w) A t (finQ (model prog w) Ab R) (fun e s' => R (.error e) s') s := by
  cases t with
  | pure f =>
    cases f with
    | done f => cases e
    | again c => cases e; exact wpAny_pure h
  | _ => cases e
theorem runM_soundR {D : Nat} {A : Around} {L0 : List (Addr × Obj)} {h0 : Heap} {g : Array GenState} {d : Drawn} {os : OsState} {z : Nat} (hD : D ≤ 780) (hA : Bd D A) :
    ∀ (xs : List Hm) (L : List (Addr × Obj)) (N tk : Nat) (c : Cf α) (h : Heap) (r : Ms α), Sg L0 h0 L N h → runM ⟨prog, w.params⟩ z xs L N tk c = r → ObAll prog w r.ob → r.ok = true → r.c1 = r.c2 →
      (∀ h', Sg L0 h0 r.L r.sz h' → WC D (model prog w) A Q E r.c ⟨h', g, d, r.tk, os⟩) →
      WC D (model prog w) A Q E c ⟨h, g, d, tk, os⟩
  | [], L, N, tk, c, h, r, S, e, _, _, _, hh => by
    subst e
    exact hh h S
  | x :: xs, L, N, tk, .top t, h, r, S, e, e0, e1, e2, hh => by
    unfold runM at e
    dsimp only at e
    cases x with
    | go ys =>
      dsimp only at e
      subst e
      have e1' := (Bool.and_eq_true _ _).mp e1
      have e2' := List.cons.inj e2
      exact seg2 S ys e1'.1 e2'.1 fun h' S' => runM_soundR hD hA xs _ _ _ (.top _) h' _ S' rfl e0 e1'.2 e2'.2 hh
    | cl f =>
      dsimp only at e
      split at e
      · rename_i c k hc
        split at e
        · rename_i t' wt a1 a2 he
          subst e
          have e2' := List.cons.inj e2
          refine x_skim 400 (call_of hc (entC_sound (dp := 0) (D := D) hD S.lg he e2'.1 hA.mark (Nat.zero_lt_succ _) fun At g1 => ?_))
          have IH := runM_soundR hD hA xs _ _ _ (.sub t' 0 wt [] k) h _ S rfl e0 e1 e2'.2 hh
          exact IH (A.mark none) At hA.mark (by rw [Nat.zero_add] at g1; exact g1)
        · subst e; cases e1
      · subst e; cases e1
    | hd =>
      dsimp only at e
      split at e
      · rename_i t' he
        exact x_skim 400 (hd_of hA.2.2 he (runM_soundR hD hA xs _ _ _ (.top t') h r S e e0 e1 e2 hh))
      · subst e; cases e1
    | ag f => dsimp only at e; subst e; cases e1
    | rt => dsimp only at e; subst e; cases e1
    | ct v n is =>
      dsimp only at e
      split at e
      · rename_i c k hc
        subst e
        have e1' := (Bool.and_eq_true _ _).mp e1
        have IH := runM_soundR hD hA xs _ _ _ (.top (k (.ok (.ret v)))) h _ S rfl e0.2 e1'.2 e2 hh
        exact x_skim 400 (call_of hc (e0.1 (A.mark none) (fun r s' => wpAny (model prog w) A (k r) Q E s') h g d os (hA.mark.mono (Nat.le_trans hD (Nat.le_of_ble_eq_true rfl))) (S.lg.pick (nodupB_nd e1'.1)) IH))
      · subst e; cases e1
  | x :: xs, L, N, tk, .sub t dp dq ks k0, h, r, S, e, e0, e1, e2, hh => by
    intro Ab At b1 b2
    unfold runM at e
    dsimp only at e
    cases x with
    | go ys =>
      dsimp only at e
      subst e
      have e1' := (Bool.and_eq_true _ _).mp e1
      have e2' := List.cons.inj e2
      exact seg2 S ys e1'.1 e2'.1 fun h' S' => runM_soundR hD hA xs _ _ _ (.sub _ dp dq ks k0) h' _ S' rfl e0 e1'.2 e2'.2 hh Ab At b1 b2
    | cl f =>
      dsimp only at e
      split at e
      · rename_i c k hc
        split at e
        · rename_i t' wt a1 a2 he hq
          subst e
          have e2' := List.cons.inj e2
          refine x_skim 400 (call_of hc (entC_sound (dp := dq) hD S.lg he e2'.1 b2.mark (Nat.blt_eq.mp hq) fun At' g1 => ?_))
          have IH := runM_soundR hD hA xs _ _ _ (.sub t' dq (dq + wt) (⟨dp, dq, k⟩ :: ks) k0) h _ S rfl e0 e1 e2'.2 hh
          refine wpAny_mono (IH (At.mark none) At' b2.mark g1) (fun fin s' q => ?_) (fun e s' q => q Ab At b1 b2)
          cases fin with
          | done f => exact q Ab At b1 b2
          | again c' => exact ⟨q.1, q.2.1, fun Γ p h1 h2 => wpCode_mono (fun r s' q => q Ab At b1 b2) (q.2.2 Γ p h1 h2)⟩
        · subst e; cases e1
      · subst e; cases e1
    | ag f =>
      dsimp only at e
      split at e
      · rename_i c hc
        split at e
        · rename_i t' wt a1 a2 h1 h2 he hq
          subst e
          have e2' := List.cons.inj e2
          obtain ⟨p, hp, hs⟩ := Option.map_eq_some_iff.mp h2
          refine x_skim 400 (ag_of hc ⟨h1, isStat_no (S.lg.get hp) hs, entC_sound (dp := dp) hD S.lg he e2'.1 b1 (Nat.blt_eq.mp hq) fun At' g1 => ?_⟩)
          exact runM_soundR hD hA xs _ _ _ (.sub t' dp (dp + wt) ks k0) h _ S rfl e0 e1 e2'.2 hh Ab At' b1 g1
        · subst e; cases e1
      · subst e; cases e1
    | ct v n is =>
      dsimp only at e
      split at e
      · rename_i c k hc hq
        subst e
        have e1' := (Bool.and_eq_true _ _).mp e1
        have hq' : dq < 200 := Nat.blt_eq.mp hq
        have IH := runM_soundR hD hA xs _ _ _ (.sub (k (.ok (.ret v))) dp dq ks k0) h _ S rfl e0.2 e1'.2 e2 hh
        exact x_skim 400 (call_of hc (e0.1 (At.mark none) (fun r s' => wpAny (model prog w) At (k r) _ _ s') h g d os (b2.mark.mono (Nat.add_le_add hD (Nat.le_of_lt hq'))) (S.lg.pick (nodupB_nd e1'.1)) (IH Ab At b1 b2)))
      · subst e; cases e1
    | rt =>
      dsimp only at e
      split at e
      · rename_i r' hr
        exact x_skim 400 (res_of hr (WC_pop (runM_soundR hD hA xs _ _ _ (popC r' ks k0) h r S e e0 e1 e2 hh)))
      · subst e; cases e1
    | hd =>
      dsimp only at e
      split at e
      · rename_i t' he
        exact x_skim 400 (hd_of b2.2.2 he (runM_soundR hD hA xs _ _ _ (.sub t' dp dq ks k0) h r S e e0 e1 e2 hh Ab At b1 b2))
      · subst e; cases e1
theorem runM_sound {D : Nat} {A : Around} {L0 : List (Addr × Obj)} {h0 : Heap} {g : Array GenState} {d : Drawn} {os : OsState} {z : Nat} (hD : D ≤ 780) (hA : Bd D A)
    (xs : List Hm) (L : List (Addr × Obj)) (N tk : Nat) (c : Cf α) (h : Heap) (S : Sg L0 h0 L N h) (e0 : ObAll prog w (runM ⟨prog, w.params⟩ z xs L N tk c).ob)
    (e1 : (runM ⟨prog, w.params⟩ z xs L N tk c).ok = true)
    (e2 : (runM ⟨prog, w.params⟩ z xs L N tk c).c1 = (runM ⟨prog, w.params⟩ z xs L N tk c).c2)
    (hh : ∀ h', Sg L0 h0 (runM ⟨prog, w.params⟩ z xs L N tk c).L (runM ⟨prog, w.params⟩ z xs L N tk c).sz h' →
        WC D (model prog w) A Q E (runM ⟨prog, w.params⟩ z xs L N tk c).c ⟨h', g, d, (runM ⟨prog, w.params⟩ z xs L N tk c).tk, os⟩) :
    WC D (model prog w) A Q E c ⟨h, g, d, tk, os⟩ := runM_soundR hD hA xs L N tk c h _ S rfl e0 e1 e2 hh
theorem Sg.pick {L0 : List (Addr × Obj)} {h0 : Heap} {L : List (Addr × Obj)} {N : Nat} {h : Heap} (S : Sg L0 h0 L N h) {is : List Nat} (nd : is.Nodup) : Sg L0 h0 (Mine.pick L is) N h :=
  ⟨S.lg.pick nd, S.sz, S.kp, S.le, fun a ha => by
    obtain ⟨p, hp, e⟩ := List.mem_map.mp ha
    obtain ⟨i, _, hi⟩ := pick_mem hp
    exact S.cv a (e ▸ List.mem_map_of_mem (List.mem_of_getElem? hi))⟩
noncomputable def outC (r : Ms α) : List Ob × Bool × List (Addr × Obj) × Nat × Nat × Cf α := (r.ob, r.ok, r.L, r.sz, r.tk, r.c)
/-- the one choice of the world that the walked code asks for -/
noncomputable def wb (w : World) : Bool := w.params.followText "special-get-raises"
noncomputable def gB (prog : Program) (w : World) (b : Bool) : Setting := ⟨prog, { w.params with followText := fun t => bif decide (t = "special-get-raises") then b else w.params.followText t }⟩
theorem gB_eq (prog : Program) (w : World) : gB prog w (wb w) = ⟨prog, w.params⟩ := by
  have e : (fun t => bif decide (t = "special-get-raises") then wb w else w.params.followText t) = w.params.followText := by
    funext t
    by_cases h : t = "special-get-raises"
    · rw [decide_eq_true h, h]; rfl
    · rw [decide_eq_false h]; rfl
  unfold gB
  rw [e]
noncomputable def At (w : World) (c0 : Cf α) (c : Bool → Cf α) : Prop := c0 = c (wb w)
/-- a whole run with contracts, to a value; of the list only some places are kept -/
theorem opX {D : Nat} {A : Around} {L0 L : List (Addr × Obj)} {h0 h : Heap} {g : Array GenState} {d : Drawn} {os : OsState} {N tk : Nat} {c0 : Cf α} {c : Bool → Cf α} (hc : At w c0 c) (hD : D ≤ 780) (hA : Bd D A) (S : Sg L0 h0 L N h) (z : Nat) (xs : List Hm) (is : List Nat) (obs : List Ob) (v : α) (L' : List (Addr × Obj)) (N' k : Nat)
    (e : ∀ b, ((fun r : List Ob × Bool × List (Addr × Obj) × Nat × Nat × Cf α => (r.1, r.2.1, Mine.pick r.2.2.1 is, r.2.2.2)) (outC (runM (gB prog w b) z xs L N tk (c b))), (runM (gB prog w b) z xs L N tk (c b)).c1) = ((obs, true, L', N', k, .top (.pure v)), (runM (gB prog w b) z xs L N tk (c b)).c2)) (nd : nodupB is = true) (hob : ObAll prog w obs)
    (hh : ∀ h', Sg L0 h0 L' N' h' → Q v ⟨h', g, d, k, os⟩) : WC D (model prog w) A Q E c0 ⟨h, g, d, tk, os⟩ := by
  have e2 := congrArg Prod.snd (e (wb w))
  have e := congrArg Prod.fst (e (wb w))
  dsimp only at e e2
  unfold At at hc
  subst hc
  rw [gB_eq] at e e2
  have a0 := congrArg Prod.fst e
  have a1 := congrArg (fun x => x.2.1) e
  have a2 := congrArg (fun x => x.2.2.1) e
  have a3 := congrArg (fun x => x.2.2.2.1) e
  have a4 := congrArg (fun x => x.2.2.2.2.1) e
  have a5 := congrArg (fun x => x.2.2.2.2.2) e
  dsimp only [outC] at a0 a1 a2 a3 a4 a5
  refine runM_sound hD hA xs L N tk _ h S (by rw [a0]; exact hob) a1 e2 fun h' b => ?_
  rw [a3] at b
  rw [a5, a4]
  exact wpAny_pure (hh h' (a2 ▸ b.pick (nodupB_nd nd)))
noncomputable def cfgCall (g : Setting) : Cf α → Option Code
  | .top t => (callOf (skim g 400 t)).map (·.1)
  | .sub t _ dq _ _ => match Nat.ble dq 60 with
    | true => (callOf (skim g 400 t)).map (·.1)
    | false => none
noncomputable def contCfg (g : Setting) (c : Cf α) (r : Result) : Cf α := match c with
  | .top t => match callOf (skim g 400 t) with
    | some ck => .top (ck.2 r)
    | none => .top t
  | .sub t dp dq ks k0 => match callOf (skim g 400 t) with
    | some ck => .sub (ck.2 r) dp dq ks k0
    | none => .sub t dp dq ks k0
theorem WC_call {D : Nat} {A : Around} {s : Shared} {cf : Cf α} {c : Code} (e : cfgCall ⟨prog, w.params⟩ cf = some c) (hA : Bd D A)
    (h : ∀ A' : Around, Bd (D + 60) A' → codeAny (model prog w) A' c (fun r s' => WC D (model prog w) A Q E (contCfg ⟨prog, w.params⟩ cf r) s') s) : WC D (model prog w) A Q E cf s := by
  cases cf with
  | top t =>
    obtain ⟨ck, h1, h2⟩ := Option.map_eq_some_iff.mp e
    obtain ⟨c', k⟩ := ck
    have h2' : c' = c := h2
    subst h2'
    have hc := h (A.mark none) (hA.mark.mono (by omega))
    unfold contCfg at hc
    dsimp only at hc
    rw [h1] at hc
    exact x_skim 400 (call_of h1 hc)
  | sub t dp dq ks k0 =>
    intro Ab At b1 b2
    unfold cfgCall at e
    dsimp only at e
    split at e
    · rename_i hq
      have hq' := Nat.ble_eq.mp hq
      obtain ⟨ck, h1, h2⟩ := Option.map_eq_some_iff.mp e
      obtain ⟨c', k⟩ := ck
      have h2' : c' = c := h2
      subst h2'
      have hc := h (At.mark none) (b2.mark.mono (by omega))
      unfold contCfg at hc
      dsimp only at hc
      rw [h1] at hc
      refine x_skim 400 (call_of h1 fun Γ p g1 g2 => wpCode_mono (fun r s' q => ?_) (hc Γ p g1 g2))
      exact q Ab At b1 b2
    · cases e
/-- up to a call, which is done outside; the ledger as the run leaves it -/
theorem opM {D : Nat} {A : Around} {L0 L : List (Addr × Obj)} {h0 h : Heap} {g : Array GenState} {d : Drawn} {os : OsState} {N tk : Nat} {cf0 : Cf α} {cf : Bool → Cf α} (hcf : At w cf0 cf) (hD : D ≤ 780) (hA : Bd D A) (S : Sg L0 h0 L N h) (z : Nat) (xs : List Hm) (is : List Nat) (obs : List Ob) (c : Code) (L' : List (Addr × Obj)) (N' k : Nat)
    (e : ∀ b, ((fun r : List Ob × Bool × List (Addr × Obj) × Nat × Nat × Cf α => (r.1, r.2.1, Mine.pick r.2.2.1 is, r.2.2.2.1, r.2.2.2.2.1, cfgCall (gB prog w b) r.2.2.2.2.2)) (outC (runM (gB prog w b) z xs L N tk (cf b))), (runM (gB prog w b) z xs L N tk (cf b)).c1) = ((obs, true, L', N', k, some c), (runM (gB prog w b) z xs L N tk (cf b)).c2)) (nd : nodupB is = true) (hob : ObAll prog w obs)
    (hh : ∀ (W : Result → Cf α), (∀ r, At w (W r) (fun b => contCfg (gB prog w b) (runM (gB prog w b) z xs L N tk (cf b)).c r)) → ∀ h', Sg L0 h0 L' N' h' → ∀ A' : Around, Bd (D + 60) A' → codeAny (model prog w) A' c (fun r s' => WC D (model prog w) A Q E (W r) s') ⟨h', g, d, k, os⟩) : WC D (model prog w) A Q E cf0 ⟨h, g, d, tk, os⟩ := by
  have e2 := congrArg Prod.snd (e (wb w))
  have e := congrArg Prod.fst (e (wb w))
  dsimp only at e e2
  unfold At at hcf
  subst hcf
  have hh := hh (fun r => contCfg (gB prog w (wb w)) (runM (gB prog w (wb w)) z xs L N tk (cf (wb w))).c r) (fun _ => rfl)
  rw [gB_eq] at e e2 hh
  have a0 := congrArg Prod.fst e
  have a1 := congrArg (fun x => x.2.1) e
  have a2 := congrArg (fun x => x.2.2.1) e
  have a3 := congrArg (fun x => x.2.2.2.1) e
  have a4 := congrArg (fun x => x.2.2.2.2.1) e
  have a5 := congrArg (fun x => x.2.2.2.2.2) e
  dsimp only [outC] at a0 a1 a2 a3 a4 a5
  refine runM_sound hD hA xs L N tk _ h S (by rw [a0]; exact hob) a1 e2 fun h' b => ?_
  rw [a3] at b
  rw [a4]
  exact WC_call a5 hA (hh h' (a2 ▸ b.pick (nodupB_nd nd)))
end
section
variable {prog : Program} {w : World}
/-- a code, entered by the machine -/
theorem opCode {D : Nat} {A : Around} {L0 L : List (Addr × Obj)} {h0 : Heap} {s : Shared} {N : Nat} {R : Result → Shared → Prop} {c : Code} (f : Option (Nat × Nat)) (t : Sem Fin) (wt : Nat) (a : List Addr) (hD : D ≤ 780) (hA : Bd D A) (S : Sg L0 h0 L N s.heap)
    (e : entC L f c = some (t, wt, a, a))
    (h : ∀ A₁ : Around, Bd D A₁ → ∀ W : Cf Result, At w W (fun _ => .sub t 0 wt [] .pure) → WC (α := Result) D (model prog w) A₁ R (fun _ _ => False) W s) : codeAny (model prog w) A c R s := by
  intro Γ p hc hΓ
  refine entC_sound (dp := 0) hD S.lg e rfl hA (by omega) (fun At g1 => ?_) Γ p hc hΓ
  have W := h A hA _ rfl A At hA (by rw [Nat.zero_add] at g1; exact g1)
  have k : ∀ r s', WS D (model prog w) A R (fun _ _ => False) Sem.pure [] r s' → R r s' := fun r s' q => q (Γ.goto (.block [] default)) p ?_
  · refine wpAny_mono W (fun fin s' q => ?_) (fun e s' q => k _ _ q)
    cases fin with
    | done f => exact k _ _ q
    | again c' => exact ⟨q.1, q.2.1, fun Γ p h1 h2 => wpCode_mono (fun r s' q => k _ _ q) (q.2.2 Γ p h1 h2)⟩
  · have z := (Ctx.Below.goto hΓ (.block [] default)).in
    rwa [show (Γ.goto (.block [] default)).code = Code.block [] default from rfl, Around.under_of_weight (by kernel_rfl) (by kernel_rfl)] at z
noncomputable def cfgAg (g : Setting) (z : Nat) (L : List (Addr × Obj)) : Cf Result → Option (Code × (Result → Sem Result))
  | .sub t 0 _ [] k0 => match agAt (skim g 400 t), (L[z]?).map isStat with
    | some c, some true => match c.quiet with
      | true => some (c, k0)
      | false => none
    | _, _ => none
  | _ => none
/-- a run of a code up to its going on as another code -/
theorem opAg {D : Nat} {A : Around} {L0 L : List (Addr × Obj)} {h0 h : Heap} {g : Array GenState} {d : Drawn} {os : OsState} {N tk : Nat} {c0 : Cf Result} {c : Bool → Cf Result} {R : Result → Shared → Prop} {E : Value → Shared → Prop} (hc : At w c0 c) (hD : D ≤ 780) (hA : Bd D A) (S : Sg L0 h0 L N h) (z : Nat) (xs : List Hm) (is : List Nat) (obs : List Ob) (c' : Code) (L' : List (Addr × Obj)) (N' k : Nat)
    (e : ∀ b, ((fun r : List Ob × Bool × List (Addr × Obj) × Nat × Nat × Cf Result => (r.1, r.2.1, Mine.pick r.2.2.1 is, r.2.2.2.1, r.2.2.2.2.1, cfgAg (gB prog w b) z r.2.2.1 r.2.2.2.2.2)) (outC (runM (gB prog w b) z xs L N tk (c b))), (runM (gB prog w b) z xs L N tk (c b)).c1) = ((obs, true, L', N', k, some (c', Sem.pure)), (runM (gB prog w b) z xs L N tk (c b)).c2)) (nd : nodupB is = true) (hob : ObAll prog w obs)
    (hh : ∀ h', Sg L0 h0 L' N' h' → ∀ A' : Around, Bd D A' → codeAny (model prog w) A' c' R ⟨h', g, d, k, os⟩) : WC D (model prog w) A R E c0 ⟨h, g, d, tk, os⟩ := by
  have e2 := congrArg Prod.snd (e (wb w))
  have e := congrArg Prod.fst (e (wb w))
  dsimp only at e e2
  unfold At at hc
  subst hc
  rw [gB_eq] at e e2
  have a0 := congrArg Prod.fst e
  have a1 := congrArg (fun x => x.2.1) e
  have a2 := congrArg (fun x => x.2.2.1) e
  have a3 := congrArg (fun x => x.2.2.2.1) e
  have a4 := congrArg (fun x => x.2.2.2.2.1) e
  have a5 := congrArg (fun x => x.2.2.2.2.2) e
  dsimp only [outC] at a0 a1 a2 a3 a4 a5
  refine runM_sound hD hA xs L N tk _ h S (by rw [a0]; exact hob) a1 e2 fun h' b => ?_
  rw [a4]
  generalize (runM ⟨prog, w.params⟩ z xs L N tk (c (wb w))).c = cf at a5 ⊢
  unfold cfgAg at a5
  split at a5
  · rename_i t q k0
    split at a5
    · rename_i c1 h1 h2
      split at a5
      · rename_i hq
        cases a5
        obtain ⟨p, hp, hs⟩ := Option.map_eq_some_iff.mp h2
        intro Ab At b1 b2
        have hh := hh h' (by rw [a3] at b; exact a2 ▸ b.pick (nodupB_nd nd)) Ab b1
        refine x_skim 400 (ag_of h1 ⟨hq, isStat_no (b.lg.get hp) hs, fun Γ p g1 g2 => wpCode_mono (fun r s' q => ?_) (hh Γ p g1 g2)⟩)
        exact wpAny_pure q
      · cases a5
    · cases a5
  · cases a5
end
end Mine
end
section
namespace Mine
set_option maxHeartbeats 8000000
/-- the class that a call of cmp_to_key made: n, u are the first call's places, for the codes -/
structure Kl where
  x : Cx
  c : Addr
  ns : Addr
  md : Addr
  cell : Addr
  ct : Addr
  n : Nat
  u : Nat
  t : Tok
  te : Tok
  tm : Tok
  f : Addr
noncomputable def codeInit (n u : Nat) : Obj := codeO "__init__" (fQual "__init__") 33 2 19 (u + 17) (u + 17 + 1) (u + 17 + 2) (n + 10) (n + 10 + 1) (.ref (n + 10 + 2)) (.ref (n + 10 + 3)) (.ref (n + 10 + 4)) (u + 17 + 5 : Nat) (u + 17 + 6)
noncomputable def codeLt (n u : Nat) : Obj := codeO "__lt__" (fQual "__lt__") 36 2 19 (u + 25) (u + 25 + 1) (u + 25 + 2) (n + 17 + 1) (n + 17 + 2) (.ref (n + 17 + 3)) (.ref (n + 17 + 4)) (.ref (n + 17 + 5)) (u + 25 + 6 : Nat) (u + 25 + 7)
noncomputable def Kl.clsO (k : Kl) : Obj := kO (cd2 k.c k.ns) (k.x.sl k.t ++ [some (.builtin "object.__new__"), some (.bool false)])
noncomputable def Kl.L (w : World) (k : Kl) : List (Addr × Obj) := [(2, stO2), (k.c, k.clsO), (k.ns, dO (k.x.es3 w k.te k.md) 3), (k.x.f1, fnO (fnFD 0 "__init__" [] (.ref (k.n + 15)) .none)), (k.n + 15, codeInit k.n k.u), (k.md, mdO k.c k.tm),
  (k.x.f2, fnO (fnFD 1 "__lt__" [(mc, k.cell)] (.ref (k.n + 23)) (.ref k.ct))), (k.n + 23, codeLt k.n k.u), (k.cell, cellO (some (.ref k.f)))]
/-- one made of it -/
noncomputable def instO (c d : Addr) (sl : List (Option Value)) : Obj := ⟨.ref c, some d, .plain, sl.toArray⟩
theorem beq_self_val (c : Addr) : (Value.ref c == Value.ref c) = true := by simp
theorem contains_self (c : Addr) (l : List Value) : (Value.ref c :: l).contains (.ref c) = true := by simp
theorem isInst {w : World} {A : Around} {s : Shared} {k : Kl} {o d : Addr} {sl : List (Option Value)} {Q : Bool → Shared → Prop} {E : Value → Shared → Prop}
    (H : Lg [(k.c, k.clsO), (o, instO k.c d sl)] s.heap) (h : Q true s) : wpAny (model PySem.Challenge.rw_op0083_01.row.prog w) A (isInstance (.ref o) (.ref k.c)) Q E s := by
  have S : Sg [(k.c, k.clsO), (o, instO k.c d sl)] s.heap [(k.c, k.clsO), (o, instO k.c d sl)] s.heap.objs.size s.heap := Sg.start H rfl
  unfold isInstance
  refine wpAny_bind (op0 S [1] (.ref k.c) (by kernel_rfl) (by kernel_rfl) ?_)
  unfold isSubtype
  refine wpAny_bind (op0 S [0] [.ref k.c, .type "object"] (by kernel_rfl) (by kernel_rfl) ?_)
  refine wp_f (by kernel_rfl) ?_
  refine wpAny_pure ?_
  rw [contains_self]
  exact h
theorem ent_obj_new : entryFor table "object.__new__" = some Builtin.«object.__new__» := entryFor_of_tree (by kernel_rfl)
theorem ent_md_set : entryFor table "member_descriptor.__set__" = some Builtin.«member_descriptor.__set__» := entryFor_of_tree (by kernel_rfl)
theorem ent_slot_set : entryFor table "proto.slot#set" = some Builtin.«proto.slot#set» := entryFor_of_tree (by kernel_rfl)
noncomputable def Kl.L1 (w : World) (k : Kl) (N : Nat) (sl : List (Option Value)) : List (Addr × Obj) := k.L w ++ [(N, dO [] 0), (N + 1, instO k.c N sl)]
theorem pickI (w : World) (k : Kl) (N : Nat) (sl : List (Option Value)) (X : List (Addr × Obj)) : pick (k.L1 w N sl ++ X) [1, 10] = [(k.c, k.clsO), (N + 1, instO k.c N sl)] := by kernel_rfl
noncomputable def frI (w : World) (tk N : Nat) (v : Value) : Obj := frO [en w "self" tk (.ref (N + 1)), en w "obj" (tk + 1) v] 2
theorem k_init {D : Nat} {w : World} {h0 h : Heap} {g : Array GenState} {d : Drawn} {tk : Nat} {os : OsState} {L0 : List (Addr × Obj)} {k : Kl} {N : Nat} {i : Int} {u : Tok} {A : Around} {Q : Value → Shared → Prop} {E : Value → Shared → Prop}
    (hD : D ≤ 780) (hA : Bd D A) (S : Sg L0 h0 (k.L1 w N []) (N + 2) h)
    (hQ : ∀ h', Sg L0 h0 (k.L1 w N [some (.int i u)] ++ [(N + 2, frI w tk N (.int i u))]) (N + 3) h' → Q .none ⟨h', g, d, tk + 3, os⟩) :
    wpAny (model PySem.Challenge.rw_op0083_01.row.prog w) A (call (.ref k.x.f1) [.ref (N + 1), .int i u]) Q E ⟨h, g, d, tk, os⟩ := by
  refine opM (cf := fun _ => .top _) rfl hD hA S 0 [.cl (some (3, 4)), .go [.al, .fr, .ld 11, .up 11, .fr, .ld 11, .up 11], .ag none, .go [.ld 11, .ld 11, .fr, .ld 10, .ld 1, .ld 1, .ld 2], .cl none, .go [.ld 10, .ld 1], .ag none, .go [.ld 10, .ld 1, .ld 10, .ld 1, .ld 1, .ld 2, .ld 5, .ld 5]]
    [0, 1, 2, 3, 4, 5, 6, 7, 8, 9, 10, 11] [] (.call (.builtin "member_descriptor.__set__") ⟨[.ref k.md, .ref (N + 1), .int i u], []⟩) (k.L1 w N [] ++ [(N + 2, frI w tk N (.int i u))]) (N + 3) (tk + 3) (fun _ => by kernel_rfl) (by decide) trivial fun W hW h1 S1 A1 a1 => ?_
  refine codeAny_of_tree ?_
  refine op0 S1 [5] (.again (.builtin "member_descriptor.__set__" ⟨[.ref k.md, .ref (N + 1), .int i u], []⟩)) (by kernel_rfl) (by kernel_rfl) ?_
  refine ⟨by kernel_rfl, codeAny_builtin ent_md_set ?_⟩
  unfold Builtin.«member_descriptor.__set__» Builtin.Getset_descriptor.descrSet
  refine wp_f (by kernel_rfl) ?_
  unfold Builtin.Getset_descriptor.descrStoreThrough Builtin.Getset_descriptor.descrCheckInstance
  refine wpAny_bind ?_
  refine wpAny_bind (op0 S1 [5, 5] (Str.ofString "obj", .ref k.c) (by kernel_rfl) (by kernel_rfl) ?_)
  refine wpAny_bind (isInst (k := k) (d := N) (sl := []) (pickI w k N [] _ ▸ S1.lg.pick (is := [1, 10]) (by decide)) ?_)
  refine wp_f (by kernel_rfl) ?_
  refine wpAny_pure ?_
  refine op0 S1 [5, 5] (.again (.builtin "proto.slot#set" ⟨[.ref (N + 1), .int i u, .ref k.md], []⟩)) (by kernel_rfl) (by kernel_rfl) ?_
  refine ⟨by kernel_rfl, codeAny_builtin ent_slot_set ?_⟩
  refine opS S1 [.ld 5, .ld 5, .ld 10, .ld 1, .up 10] (.done (.ret .none)) (k.L1 w N [some (.int i u)] ++ [(N + 2, frI w tk N (.int i u))]) (N + 3) (tk + 3) (by kernel_rfl) (by kernel_rfl) fun h2 S2 => ?_
  exact opX (hW _) hD hA S2 0 [.rt, .rt] [0, 1, 2, 3, 4, 5, 6, 7, 8, 9, 10, 11] [] .none _ (N + 3) (tk + 3) (fun _ => by kernel_rfl) (by decide) trivial hQ
end Mine
end
section
namespace Mine
set_option maxHeartbeats 8000000
theorem wtc (c : Addr) (i : Int) (u : Tok) : (Code.builtin "type.__call__" ⟨[.ref c, .int i u], []⟩).weight = 1 := by kernel_rfl
theorem wtu (c : Addr) (i : Int) (u : Tok) : (Code.builtin "type.__call__" ⟨[.ref c, .int i u], []⟩).cUnits = 1 := by kernel_rfl
theorem k_call {D : Nat} {w : World} {h0 h : Heap} {g : Array GenState} {d : Drawn} {tk : Nat} {os : OsState} {L0 : List (Addr × Obj)} {k : Kl} {N : Nat} {i : Int} {u : Tok} {A : Around} {Q : Value → Shared → Prop} {E : Value → Shared → Prop}
    (hD : D ≤ 770) (hA : Bd D A) (S : Sg L0 h0 (k.L w) N h)
    (hQ : ∀ h', Sg L0 h0 (k.L1 w N [some (.int i u)] ++ [(N + 2, frI w tk N (.int i u))]) (N + 3) h' → Q (.ref (N + 1)) ⟨h', g, d, tk + 3, os⟩) :
    wpAny (model PySem.Challenge.rw_op0083_01.row.prog w) A (call (.ref k.c) [.int i u]) Q E ⟨h, g, d, tk, os⟩ := by
  refine wpAny_call (codeAny_of_tree ?_)
  refine op0 S [1, 1] (.again (.call (.builtin "type.__call__") ⟨[.ref k.c, .int i u], []⟩)) (by kernel_rfl) (by kernel_rfl) ?_
  refine ⟨by kernel_rfl, codeAny_of_tree ?_⟩
  refine op0 S [1] (.again (.builtin "type.__call__" ⟨[.ref k.c, .int i u], []⟩)) (by kernel_rfl) (by kernel_rfl) ?_
  refine ⟨by kernel_rfl, codeAny_builtin ent_type_call ?_⟩
  unfold Builtin.«type.__call__»
  refine wp_f (by kernel_rfl) ?_
  refine wpAny_bind (op0 S [1] [.ref k.c, .type "object"] (by kernel_rfl) (by kernel_rfl) ?_)
  refine wp_f (by kernel_rfl) ?_
  refine wpAny_bind (op0 S [1, 1] (some "object.__new__") (by kernel_rfl) (by kernel_rfl) ?_)
  refine wpAny_bind (wpAny_pure ?_)
  refine wpAny_bind (wpAny_holding ?_)
  have hA' : Bd (D + 2) (A.under (Code.builtin "type.__call__" { pos := [Value.ref k.c, Value.int i u] })) := by
    have z := hA.under (Code.builtin "type.__call__" { pos := [Value.ref k.c, Value.int i u] })
    rwa [wtc, wtu] at z
  refine opX (c := fun _ => .top _) rfl (by first | exact dD hD rfl | exact dD0 hD rfl | omega) hA' S 0 [.cl none, .go [.ld 1, .ld 1, .ld 1, .ld 1, .ld 1, .ld 1, .ld 1], .ag none, .go [.ld 1, .ld 1, .ld 1, .ld 1, .ld 1, .ld 1, .ld 1, .ld 1, .ld 1, .ld 1, .ld 2, .ld 1, .al, .al, .ld 1], .rt] [0, 1, 2, 3, 4, 5, 6, 7, 8, 9, 10] [] (.ref (N + 1)) (k.L1 w N []) (N + 2) tk (fun _ => by kernel_rfl) (by decide) trivial fun h1 S1 => ?_
  refine wpAny_bind (isInst (k := k) (d := N) (sl := []) (pickI w k N [] [] ▸ (List.append_nil (k.L1 w N [])).symm ▸ S1.lg.pick (is := [1, 10]) (by decide)) ?_)
  refine wp_f (by kernel_rfl) ?_
  refine wpAny_bind (wpAny_holding ?_)
  unfold callSpecial?
  refine wpAny_bind (op0 S1 [10, 1, 1, 2] (some (.ref k.x.f1)) (by kernel_rfl) (by kernel_rfl) ?_)
  refine wpAny_holding ?_
  refine wpAny_bind (op0 S1 [3] (.ref k.x.f1, [.ref (N + 1)]) (by kernel_rfl) (by kernel_rfl) ?_)
  refine wpAny_bind (k_init (by first | exact dD hD rfl | exact dD0 hD rfl | omega) hA' S1 fun h2 S2 => ?_)
  refine wpAny_pure ?_
  refine wp_f (by kernel_rfl) ?_
  exact wpAny_pure (hQ h2 S2)
end Mine
end
section
namespace Mine
section
variable {prog : Program} {w : World} {tk : Nat} {P : List (Addr × Obj)}
theorem ob_gives {T : String} {name : Str} {id : String} {B : Builtin} {self : Value} {rest : List Value} {m : Made} {v : Value} {n : Nat} (slot : Slot T name id) (hT : ∀ s : Shared, s.TypeIs self T) (entry : entryFor table id = some B) (args : argsOk id ⟨self :: rest, []⟩)
    (g : Gives (B ⟨self :: rest, []⟩) m) (hm : ∀ (Q : Value → Shared → Prop) (h : Heap) (g : Array GenState) (d : Drawn) (os : OsState), Q v ⟨h, g, d, tk + n, os⟩ → m.post Q ⟨h, g, d, tk, os⟩) : ObOK prog w ⟨.call (.builtin id) ⟨self :: rest, []⟩, P, tk, v, n⟩ :=
  fun A R h gg d os _ _ hR => codeAny_call_builtin slot.plain entry (slot.check _ _ _ _ _ _ _ _ (hT _) args (g prog w A R _ (hm (fun v s' => R (.ok (.ret v)) s') h gg d os hR)))
theorem ob_eq {x y : Str} {t u : Tok} {b : Bool} (hb : (x.cps.toList == y.cps.toList) = b) : ObOK prog w ⟨.call (.builtin "str.__eq__") ⟨[.str x t, .str y u], []⟩, P, tk, .bool b, 0⟩ :=
  ob_gives F.slot_str_eq (fun s => typeIs_str s x t) F.entry_str_eq (F.args_str_eq_2 _ _) (gives_str_eq x y t u) fun Q h g d os q => by subst hb; exact q
theorem ob_ne {x y : Str} {t u : Tok} {b : Bool} (hb : (x.cps.toList != y.cps.toList) = b) : ObOK prog w ⟨.call (.builtin "str.__ne__") ⟨[.str x t, .str y u], []⟩, P, tk, .bool b, 0⟩ :=
  ob_gives F.slot_str_ne (fun s => typeIs_str s x t) F.entry_str_ne (F.args_str_ne_2 _ _) (gives_str_ne x y t u) fun Q h g d os q => by subst hb; exact q
theorem ob_lt {x y : Str} {t u : Tok} {b : Bool} (hb : decide (x.cps.toList < y.cps.toList) = b) : ObOK prog w ⟨.call (.builtin "str.__lt__") ⟨[.str x t, .str y u], []⟩, P, tk, .bool b, 0⟩ :=
  ob_gives F.slot_str_lt (fun s => typeIs_str s x t) F.entry_str_lt (F.args_str_lt_2 _ _) (gives_str_lt x y t u) fun Q h g d os q => by subst hb; exact q
theorem ob_in {x y : Str} {t u : Tok} {b : Bool} (hb : (!(Builtin.Str.occurrences x y 0 x.length 1).isEmpty) = b) : ObOK prog w ⟨.call (.builtin "str.__contains__") ⟨[.str x t, .str y u], []⟩, P, tk, .bool b, 0⟩ :=
  ob_gives F.slot_str_contains (fun s => typeIs_str s x t) F.entry_str_contains (F.args_str_contains_2 _ _) (gives_str_contains x y t u) fun Q h g d os q => by subst hb; exact q
theorem ob_add {x y : Str} {t u : Tok} (hx : (x.length == 0) = false) (hy : (y.length == 0) = false) (hz : (x ++ y).length ≤ sizeLine) : ObOK prog w ⟨.call (.builtin "str.__add__") ⟨[.str x t, .str y u], []⟩, P, tk, .str (x ++ y) tk, 1⟩ :=
  ob_gives F.slot_str_add (fun s => typeIs_str s x t) F.entry_str_add (F.args_str_add_2 _ _) (gives_str_add x y t u) fun Q h g d os q => by rw [hx, hy]; exact ⟨hz, q⟩
theorem ob_replace {x y z : Str} {t u v : Tok} {r : Str} (ho : ((Builtin.Str.occurrences x y 0 x.length (x.length + 1)).isEmpty || (y.length == 0 && z.length == 0)) = false) (h0 : (u == 0 || v == 0) = false) (huv : (u == v) = false) (hyz : (y == z) = false) (hl : Builtin.Str.tooLong (x.length + (Builtin.Str.occurrences x y 0 x.length (x.length + 1)).length * z.length) = false)
    (hr : Builtin.Str.glued z (Builtin.Str.partsBetween x (Builtin.Str.occurrences x y 0 x.length (x.length + 1)) y.length) = r) (hz : r.length ≤ sizeLine) : ObOK prog w ⟨.call (.builtin "str.replace") ⟨[.str x t, .str y u, .str z v], []⟩, P, tk, .str r tk, 1⟩ :=
  ob_gives F.slot_str_replace (fun s => typeIs_str s x t) F.entry_str_replace (F.args_str_replace_3 _ _ _) (gives_str_replace x y z t u v fun _ => ⟨h0, huv, hyz, hl⟩) fun Q h g d os q => by
    rw [ho, if_neg Bool.false_ne_true]; subst hr; exact ⟨hz, q⟩
theorem ob_len {x : Str} {t : Tok} (hfit : ¬ (x.length : Int) ≥ 2 ^ 63) : ObOK prog w ⟨.call (.builtin "len") ⟨[.str x t], []⟩, P, tk, .int x.length (tk + 1), 2⟩ := by
  intro A R h g d os _ _ hR
  refine codeAny_of_tree ?_
  refine opP (.again (.builtin "len" ⟨[.str x t], []⟩)) (by kernel_rfl) ?_
  refine ⟨by kernel_rfl, codeAny_builtin entry_len ?_⟩
  unfold Builtin.«len»
  refine wpAny_bind (m := oneArg "len" _) (wpAny_pure ?_)
  refine wpAny_bind (m := callSpecial? (.str x t) (Str.ofString "__len__")) (wpAny_callSpecial?_slot (name := Str.ofString "__len__") (typeIs_str _ x t) F.slot_str_len (call_gives F.slot_str_len (typeIs_str _ x t) F.entry_str_len (F.args_str_len_1 _) (gives_str_len x t) ?_))
  show wpAny _ _ _ _ _ ⟨h, g, d, tk + 1, os⟩
  refine wpAny_bind (wpAny_holding (wpAny_pure ?_))
  refine wpAny_bind (wpAny_letGo ?_)
  show wpAny _ _ (if (x.length : Int) < 0 then _ else _) _ _ _
  rw [if_neg (by omega)]
  show wpAny _ _ (if (x.length : Int) ≥ 2 ^ 63 then _ else _) _ _ _
  rw [if_neg hfit]
  exact wpAny_bind (wpAny_mkInt (wpAny_pure hR))
noncomputable def sliceO (l u st : Value) : Obj := ⟨.type "slice", none, .fields #[l, u, st], #[]⟩
theorem ob_slice {x : Str} {t : Tok} {a : Addr} {l u st : Option (Int × Tok)} {r : Str} (h0 : ((st.map (·.1)).getD 1 == 0) = false) (h1 : ((st.map (·.1)).getD 1 == 1 && (slicePicked x l u st).length == x.length) = false)
    (hr : (⟨((slicePicked x l u st).filterMap (x.cps[·]?)).toArray⟩ : Str) = r) (hz : r.length ≤ sizeLine) :
    ObOK prog w ⟨.call (.builtin "str.__getitem__") ⟨[.str x t, .ref a], []⟩, [(a, sliceO (partValue l) (partValue u) (partValue st))], tk, .str r tk, 1⟩ := by
  intro A R h g d os _ H hR
  refine codeAny_call_builtin F.slot_str_getitem.plain F.entry_str_getitem (F.slot_str_getitem.check _ _ _ _ _ _ _ _ (typeIs_str _ x t) (F.args_str_getitem_2 _ _) (meets_str_getitem_slice x t a l u st h0 prog w A R _ ⟨⟨_, H.at_ _ (.head _), rfl, rfl⟩, ?_⟩))
  unfold sliceMade
  rw [h1, if_neg Bool.false_ne_true]
  subst hr
  exact ⟨hz, hR⟩
theorem ob_ieq {x y : Int} {t u : Tok} {b : Bool} (hb : (x == y) = b) : ObOK prog w ⟨.call (.builtin "int.__eq__") ⟨[.int x t, .int y u], []⟩, P, tk, .bool b, 0⟩ :=
  ob_gives F.slot_int_eq (fun s => typeIs_int s x t) F.entry_int_eq (F.args_int_eq_2 _ _) (gives_int_eq x y t u) fun Q h g d os q => by subst hb; exact q
theorem ob_ilt {x y : Int} {t u : Tok} {b : Bool} (hb : decide (x < y) = b) : ObOK prog w ⟨.call (.builtin "int.__lt__") ⟨[.int x t, .int y u], []⟩, P, tk, .bool b, 0⟩ :=
  ob_gives F.slot_int_lt (fun s => typeIs_int s x t) F.entry_int_lt (F.args_int_lt_2 _ _) (gives_int_lt x y t u) fun Q h g d os q => by subst hb; exact q
theorem ob_imul {x y r : Int} {t u : Tok} (hm : IntMulOk x y) (hr : x * y = r) : ObOK prog w ⟨.call (.builtin "int.__mul__") ⟨[.int x t, .int y u], []⟩, P, tk, .int r tk, 1⟩ :=
  ob_gives F.slot_int_mul (fun s => typeIs_int s x t) F.entry_int_mul (F.args_int_mul_2 _ _) (gives_int_mul x y t u hm) fun Q h g d os q => by subst hr; exact q
theorem ob_ifdiv {x y r : Int} {t u : Tok} (h0 : (y == 0) = false) (h1 : Builtin.divisionGoesByPylong x y = false) (hr : x.fdiv y = r) : ObOK prog w ⟨.call (.builtin "int.__floordiv__") ⟨[.int x t, .int y u], []⟩, P, tk, .int r tk, 1⟩ :=
  ob_gives F.slot_int_floordiv (fun s => typeIs_int s x t) F.entry_int_floordiv (F.args_int_floordiv_2 _ _) (AutoIntG4.int___floordiv___int_int_1 x t y u (by rw [h0]; simp) (by rw [h1]; simp)) fun Q h g d os q => by subst hr; exact q
theorem ob_imod {x y r : Int} {t u : Tok} (h0 : (y == 0) = false) (hr : x.fmod y = r) : ObOK prog w ⟨.call (.builtin "int.__mod__") ⟨[.int x t, .int y u], []⟩, P, tk, .int r tk, 1⟩ :=
  ob_gives F.slot_int_mod (fun s => typeIs_int s x t) F.entry_int_mod (F.args_int_mod_2 _ _) (AutoIntG6.int___mod___int_int_1 x t y u (by rw [h0]; simp)) fun Q h g d os q => by subst hr; exact q
theorem ob_ipow {y r : Int} {t u : Tok} (h0 : y ≥ 0) (h1 : (y == 0) = false) (h2 : Builtin.Int.intTooBig (((Builtin.Int.intBits 2 : Nat) : Int) * y) = false) (hr : (2 : Int) ^ y.toNat = r) : ObOK prog w ⟨.call (.builtin "int.__pow__") ⟨[.int 2 t, .int y u], []⟩, P, tk, .int r tk, 1⟩ :=
  ob_gives F.slot_int_pow (fun s => typeIs_int s 2 t) F.entry_int_pow (F.args_int_pow_2 _ _) (AutoIntG2.int___pow___int_int_4 2 t y u h0 (by rw [h1]; simp) (by decide) (by decide) (by rw [h2]; simp)) fun Q h g d os q => by subst hr; exact q
theorem ob_ipow0 {y : Int} {t u : Tok} (h1 : (y == 0) = true) : ObOK prog w ⟨.call (.builtin "int.__pow__") ⟨[.int 2 t, .int y u], []⟩, P, tk, .int 1 tk, 1⟩ :=
  ob_gives F.slot_int_pow (fun s => typeIs_int s 2 t) F.entry_int_pow (F.args_int_pow_2 _ _) (AutoIntG9.int___pow___int_int_0 2 t y u (by have := eq_of_beq h1; omega) h1) fun Q h g d os q => q
end
end Mine
end
section
namespace Mine
set_option maxHeartbeats 8000000
abbrev PG : Program := PySem.Challenge.rw_op0083_01.row.prog
theorem ObAll.nil {prog : Program} {w : World} : ObAll prog w [] := trivial
theorem ObAll.cons {prog : Program} {w : World} {o : Ob} {l : List Ob} (h : ObOK prog w o) (t : ObAll prog w l) : ObAll prog w (o :: l) := ⟨h, t⟩
/-- a part of the heap that stands as it stood: all else stands too -/
theorem Sg.keep {L0 L P : List (Addr × Obj)} {h0 h h' : Heap} {N N' : Nat} (S : Sg L0 h0 L N h) (H : Lg P h) (T : Sg P h P N' h') : Sg L0 h0 L N' h' := by
  have k : ∀ b o, h.get? b = some o → h'.get? b = some o := fun b o e => by
    by_cases hb : b ∈ P.map (·.1)
    · obtain ⟨p, hp, rfl⟩ := List.mem_map.mp hb
      have e1 := H.at_ p hp
      rw [e1] at e
      cases e
      exact T.lg.at_ p hp
    · exact T.kp b o e hb
  exact ⟨⟨fun p hp => k _ _ (S.lg.at_ p hp), S.lg.nd⟩, T.sz, fun b o e n => k b o (S.kp b o e n), Nat.le_trans S.le (S.sz ▸ T.le), S.cv⟩
noncomputable def occ (x y : Str) : List Nat := Builtin.Str.occurrences x y 0 x.length (x.length + 1)
noncomputable def repl (x y z : Str) : Str := Builtin.Str.glued z (Builtin.Str.partsBetween x (occ x y) y.length)
noncomputable def has (x y : Str) : Bool := !(Builtin.Str.occurrences x y 0 x.length 1).isEmpty
noncomputable def okR (x y z : Str) : Bool := !((occ x y).isEmpty || (y.length == 0 && z.length == 0)) && (!(y == z) && (!Builtin.Str.tooLong (x.length + (occ x y).length * z.length) && Nat.ble (repl x y z).length 100000))
section
variable {w : World}
theorem oIn {b : Bool} (x : Str) (t : Tok) (y : Str) (u : Tok) (tk : Nat) (h : has x y = b) : ObOK PG w ⟨.call (.builtin "str.__contains__") ⟨[.str x t, .str y u], []⟩, [], tk, .bool b, 0⟩ := ob_in h
theorem oRe (x : Str) (t : Tok) (y : Str) (u : Tok) (z : Str) (v : Tok) (tk : Nat) (h : okR x y z = true) (h0 : (u == 0 || v == 0) = false) (huv : (u == v) = false) : ObOK PG w ⟨.call (.builtin "str.replace") ⟨[.str x t, .str y u, .str z v], []⟩, [], tk, .str (repl x y z) tk, 1⟩ := by
  unfold okR at h
  simp only [Bool.and_eq_true, Bool.not_eq_true'] at h
  obtain ⟨h1, h2, h3, h4⟩ := h
  refine ob_replace h1 h0 huv h2 h3 rfl (Nat.le_trans (Nat.ble_eq.mp h4) ?_)
  rw [sizeLine_eq]; omega
end
noncomputable def sA : Str := Str.ofString "&"
noncomputable def sLt : Str := Str.ofString "<"
noncomputable def sGt : Str := Str.ofString ">"
noncomputable def sDot : Str := Str.ofString "."
noncomputable def sQ : Str := Str.ofString "\""
noncomputable def sAmp : Str := Str.ofString "&amp;"
noncomputable def sAm : Str := Str.ofString "amp;"
noncomputable def sLtR : Str := Str.ofString "&lt;"
noncomputable def sAL : Str := Str.ofString "&<"
noncomputable def sRw : Str := Str.ofString "rwxst"
noncomputable def g1 (x : Str) : Str := repl x sA sAmp
noncomputable def g2 (x : Str) : Str := repl (g1 x) sAm sLt
noncomputable def okG (x : Str) : Bool := has x sA && (okR x sA sAmp && (!has (g1 x) sGt && (!has (g1 x) sQ && okR (g1 x) sAm sLt)))
noncomputable def b1 (x : Str) : Str := repl x sA sDot
noncomputable def b2 (x : Str) : Str := repl (b1 x) sLt sA
noncomputable def b3 (x : Str) : Str := repl (b2 x) sDot sLt
noncomputable def b4 (x : Str) : Str := repl (b3 x) sA sAmp
noncomputable def b5 (x : Str) : Str := repl (b4 x) sLt sLtR
noncomputable def b6 (x : Str) : Str := repl (b5 x) sLtR sA
noncomputable def b7 (x : Str) : Str := repl (b6 x) sAmp sAL
noncomputable def okB (x : Str) : Bool := okR x sA sDot && (okR (b1 x) sLt sA && (okR (b2 x) sDot sLt && (has (b3 x) sA && (okR (b3 x) sA sAmp && (has (b4 x) sLt && (okR (b4 x) sLt sLtR && (!has (b5 x) sGt && (okR (b5 x) sLtR sA && okR (b6 x) sAmp sAL))))))))
noncomputable def led (b : Bool) (x : Str) : Str := if b then g2 x else b7 x
noncomputable def okL (b : Bool) (x : Str) : Bool := if b then okG x else okB x
noncomputable def LG (w : World) : List (Addr × Obj) := [(2, ob w 2), (105, ob w 105), (104, ob w 104), (3, ob w 3), (35, ob w 35), (34, ob w 34), (28, ob w 28), (27, ob w 27)]
/-- the tree of a call of the top's function at place a -/
noncomputable def fnT (w : World) (a : Addr) (args : List Value) : Sem Fin := enterT (fdOf (ob w a)) ((bodyAt (fdOf (ob w a))).getD []) a ⟨args, []⟩
theorem led_call {D : Nat} {w : World} {h : Heap} {g : Array GenState} {d : Drawn} {tk : Nat} {os : OsState} {N : Nat} {A : Around} {R : Result → Shared → Prop} {b : Bool} {x r : Str} {t u : Tok}
    (hD : D ≤ 780) (hA : Bd D A) (H : Lg (LG w) h) (hN : h.objs.size = N) (hr : has sRw r = b) (hx : okL b x = true)
    (hR : ∀ h' N' tk' t', Sg (LG w) h (LG w) N' h' → tk ≤ tk' → R (.ok (.ret (.str (led b x) t'))) ⟨h', g, d, tk', os⟩) :
    codeAny (model PG w) A (.call (.ref 105) ⟨[.str x t, .str r u], []⟩) R ⟨h, g, d, tk, os⟩ := by
  have S : Sg (LG w) h (LG w) N h := Sg.start H hN
  have n1 : ∀ a b : Nat, a ≠ b → ((tk + a : Nat) == tk + b) = false := fun a b n => by
    rw [beq_eq_false_iff_ne]; omega
  refine opCode (some (1, 2)) (fnT w 105 [.str x t, .str r u]) 1 [105, 104] hD hA S (by kernel_rfl) fun A1 a1 W hW => ?_
  cases b with
  | true =>
    unfold okL at hx
    rw [if_pos rfl] at hx
    unfold okG at hx
    simp only [Bool.and_eq_true, Bool.not_eq_true'] at hx
    obtain ⟨k1, k2, k3, k4, k5⟩ := hx
    refine opX hW hD a1 S 0 [.go [.al, .fr, .ld 8, .up 8, .fr, .ld 8, .up 8], .ag none, .go [.ld 8, .fr], .ct (.bool true) 0 [], .go [.ld 3, .ld 8, .ld 4], .cl (some (4, 5)), .go [.al, .fr, .ld 9, .up 9], .ag none, .go [.fr, .ld 9], .ct (.bool true) 0 [], .go [.ld 9, .fr, .fr], .ct (.str (g1 x) (tk + 7)) 1 [], .go [.fr, .ld 9, .up 9, .fr, .ld 9], .ct (.bool false) 0 [], .go [.fr, .ld 9], .ct (.bool false) 0 [], .go [.ld 9], .rt, .go [.fr, .fr], .ct (.str (g2 x) (tk + 13)) 1 [], .rt]
      [0, 1, 2, 3, 4, 5, 6, 7] _ (.ok (.ret (.str (g2 x) (tk + 13)))) (LG w) (N + 2) (tk + 14) (fun _ => by kernel_rfl) (by decide)
      (.cons (oIn sRw (tk + 2) r u (tk + 3) hr) <| .cons (oIn x t sA (tk + 4) (tk + 5) k1) <| .cons (oRe x t sA (tk + 5) sAmp (tk + 6) (tk + 7) k2 (by simp) (n1 5 6 (by decide))) <|
        .cons (oIn (g1 x) (tk + 7) sGt (tk + 9) (tk + 10) k3) <| .cons (oIn (g1 x) (tk + 7) sQ (tk + 10) (tk + 11) k4) <| .cons (oRe (g1 x) (tk + 7) sAm (tk + 11) sLt (tk + 12) (tk + 13) k5 (by simp) (n1 11 12 (by decide))) .nil) fun h' S' => hR h' _ _ _ S' (Nat.le_add_right ..)
  | false =>
    unfold okL at hx
    rw [if_neg Bool.false_ne_true] at hx
    unfold okB at hx
    simp only [Bool.and_eq_true, Bool.not_eq_true'] at hx
    obtain ⟨k1, k2, k3, k4, k5, k6, k7, k8, k9, k10⟩ := hx
    refine opX hW hD a1 S 0 [.go [.al, .fr, .ld 8, .up 8, .fr, .ld 8, .up 8], .ag none, .go [.ld 8, .fr], .ct (.bool false) 0 [], .go [.ld 8, .fr, .fr], .ct (.str (b1 x) (tk + 5)) 1 [], .go [.fr, .fr], .ct (.str (b2 x) (tk + 8)) 1 [], .go [.fr, .fr], .ct (.str (b3 x) (tk + 11)) 1 [], .go [.fr, .ld 8, .up 8, .ld 3, .ld 8, .ld 6], .cl (some (6, 7)), .go [.al, .fr, .ld 9, .up 9], .ag none, .go [.fr, .ld 9], .ct (.bool true) 0 [],
        .go [.ld 9, .fr, .fr], .ct (.str (b4 x) (tk + 17)) 1 [], .go [.fr, .ld 9, .up 9, .fr, .ld 9], .ct (.bool true) 0 [], .go [.ld 9, .fr, .fr], .ct (.str (b5 x) (tk + 22)) 1 [], .go [.fr, .ld 9, .up 9, .fr, .ld 9], .ct (.bool false) 0 [], .go [.ld 9], .rt, .go [.fr, .fr], .ct (.str (b6 x) (tk + 27)) 1 [], .go [.fr, .fr], .ct (.str (b7 x) (tk + 30)) 1 [], .rt]
      [0, 1, 2, 3, 4, 5, 6, 7] _ (.ok (.ret (.str (b7 x) (tk + 30)))) (LG w) (N + 2) (tk + 31) (fun _ => by kernel_rfl) (by decide)
      (.cons (oIn sRw (tk + 2) r u (tk + 3) hr) <| .cons (oRe x t sA (tk + 3) sDot (tk + 4) (tk + 5) k1 (by simp) (n1 3 4 (by decide))) <| .cons (oRe (b1 x) (tk + 5) sLt (tk + 6) sA (tk + 7) (tk + 8) k2 (by simp) (n1 6 7 (by decide))) <|
        .cons (oRe (b2 x) (tk + 8) sDot (tk + 9) sLt (tk + 10) (tk + 11) k3 (by simp) (n1 9 10 (by decide))) <| .cons (oIn (b3 x) (tk + 11) sA (tk + 14) (tk + 15) k4) <| .cons (oRe (b3 x) (tk + 11) sA (tk + 15) sAmp (tk + 16) (tk + 17) k5 (by simp) (n1 15 16 (by decide))) <|
        .cons (oIn (b4 x) (tk + 17) sLt (tk + 19) (tk + 20) k6) <| .cons (oRe (b4 x) (tk + 17) sLt (tk + 20) sLtR (tk + 21) (tk + 22) k7 (by simp) (n1 20 21 (by decide))) <| .cons (oIn (b5 x) (tk + 22) sGt (tk + 24) (tk + 25) k8) <|
        .cons (oRe (b5 x) (tk + 22) sLtR (tk + 25) sA (tk + 26) (tk + 27) k9 (by simp) (n1 25 26 (by decide))) <| .cons (oRe (b6 x) (tk + 27) sAmp (tk + 28) sAL (tk + 29) (tk + 30) k10 (by simp) (n1 28 29 (by decide))) .nil) fun h' S' => hR h' _ _ _ S' (Nat.le_add_right ..)
end Mine
end
section
namespace Mine
set_option maxHeartbeats 8000000
noncomputable def strItO (s : Value) (i : Int) : Obj := ⟨.type "str_ascii_iterator", none, .fields #[s, rawInt i], #[]⟩
theorem str_iter {w : World} {h0 h : Heap} {L0 L : List (Addr × Obj)} {N : Nat} {g : Array GenState} {d : Drawn} {tk : Nat} {os : OsState} {A : Around} {R : Result → Shared → Prop} {s : Str} {t : Tok} (hs : s.cps.all (· < 128) = true) (S : Sg L0 h0 L N h)
    (hR : ∀ h', Sg L0 h0 (L ++ [(N, strItO (.str s t) 0)]) (N + 1) h' → R (.ok (.ret (.ref N))) ⟨h', g, d, tk, os⟩) : codeAny (model PG w) A (.call (.builtin "str.__iter__") ⟨[.str s t], []⟩) R ⟨h, g, d, tk, os⟩ := by
  refine codeAny_of_tree ?_
  refine opP (.again (.builtin "str.__iter__" ⟨[.str s t], []⟩)) (by kernel_rfl) ?_
  refine ⟨by kernel_rfl, codeAny_builtin F.entry_str_iter ?_⟩
  unfold Builtin.«str.__iter__»
  refine wpAny_bind (opP (.str s t, s, []) (by kernel_rfl) ?_)
  dsimp only
  rw [hs, Bool.and_true]
  exact opS S [.al] (.done (.ret (.ref N))) (L ++ [(N, strItO (.str s t) 0)]) (N + 1) tk (by kernel_rfl) (by kernel_rfl) hR
noncomputable def LR (w : World) : List (Addr × Obj) := [(2, ob w 2), (51, ob w 51), (50, ob w 50), (3, ob w 3), (44, ob w 44), (0, ob w 0), (105, ob w 105), (104, ob w 104), (35, ob w 35), (34, ob w 34), (28, ob w 28), (27, ob w 27)]
theorem LR_LG (w : World) (X : List (Addr × Obj)) : pick (LR w ++ X) [0, 6, 7, 3, 8, 9, 10, 11] = LG w := by kernel_rfl
/-- the frame of reduce -/
noncomputable def frR (w : World) (tk N : Nat) (s : Str) (t : Tok) (x0 : Str) (t0 : Tok) (more : List DictEntry) (n : Nat) : Obj := frO ([en w "function" tk (.ref 105), en w "sequence" (tk + 1) (.str s t), en w "initial" (tk + 2) (.str x0 t0)] ++ more) n
noncomputable def frV (w : World) (tk N : Nat) (x : Str) (tx : Tok) : List DictEntry := [en w "it" (tk + 3) (.ref (N + 1)), en w "value" (tk + 4) (.str x tx)]
noncomputable def chS (c : Nat) : Str := ⟨#[c]⟩
noncomputable def LRd (w : World) (tk N : Nat) (s : Str) (t : Tok) (x0 : Str) (t0 : Tok) (x : Str) (tx : Tok) (c : Nat) (tc : Tok) (i : Int) : List (Addr × Obj) :=
  [(N, frR w tk N s t x0 t0 (frV w tk N x tx ++ [en w "element" (tk + 6) (.str (chS c) tc)]) 6), (N + 1, strItO (.str s t) i)]
noncomputable def folded (bs : List Bool) (x : Str) : Str := bs.foldl (fun x b => led b x) x
noncomputable def okF : List Bool → Str → Bool
  | [], _ => true
  | b :: bs, x => okL b x && okF bs (led b x)
theorem red_call {D : Nat} {w : World} {h : Heap} {g : Array GenState} {d : Drawn} {tk : Nat} {os : OsState} {N : Nat} {A : Around} {R : Result → Shared → Prop} {x0 : Str} {t t0 : Tok} {c0 c1 c2 c3 c4 c5 : Nat} {q0 q1 q2 q3 q4 q5 : Bool}
    (hD : D ≤ 720) (hA : Bd D A) (H : Lg (LR w) h) (hN : h.objs.size = N) (hs : (⟨#[c0, c1, c2, c3, c4, c5]⟩ : Str).cps.all (· < 128) = true)
    (e0 : has sRw (chS c0) = q0) (e1 : has sRw (chS c1) = q1) (e2 : has sRw (chS c2) = q2) (e3 : has sRw (chS c3) = q3) (e4 : has sRw (chS c4) = q4) (e5 : has sRw (chS c5) = q5) (hx : okF [q0, q1, q2, q3, q4, q5] x0 = true)
    (hR : ∀ h' N' tk' t', Sg (LR w) h (LR w) N' h' → tk ≤ tk' → R (.ok (.ret (.str (folded [q0, q1, q2, q3, q4, q5] x0) t'))) ⟨h', g, d, tk', os⟩) :
    codeAny (model PG w) A (.call (.ref 51) ⟨[.ref 105, .str ⟨#[c0, c1, c2, c3, c4, c5]⟩ t, .str x0 t0], []⟩) R ⟨h, g, d, tk, os⟩ := by
  generalize hss : (⟨#[c0, c1, c2, c3, c4, c5]⟩ : Str) = s at hs ⊢
  have S : Sg (LR w) h (LR w) N h := Sg.start H hN
  simp only [okF, Bool.and_eq_true, Bool.and_true] at hx
  obtain ⟨k0, k1, k2, k3, k4, k5⟩ := hx
  refine opCode (some (1, 2)) (fnT w 51 [.ref 105, .str s t, .str x0 t0]) 1 [51, 50] (by first | exact dD hD rfl | exact dD0 hD rfl | omega) hA S (by kernel_rfl) fun A1 a1 W hW => ?_
  refine opM hW (by first | exact dD hD rfl | exact dD0 hD rfl | omega) a1 S 0 [.go [.ld 4, .al, .fr, .ld 12, .up 12, .fr, .ld 12, .up 12, .fr, .ld 12, .up 12], .ag none, .go [.ld 3, .ld 5, .ld 12], .cl none, .ag none] [0, 1, 2, 3, 4, 5, 6, 7, 8, 9, 10, 11, 12] [] (.call (.builtin "str.__iter__") ⟨[.str s t], []⟩)
    (LR w ++ [(N, frR w tk N s t x0 t0 [] 3)]) (N + 1) (tk + 3) (fun b => by cases b <;> kernel_rfl) (by decide) .nil fun W0 hW0 h1 S1 A2 a2 => ?_
  refine str_iter hs S1 fun h2 S2 => ?_
  subst hss
  refine opM (hW0 _) (by first | exact dD hD rfl | exact dD0 hD rfl | omega) a1 S2 0 [.go [.ld 13], .rt, .go [.fr, .ld 12, .up 12, .ld 12, .ld 3, .ld 12, .fr, .ld 12, .up 12, .ld 12, .ld 13, .ld 13], .cl none, .go [.ld 13], .ag none, .rt, .go [.ld 13], .cl none, .go [.ld 13], .cl none, .go [.ld 13], .ag none, .go [.ld 13, .ld 13, .ld 13, .up 13, .fr], .rt, .go [.fr, .ld 12, .up 12, .ld 12, .ld 12, .ld 12, .ld 6]] [0, 1, 2, 3, 4, 5, 6, 7, 8, 9, 10, 11, 12, 13] [] (.call (.ref 105) ⟨[.str x0 t0, .str (chS c0) (tk + 5)], []⟩)
    (LR w ++ LRd w tk N ⟨#[c0, c1, c2, c3, c4, c5]⟩ t x0 t0 x0 t0 c0 (tk + 5) 1) (N + 2) (tk + 7) (fun b => by cases b <;> kernel_rfl) (by decide) .nil fun W1 hW1 g0 Y0 A3 b0 => ?_
  refine led_call (D := D + 60) (by first | exact dD hD rfl | exact dD0 hD rfl | omega) b0 (LR_LG w _ ▸ Y0.lg.pick (is := [0, 6, 7, 3, 8, 9, 10, 11]) (by decide)) Y0.sz e0 k0 fun f0 N1 tk1 u1 V0 l0 => ?_
  have Z1 := Y0.keep (LR_LG w _ ▸ Y0.lg.pick (is := [0, 6, 7, 3, 8, 9, 10, 11]) (by decide)) V0
  refine opM (hW1 _) (by first | exact dD hD rfl | exact dD0 hD rfl | omega) a1 Z1 0 [.go [.fr, .ld 12, .up 12], .ag none, .go [.ld 13], .cl none, .go [.ld 13], .ag none, .go [.ld 13, .ld 13, .ld 13, .up 13, .fr], .rt, .go [.fr, .ld 12, .up 12, .ld 12, .ld 12, .ld 12, .ld 6]] [0, 1, 2, 3, 4, 5, 6, 7, 8, 9, 10, 11, 12, 13] [] (.call (.ref 105) ⟨[.str (folded [q0] x0) u1, .str (chS c1) (tk1 + 1)], []⟩)
    (LR w ++ LRd w tk N ⟨#[c0, c1, c2, c3, c4, c5]⟩ t x0 t0 (folded [q0] x0) u1 c1 (tk1 + 1) 2) N1 (tk1 + 3) (fun b => by cases b <;> kernel_rfl) (by decide) .nil fun W2 hW2 g1 Y1 A4 b1 => ?_
  refine led_call (D := D + 60) (by first | exact dD hD rfl | exact dD0 hD rfl | omega) b1 (LR_LG w _ ▸ Y1.lg.pick (is := [0, 6, 7, 3, 8, 9, 10, 11]) (by decide)) Y1.sz e1 k1 fun f1 N2 tk2 u2 V1 l1 => ?_
  have Z2 := Y1.keep (LR_LG w _ ▸ Y1.lg.pick (is := [0, 6, 7, 3, 8, 9, 10, 11]) (by decide)) V1
  refine opM (hW2 _) (by first | exact dD hD rfl | exact dD0 hD rfl | omega) a1 Z2 0 [.go [.fr, .ld 12, .up 12], .ag none, .go [.ld 13], .cl none, .go [.ld 13], .ag none, .go [.ld 13, .ld 13, .ld 13, .up 13, .fr], .rt, .go [.fr, .ld 12, .up 12, .ld 12, .ld 12, .ld 12, .ld 6]] [0, 1, 2, 3, 4, 5, 6, 7, 8, 9, 10, 11, 12, 13] [] (.call (.ref 105) ⟨[.str (folded [q0, q1] x0) u2, .str (chS c2) (tk2 + 1)], []⟩)
    (LR w ++ LRd w tk N ⟨#[c0, c1, c2, c3, c4, c5]⟩ t x0 t0 (folded [q0, q1] x0) u2 c2 (tk2 + 1) 3) N2 (tk2 + 3) (fun b => by cases b <;> kernel_rfl) (by decide) .nil fun W3 hW3 g2 Y2 A5 b2 => ?_
  refine led_call (D := D + 60) (by first | exact dD hD rfl | exact dD0 hD rfl | omega) b2 (LR_LG w _ ▸ Y2.lg.pick (is := [0, 6, 7, 3, 8, 9, 10, 11]) (by decide)) Y2.sz e2 k2 fun f2 N3 tk3 u3 V2 l2 => ?_
  have Z3 := Y2.keep (LR_LG w _ ▸ Y2.lg.pick (is := [0, 6, 7, 3, 8, 9, 10, 11]) (by decide)) V2
  refine opM (hW3 _) (by first | exact dD hD rfl | exact dD0 hD rfl | omega) a1 Z3 0 [.go [.fr, .ld 12, .up 12], .ag none, .go [.ld 13], .cl none, .go [.ld 13], .ag none, .go [.ld 13, .ld 13, .ld 13, .up 13, .fr], .rt, .go [.fr, .ld 12, .up 12, .ld 12, .ld 12, .ld 12, .ld 6]] [0, 1, 2, 3, 4, 5, 6, 7, 8, 9, 10, 11, 12, 13] [] (.call (.ref 105) ⟨[.str (folded [q0, q1, q2] x0) u3, .str (chS c3) (tk3 + 1)], []⟩)
    (LR w ++ LRd w tk N ⟨#[c0, c1, c2, c3, c4, c5]⟩ t x0 t0 (folded [q0, q1, q2] x0) u3 c3 (tk3 + 1) 4) N3 (tk3 + 3) (fun b => by cases b <;> kernel_rfl) (by decide) .nil fun W4 hW4 g3 Y3 A6 b3 => ?_
  refine led_call (D := D + 60) (by first | exact dD hD rfl | exact dD0 hD rfl | omega) b3 (LR_LG w _ ▸ Y3.lg.pick (is := [0, 6, 7, 3, 8, 9, 10, 11]) (by decide)) Y3.sz e3 k3 fun f3 N4 tk4 u4 V3 l3 => ?_
  have Z4 := Y3.keep (LR_LG w _ ▸ Y3.lg.pick (is := [0, 6, 7, 3, 8, 9, 10, 11]) (by decide)) V3
  refine opM (hW4 _) (by first | exact dD hD rfl | exact dD0 hD rfl | omega) a1 Z4 0 [.go [.fr, .ld 12, .up 12], .ag none, .go [.ld 13], .cl none, .go [.ld 13], .ag none, .go [.ld 13, .ld 13, .ld 13, .up 13, .fr], .rt, .go [.fr, .ld 12, .up 12, .ld 12, .ld 12, .ld 12, .ld 6]] [0, 1, 2, 3, 4, 5, 6, 7, 8, 9, 10, 11, 12, 13] [] (.call (.ref 105) ⟨[.str (folded [q0, q1, q2, q3] x0) u4, .str (chS c4) (tk4 + 1)], []⟩)
    (LR w ++ LRd w tk N ⟨#[c0, c1, c2, c3, c4, c5]⟩ t x0 t0 (folded [q0, q1, q2, q3] x0) u4 c4 (tk4 + 1) 5) N4 (tk4 + 3) (fun b => by cases b <;> kernel_rfl) (by decide) .nil fun W5 hW5 g4 Y4 A7 b4 => ?_
  refine led_call (D := D + 60) (by first | exact dD hD rfl | exact dD0 hD rfl | omega) b4 (LR_LG w _ ▸ Y4.lg.pick (is := [0, 6, 7, 3, 8, 9, 10, 11]) (by decide)) Y4.sz e4 k4 fun f4 N5 tk5 u5 V4 l4 => ?_
  have Z5 := Y4.keep (LR_LG w _ ▸ Y4.lg.pick (is := [0, 6, 7, 3, 8, 9, 10, 11]) (by decide)) V4
  refine opM (hW5 _) (by first | exact dD hD rfl | exact dD0 hD rfl | omega) a1 Z5 0 [.go [.fr, .ld 12, .up 12], .ag none, .go [.ld 13], .cl none, .go [.ld 13], .ag none, .go [.ld 13, .ld 13, .ld 13, .up 13, .fr], .rt, .go [.fr, .ld 12, .up 12, .ld 12, .ld 12, .ld 12, .ld 6]] [0, 1, 2, 3, 4, 5, 6, 7, 8, 9, 10, 11, 12, 13] [] (.call (.ref 105) ⟨[.str (folded [q0, q1, q2, q3, q4] x0) u5, .str (chS c5) (tk5 + 1)], []⟩)
    (LR w ++ LRd w tk N ⟨#[c0, c1, c2, c3, c4, c5]⟩ t x0 t0 (folded [q0, q1, q2, q3, q4] x0) u5 c5 (tk5 + 1) 6) N5 (tk5 + 3) (fun b => by cases b <;> kernel_rfl) (by decide) .nil fun W6 hW6 g5 Y5 A8 b5 => ?_
  refine led_call (D := D + 60) (by first | exact dD hD rfl | exact dD0 hD rfl | omega) b5 (LR_LG w _ ▸ Y5.lg.pick (is := [0, 6, 7, 3, 8, 9, 10, 11]) (by decide)) Y5.sz e5 k5 fun f5 N6 tk6 u6 V5 l5 => ?_
  have Z6 := Y5.keep (LR_LG w _ ▸ Y5.lg.pick (is := [0, 6, 7, 3, 8, 9, 10, 11]) (by decide)) V5
  exact opX (hW6 _) (by first | exact dD hD rfl | exact dD0 hD rfl | omega) a1 Z6 0 [.go [.fr, .ld 12, .up 12], .ag none, .go [.ld 13], .cl none, .go [.ld 13], .ag none, .go [.ld 13, .ld 13, .ld 13, .up 13, .al, .al], .hd, .rt, .go [.ld 15], .ag none, .rt, .go [.ld 12], .rt] [0, 1, 2, 3, 4, 5, 6, 7, 8, 9, 10, 11] [] (.ok (.ret (.str (folded [q0, q1, q2, q3, q4, q5] x0) u6))) (LR w) (N6 + 2) (tk6 + 1) (fun b => by cases b <;> kernel_rfl) (by decide) .nil fun h' S' => hR h' _ _ _ S' (by omega)
end Mine
end
section
namespace Mine
set_option maxHeartbeats 8000000
noncomputable def stAt (l : List Stmt) (n : Nat) : Stmt := l.getD n (.Pass default)
noncomputable def forTg : Stmt → Expr
  | .For t _ _ _ _ => t
  | _ => .Constant .none 0 default
noncomputable def forBd : Stmt → List Stmt
  | .For _ _ b _ _ => b
  | _ => []
/-- the frame's env of a top function without cells: its statement, its place and its code's -/
noncomputable def envT (st : Stmt) (a cA N : Nat) (cells : List (Str × Addr)) : Env := { scope := scopeOf st, locals := N, globals := 3, cells := cells, qual := (nameOfS st) ++ Str.ofString ".<locals>.", func := some a, code := .ref cA, frame := some N, builtins := 0 }
noncomputable def rgItO (x l st : Int) : Obj := ⟨.type "range_iterator", none, .fields #[rawInt x, rawInt l, rawInt st], #[]⟩
noncomputable def nuS : Stmt := topSt 33
theorem nuS_name : nameOfS nuS = Str.ofString "_law_numbers" := by kernel_rfl
noncomputable def nuF : Stmt := stAt (bodyOf nuS) 1
noncomputable def nuC (N : Nat) (it : Addr) : Code := .forLoop (forTg nuF) (.ref it) (forBd nuF) [] (envT nuS 112 111 N [])
noncomputable def LN (w : World) : List (Addr × Obj) := [(2, ob w 2), (112, ob w 112), (111, ob w 111), (3, ob w 3), (0, ob w 0)]
structure Nu where
  t0 : Nat
  m : Int
  tm : Tok
  s : Int
  ts : Tok
  f : Int
  tf : Tok
  p : Int
  tp : Tok
  e : List DictEntry
  n : Nat
noncomputable def Nu.es (x : Nu) (w : World) : List DictEntry := [en w "mode" x.t0 (.int x.m x.tm), en w "start" (x.t0 + 1) (.int x.s x.ts), en w "flat" (x.t0 + 4) (.int x.f x.tf), en w "steep" (x.t0 + 5) (.int x.p x.tp)] ++ x.e
noncomputable def Nu.L (x : Nu) (w : World) (N it : Nat) (a l : Int) : List (Addr × Obj) := LN w ++ [(N, frO (x.es w) x.n), (it, rgItO a l (-1))]
noncomputable def plT (o : Option (Tok × Int × Tok)) (w : World) : List DictEntry := match o with
  | none => []
  | some (k, p, t) => [en w "place" k (.int p t)]
noncomputable def plN (o : Option (Tok × Int × Tok)) : Nat := match o with
  | none => 4
  | some _ => 5
noncomputable def plK (o : Option (Tok × Int × Tok)) (tk : Nat) : Tok := match o with
  | none => tk + 1
  | some (k, _, _) => k
theorem nu_turn {D : Nat} {w : World} {h0 h : Heap} {L0 : List (Addr × Obj)} {g : Array GenState} {d : Drawn} {tk : Nat} {os : OsState} {N it Z : Nat} {A : Around} {R : Result → Shared → Prop} {t0 : Nat} {m s f p : Int} {tm ts tf tp : Tok} {o : Option (Tok × Int × Tok)} {a : Int} {n : Nat} {q : Bool} {pw : Int}
    (hD : D ≤ 780) (hA : Bd D A) (S : Sg L0 h0 (Nu.L ⟨t0, m, tm, s, ts, f, tf, p, tp, plT o w, plN o⟩ w N it a ((n : Int) + 1)) Z h)
    (hp : ∀ t u tk, ObOK PG w ⟨.call (.builtin "int.__pow__") ⟨[.int 2 t, .int (9 - a) u], []⟩, [], tk, .int pw tk, 1⟩) (h0p : (pw == 0) = false) (h1p : Builtin.divisionGoesByPylong m pw = false) (hq : ((m.fdiv pw).fmod 2 == 1) = q)
    (hR : ∀ h' A', Bd D A' → Sg L0 h0 (Nu.L ⟨t0, m, tm, s, ts, if q then f else f + p, if q then tf else tk + 10, if q then p + f else p, if q then tk + 10 else tp, plT (some (plK o tk, a, tk)) w, 5⟩ w N it (a + -1) n) Z h' →
      codeAny (model PG w) A' (nuC N it) R ⟨h', g, d, tk + 12, os⟩) :
    codeAny (model PG w) A (nuC N it) R ⟨h, g, d, tk, os⟩ := by
  have e1 : ((n : Int) + 1 - 1) = n := by omega
  refine opCode none (denF (nuC N it)) 0 [] hD hA S (by kernel_rfl) fun A1 a1 W hW => ?_
  cases o with
  | none =>
    cases q with
    | true =>
      refine opAg hW hD a1 S 0 [.go [.ld 6], .cl none, .go [.ld 6], .ag none, .go [.ld 6, .ld 6, .ld 6, .ld 6, .up 6, .ld 6, .up 6, .fr], .rt, .go [.fr, .ld 5, .up 5, .ld 5, .fr, .fr, .ld 5], .cl none, .ag none, .go [.fr], .rt, .ct (.int pw (tk + 5)) 1 [], .ct (.int (m.fdiv pw) (tk + 6)) 1 [], .go [.fr], .cl none, .ag none, .go [.fr], .rt, .go [.fr], .ct (.bool true) 0 [], .go [.ld 5, .ld 5], .cl none, .ag none, .go [.fr], .rt, .go [.fr, .ld 5, .up 5]]
        [0, 1, 2, 3, 4, 5, 6] _ (nuC N it) (Nu.L ⟨t0, m, tm, s, ts, f, tf, (p + f), (tk + 10), plT (some (tk + 1, a, tk)) w, 5⟩ w N it (a + -1) ((n : Int) + 1 - 1)) Z (tk + 12) (fun b => by cases b <;> kernel_rfl) (by decide)
        (.cons (hp (tk + 2) (tk + 4) (tk + 5)) <| .cons (ob_ifdiv (x := m) (y := pw) (t := tm) (u := tk + 5) (P := []) (tk := tk + 6) h0p h1p rfl) <| .cons (ob_ieq (x := (m.fdiv pw).fmod 2) (y := 1) (t := tk + 8) (u := tk + 9) (P := []) (tk := tk + 10) hq) .nil) fun h' S' A' b' => hR h' A' b' (by rw [e1] at S'; exact S')
    | false =>
      refine opAg hW hD a1 S 0 [.go [.ld 6], .cl none, .go [.ld 6], .ag none, .go [.ld 6, .ld 6, .ld 6, .ld 6, .up 6, .ld 6, .up 6, .fr], .rt, .go [.fr, .ld 5, .up 5, .ld 5, .fr, .fr, .ld 5], .cl none, .ag none, .go [.fr], .rt, .ct (.int pw (tk + 5)) 1 [], .ct (.int (m.fdiv pw) (tk + 6)) 1 [], .go [.fr], .cl none, .ag none, .go [.fr], .rt, .go [.fr], .ct (.bool false) 0 [], .go [.ld 5, .ld 5], .cl none, .ag none, .go [.fr], .rt, .go [.fr, .ld 5, .up 5]]
        [0, 1, 2, 3, 4, 5, 6] _ (nuC N it) (Nu.L ⟨t0, m, tm, s, ts, (f + p), (tk + 10), p, tp, plT (some (tk + 1, a, tk)) w, 5⟩ w N it (a + -1) ((n : Int) + 1 - 1)) Z (tk + 12) (fun b => by cases b <;> kernel_rfl) (by decide)
        (.cons (hp (tk + 2) (tk + 4) (tk + 5)) <| .cons (ob_ifdiv (x := m) (y := pw) (t := tm) (u := tk + 5) (P := []) (tk := tk + 6) h0p h1p rfl) <| .cons (ob_ieq (x := (m.fdiv pw).fmod 2) (y := 1) (t := tk + 8) (u := tk + 9) (P := []) (tk := tk + 10) hq) .nil) fun h' S' A' b' => hR h' A' b' (by rw [e1] at S'; exact S')
  | some o =>
    obtain ⟨k1, p1, t1⟩ := o
    cases q with
    | true =>
      refine opAg hW hD a1 S 0 [.go [.ld 6], .cl none, .go [.ld 6], .ag none, .go [.ld 6, .ld 6, .ld 6, .ld 6, .up 6, .ld 6, .up 6, .fr], .rt, .go [.fr, .ld 5, .up 5, .ld 5, .fr, .fr, .ld 5], .cl none, .ag none, .go [.fr], .rt, .ct (.int pw (tk + 5)) 1 [], .ct (.int (m.fdiv pw) (tk + 6)) 1 [], .go [.fr], .cl none, .ag none, .go [.fr], .rt, .go [.fr], .ct (.bool true) 0 [], .go [.ld 5, .ld 5], .cl none, .ag none, .go [.fr], .rt, .go [.fr, .ld 5, .up 5]]
        [0, 1, 2, 3, 4, 5, 6] _ (nuC N it) (Nu.L ⟨t0, m, tm, s, ts, f, tf, (p + f), (tk + 10), plT (some (k1, a, tk)) w, 5⟩ w N it (a + -1) ((n : Int) + 1 - 1)) Z (tk + 12) (fun b => by cases b <;> kernel_rfl) (by decide)
        (.cons (hp (tk + 2) (tk + 4) (tk + 5)) <| .cons (ob_ifdiv (x := m) (y := pw) (t := tm) (u := tk + 5) (P := []) (tk := tk + 6) h0p h1p rfl) <| .cons (ob_ieq (x := (m.fdiv pw).fmod 2) (y := 1) (t := tk + 8) (u := tk + 9) (P := []) (tk := tk + 10) hq) .nil) fun h' S' A' b' => hR h' A' b' (by rw [e1] at S'; exact S')
    | false =>
      refine opAg hW hD a1 S 0 [.go [.ld 6], .cl none, .go [.ld 6], .ag none, .go [.ld 6, .ld 6, .ld 6, .ld 6, .up 6, .ld 6, .up 6, .fr], .rt, .go [.fr, .ld 5, .up 5, .ld 5, .fr, .fr, .ld 5], .cl none, .ag none, .go [.fr], .rt, .ct (.int pw (tk + 5)) 1 [], .ct (.int (m.fdiv pw) (tk + 6)) 1 [], .go [.fr], .cl none, .ag none, .go [.fr], .rt, .go [.fr], .ct (.bool false) 0 [], .go [.ld 5, .ld 5], .cl none, .ag none, .go [.fr], .rt, .go [.fr, .ld 5, .up 5]]
        [0, 1, 2, 3, 4, 5, 6] _ (nuC N it) (Nu.L ⟨t0, m, tm, s, ts, (f + p), (tk + 10), p, tp, plT (some (k1, a, tk)) w, 5⟩ w N it (a + -1) ((n : Int) + 1 - 1)) Z (tk + 12) (fun b => by cases b <;> kernel_rfl) (by decide)
        (.cons (hp (tk + 2) (tk + 4) (tk + 5)) <| .cons (ob_ifdiv (x := m) (y := pw) (t := tm) (u := tk + 5) (P := []) (tk := tk + 6) h0p h1p rfl) <| .cons (ob_ieq (x := (m.fdiv pw).fmod 2) (y := 1) (t := tk + 8) (u := tk + 9) (P := []) (tk := tk + 10) hq) .nil) fun h' S' A' b' => hR h' A' b' (by rw [e1] at S'; exact S')
noncomputable def nuStep (x : Int × Int) (q : Bool) : Int × Int := (if q then x.1 else x.1 + x.2, if q then x.2 + x.1 else x.2)
noncomputable def nums (qs : List Bool) : Int × Int := qs.foldl nuStep (1, 1)
/-- the mode's bit at a sign's place -/
noncomputable def bitQ (m : Int) (p : Nat) : Bool := (m.fdiv (2 ^ (9 - p))).fmod 2 == 1
end Mine
end
section
namespace Mine
set_option maxHeartbeats 8000000
theorem nu_end {D : Nat} {w : World} {h0 h : Heap} {L0 : List (Addr × Obj)} {g : Array GenState} {d : Drawn} {tk : Nat} {os : OsState} {N it Z : Nat} {A : Around} {R : Result → Shared → Prop} {t0 : Nat} {m s f p : Int} {tm ts tf tp : Tok} {o : Tok × Int × Tok} {a : Int}
    (hD : D ≤ 780) (hA : Bd D A) (S : Sg L0 h0 (Nu.L ⟨t0, m, tm, s, ts, f, tf, p, tp, plT (some o) w, 5⟩ w N it a ((0 : Nat) : Int)) Z h)
    (hR : ∀ h', Sg L0 h0 (LN w ++ [(N, frO (Nu.es ⟨t0, m, tm, s, ts, f, tf, p, tp, plT (some o) w, 5⟩ w) 5)]) (Z + 2) h' → R (.ok .next) ⟨h', g, d, tk, os⟩) :
    codeAny (model PG w) A (nuC N it) R ⟨h, g, d, tk, os⟩ := by
  refine opCode none (denF (nuC N it)) 0 [] hD hA S (by kernel_rfl) fun A1 a1 W hW => ?_
  obtain ⟨k1, p1, t1⟩ := o
  exact opX hW hD a1 S 0 [.go [.ld 6], .cl none, .go [.ld 6], .ag none, .go [.ld 6, .ld 6, .ld 6, .al, .al], .hd, .rt, .go [.ld 8], .ag none, .rt] [0, 1, 2, 3, 4, 5] [] (.ok .next) (LN w ++ [(N, frO (Nu.es ⟨t0, m, tm, s, ts, f, tf, p, tp, plT (some (k1, p1, t1)) w, 5⟩ w) 5)]) (Z + 2) tk (fun b => by cases b <;> kernel_rfl) (by decide) .nil hR
noncomputable def tupO2 (a : Int) (t : Tok) (b : Int) (u : Tok) : Obj := seqO "tuple" [.int a t, .int b u] 0
theorem pw_of (p : Nat) (h : p < 9) (y : Int) (hy : y = 9 - (p : Int)) {w : World} (t u : Tok) (tk : Nat) : ObOK PG w ⟨.call (.builtin "int.__pow__") ⟨[.int 2 t, .int y u], []⟩, [], tk, .int (2 ^ (9 - p)) tk, 1⟩ := by
  subst hy
  refine ob_ipow (by omega) (by rw [beq_eq_false_iff_ne]; omega) ?_ ?_
  · revert p; decide
  · have e : ((9 : Int) - (p : Int)).toNat = 9 - p := by omega
    rw [e]
theorem pw_of9 (y : Int) (hy : y = 0) {w : World} (t u : Tok) (tk : Nat) : ObOK PG w ⟨.call (.builtin "int.__pow__") ⟨[.int 2 t, .int y u], []⟩, [], tk, .int (2 ^ (9 - 9)) tk, 1⟩ := by
  subst hy
  exact ob_ipow0 rfl
theorem num_m {w : World} : (∀ {D : Nat} {h : Heap} {g : Array GenState} {d : Drawn} {tk : Nat} {os : OsState} {N : Nat} {A : Around} {R : Result → Shared → Prop} {m : Int} {tm ts : Tok} {q0 q1 q2 q3 q4 q5 : Bool} (hD : D ≤ 720) (hA : Bd D A) (H : Lg (LN w) h) (hN : h.objs.size = N) (e0 : bitQ m 6 = q0) (e1 : bitQ m 5 = q1) (e2 : bitQ m 4 = q2) (e3 : bitQ m 3 = q3) (e4 : bitQ m 2 = q4) (e5 : bitQ m 1 = q5) (hR : ∀ h' N' tk' t1 t2 a, Sg (LN w) h (LN w ++ [(a, tupO2 (nums [q0, q1, q2, q3, q4, q5]).1 t1 (nums [q0, q1, q2, q3, q4, q5]).2 t2)]) N' h' → N ≤ a → tk ≤ tk' → R (.ok (.ret (.ref a))) ⟨h', g, d, tk', os⟩), codeAny (model PG w) A (.call (.ref 112) ⟨[.int m tm, .int 1 ts], []⟩) R ⟨h, g, d, tk, os⟩) ∧
    (∀ {D : Nat} {h : Heap} {g : Array GenState} {d : Drawn} {tk : Nat} {os : OsState} {N : Nat} {A : Around} {R : Result → Shared → Prop} {m : Int} {tm ts : Tok} {q0 q1 q2 q3 q4 q5 : Bool} (hD : D ≤ 720) (hA : Bd D A) (H : Lg (LN w) h) (hN : h.objs.size = N) (e0 : bitQ m 7 = q0) (e1 : bitQ m 6 = q1) (e2 : bitQ m 5 = q2) (e3 : bitQ m 4 = q3) (e4 : bitQ m 3 = q4) (e5 : bitQ m 2 = q5) (hR : ∀ h' N' tk' t1 t2 a, Sg (LN w) h (LN w ++ [(a, tupO2 (nums [q0, q1, q2, q3, q4, q5]).1 t1 (nums [q0, q1, q2, q3, q4, q5]).2 t2)]) N' h' → N ≤ a → tk ≤ tk' → R (.ok (.ret (.ref a))) ⟨h', g, d, tk', os⟩), codeAny (model PG w) A (.call (.ref 112) ⟨[.int m tm, .int 2 ts], []⟩) R ⟨h, g, d, tk, os⟩) ∧
    (∀ {D : Nat} {h : Heap} {g : Array GenState} {d : Drawn} {tk : Nat} {os : OsState} {N : Nat} {A : Around} {R : Result → Shared → Prop} {m : Int} {tm ts : Tok} {q0 q1 q2 q3 q4 q5 : Bool} (hD : D ≤ 720) (hA : Bd D A) (H : Lg (LN w) h) (hN : h.objs.size = N) (e0 : bitQ m 8 = q0) (e1 : bitQ m 7 = q1) (e2 : bitQ m 6 = q2) (e3 : bitQ m 5 = q3) (e4 : bitQ m 4 = q4) (e5 : bitQ m 3 = q5) (hR : ∀ h' N' tk' t1 t2 a, Sg (LN w) h (LN w ++ [(a, tupO2 (nums [q0, q1, q2, q3, q4, q5]).1 t1 (nums [q0, q1, q2, q3, q4, q5]).2 t2)]) N' h' → N ≤ a → tk ≤ tk' → R (.ok (.ret (.ref a))) ⟨h', g, d, tk', os⟩), codeAny (model PG w) A (.call (.ref 112) ⟨[.int m tm, .int 3 ts], []⟩) R ⟨h, g, d, tk, os⟩) ∧
    (∀ {D : Nat} {h : Heap} {g : Array GenState} {d : Drawn} {tk : Nat} {os : OsState} {N : Nat} {A : Around} {R : Result → Shared → Prop} {m : Int} {tm ts : Tok} {q0 q1 q2 q3 q4 q5 : Bool} (hD : D ≤ 720) (hA : Bd D A) (H : Lg (LN w) h) (hN : h.objs.size = N) (e0 : bitQ m 9 = q0) (e1 : bitQ m 8 = q1) (e2 : bitQ m 7 = q2) (e3 : bitQ m 6 = q3) (e4 : bitQ m 5 = q4) (e5 : bitQ m 4 = q5) (hR : ∀ h' N' tk' t1 t2 a, Sg (LN w) h (LN w ++ [(a, tupO2 (nums [q0, q1, q2, q3, q4, q5]).1 t1 (nums [q0, q1, q2, q3, q4, q5]).2 t2)]) N' h' → N ≤ a → tk ≤ tk' → R (.ok (.ret (.ref a))) ⟨h', g, d, tk', os⟩), codeAny (model PG w) A (.call (.ref 112) ⟨[.int m tm, .int 4 ts], []⟩) R ⟨h, g, d, tk, os⟩) := by
  refine ⟨?_, ?_, ?_, ?_⟩
  · intro D h g d tk os N A R m tm ts q0 q1 q2 q3 q4 q5 hD hA H hN e0 e1 e2 e3 e4 e5 hR
    have S : Sg (LN w) h (LN w) N h := Sg.start H hN
    refine opCode (some (1, 2)) (fnT w 112 [.int m tm, .int 1 ts]) 1 [112, 111] (by first | exact dD hD rfl | exact dD0 hD rfl | omega) hA S (by kernel_rfl) fun A1 a1 W hW => ?_
    refine opM hW (by first | exact dD hD rfl | exact dD0 hD rfl | omega) a1 S 0 [.go [.al, .fr, .ld 5, .up 5, .fr, .ld 5, .up 5], .ag none, .go [.fr, .fr, .al, .ld 6, .ld 6, .ld 6], .cl none, .go [.ld 6], .ag none, .go [.al], .rt, .go [.ld 7, .ld 7], .cl none, .go [.ld 7], .ag none, .go [.ld 7, .ld 7, .ld 6, .ld 7, .up 7], .rt, .go [.ld 7], .cl none, .go [.ld 7], .ag none, .go [.ld 7, .ld 7, .ld 6, .ld 7, .up 7], .rt, .go [.ld 7], .cl none, .go [.ld 7], .ag none, .go [.ld 7, .ld 7, .ld 6, .ld 7, .up 7, .al, .al], .hd, .rt, .go [.ld 9, .fr, .ld 5, .up 5, .fr, .ld 5, .up 5, .ld 3, .ld 4, .ld 5, .fr], .cl none, .ag none, .go [.fr], .rt, .go [.ld 5, .fr], .cl none, .ag none, .go [.fr], .rt, .go [.fr], .cl none, .ag none, .go [.fr], .rt, .cl none, .ag none, .cl none, .ag none, .go [.al], .rt, .go [.ld 10, .ld 10], .cl none, .go [.ld 10], .ag none, .go [.ld 10], .rt, .rt, .go [.ld 10, .ld 10], .cl none, .go [.ld 10], .ag none, .go [.ld 10, .ld 10, .ld 10, .al], .rt, .go [.ld 11]]
      [0, 1, 2, 3, 4, 5, 11] [] (nuC N (N + 6)) (Nu.L ⟨tk, m, tm, 1, ts, 1, tk + 2, 1, tk + 3, plT none w, plN none⟩ w N (N + 6) 6 ((5 : Nat) + 1)) (N + 7) (tk + 12) (fun b => by cases b <;> kernel_rfl) (by decide) .nil fun W1 hW1 h1 S1 A2 a2 => ?_
    refine nu_turn (D := D + 60) (n := 5) (q := q0) (pw := 2 ^ (9 - 6)) (by first | exact dD hD rfl | exact dD0 hD rfl | omega) a2 S1 (pw_of 6 (by decide) _ (by omega)) (by decide) (PyProof.noPylong_small (by decide)) e0 fun k1 B1 b1 Z1 => ?_
    refine nu_turn (D := D + 60) (n := 4) (q := q1) (pw := 2 ^ (9 - 5)) (by first | exact dD hD rfl | exact dD0 hD rfl | omega) b1 Z1 (pw_of 5 (by decide) _ (by omega)) (by decide) (PyProof.noPylong_small (by decide)) e1 fun k2 B2 b2 Z2 => ?_
    refine nu_turn (D := D + 60) (n := 3) (q := q2) (pw := 2 ^ (9 - 4)) (by first | exact dD hD rfl | exact dD0 hD rfl | omega) b2 Z2 (pw_of 4 (by decide) _ (by omega)) (by decide) (PyProof.noPylong_small (by decide)) e2 fun k3 B3 b3 Z3 => ?_
    refine nu_turn (D := D + 60) (n := 2) (q := q3) (pw := 2 ^ (9 - 3)) (by first | exact dD hD rfl | exact dD0 hD rfl | omega) b3 Z3 (pw_of 3 (by decide) _ (by omega)) (by decide) (PyProof.noPylong_small (by decide)) e3 fun k4 B4 b4 Z4 => ?_
    refine nu_turn (D := D + 60) (n := 1) (q := q4) (pw := 2 ^ (9 - 2)) (by first | exact dD hD rfl | exact dD0 hD rfl | omega) b4 Z4 (pw_of 2 (by decide) _ (by omega)) (by decide) (PyProof.noPylong_small (by decide)) e4 fun k5 B5 b5 Z5 => ?_
    refine nu_turn (D := D + 60) (n := 0) (q := q5) (pw := 2 ^ (9 - 1)) (by first | exact dD hD rfl | exact dD0 hD rfl | omega) b5 Z5 (pw_of 1 (by decide) _ (by omega)) (by decide) (PyProof.noPylong_small (by decide)) e5 fun k6 B6 b6 Z6 => ?_
    refine nu_end (D := D + 60) (by first | exact dD hD rfl | exact dD0 hD rfl | omega) b6 Z6 fun k7 Z7 => ?_
    exact opX (hW1 _) (by first | exact dD hD rfl | exact dD0 hD rfl | omega) a1 Z7 0 [.go [.ld 5, .ld 5, .al], .rt] [0, 1, 2, 3, 4, 6] [] (.ok (.ret (.ref (N + 9)))) (LN w ++ [(N + 9, tupO2 (nums [q0, q1, q2, q3, q4, q5]).1 (if q5 = true then (if q4 = true then (if q3 = true then (if q2 = true then (if q1 = true then (if q0 = true then (tk + 2) else (tk + 22)) else (tk + 34)) else (tk + 46)) else (tk + 58)) else (tk + 70)) else (tk + 82)) (nums [q0, q1, q2, q3, q4, q5]).2 (if q5 = true then (tk + 82) else (if q4 = true then (tk + 70) else (if q3 = true then (tk + 58) else (if q2 = true then (tk + 46) else (if q1 = true then (tk + 34) else (if q0 = true then (tk + 22) else (tk + 3))))))))]) (N + 10) (tk + 84) (fun b => by cases b <;> kernel_rfl) (by decide) .nil fun h' S' => hR h' _ _ _ _ _ S' (by omega) (by omega)
  · intro D h g d tk os N A R m tm ts q0 q1 q2 q3 q4 q5 hD hA H hN e0 e1 e2 e3 e4 e5 hR
    have S : Sg (LN w) h (LN w) N h := Sg.start H hN
    refine opCode (some (1, 2)) (fnT w 112 [.int m tm, .int 2 ts]) 1 [112, 111] (by first | exact dD hD rfl | exact dD0 hD rfl | omega) hA S (by kernel_rfl) fun A1 a1 W hW => ?_
    refine opM hW (by first | exact dD hD rfl | exact dD0 hD rfl | omega) a1 S 0 [.go [.al, .fr, .ld 5, .up 5, .fr, .ld 5, .up 5], .ag none, .go [.fr, .fr, .al, .ld 6, .ld 6, .ld 6], .cl none, .go [.ld 6], .ag none, .go [.al], .rt, .go [.ld 7, .ld 7], .cl none, .go [.ld 7], .ag none, .go [.ld 7, .ld 7, .ld 6, .ld 7, .up 7], .rt, .go [.ld 7], .cl none, .go [.ld 7], .ag none, .go [.ld 7, .ld 7, .ld 6, .ld 7, .up 7], .rt, .go [.ld 7], .cl none, .go [.ld 7], .ag none, .go [.ld 7, .ld 7, .ld 6, .ld 7, .up 7, .al, .al], .hd, .rt, .go [.ld 9, .fr, .ld 5, .up 5, .fr, .ld 5, .up 5, .ld 3, .ld 4, .ld 5, .fr], .cl none, .ag none, .go [.fr], .rt, .go [.ld 5, .fr], .cl none, .ag none, .go [.fr], .rt, .go [.fr], .cl none, .ag none, .go [.fr], .rt, .cl none, .ag none, .cl none, .ag none, .go [.al], .rt, .go [.ld 10, .ld 10], .cl none, .go [.ld 10], .ag none, .go [.ld 10], .rt, .rt, .go [.ld 10, .ld 10], .cl none, .go [.ld 10], .ag none, .go [.ld 10, .ld 10, .ld 10, .al], .rt, .go [.ld 11]]
      [0, 1, 2, 3, 4, 5, 11] [] (nuC N (N + 6)) (Nu.L ⟨tk, m, tm, 2, ts, 1, tk + 2, 1, tk + 3, plT none w, plN none⟩ w N (N + 6) 7 ((5 : Nat) + 1)) (N + 7) (tk + 12) (fun b => by cases b <;> kernel_rfl) (by decide) .nil fun W1 hW1 h1 S1 A2 a2 => ?_
    refine nu_turn (D := D + 60) (n := 5) (q := q0) (pw := 2 ^ (9 - 7)) (by first | exact dD hD rfl | exact dD0 hD rfl | omega) a2 S1 (pw_of 7 (by decide) _ (by omega)) (by decide) (PyProof.noPylong_small (by decide)) e0 fun k1 B1 b1 Z1 => ?_
    refine nu_turn (D := D + 60) (n := 4) (q := q1) (pw := 2 ^ (9 - 6)) (by first | exact dD hD rfl | exact dD0 hD rfl | omega) b1 Z1 (pw_of 6 (by decide) _ (by omega)) (by decide) (PyProof.noPylong_small (by decide)) e1 fun k2 B2 b2 Z2 => ?_
    refine nu_turn (D := D + 60) (n := 3) (q := q2) (pw := 2 ^ (9 - 5)) (by first | exact dD hD rfl | exact dD0 hD rfl | omega) b2 Z2 (pw_of 5 (by decide) _ (by omega)) (by decide) (PyProof.noPylong_small (by decide)) e2 fun k3 B3 b3 Z3 => ?_
    refine nu_turn (D := D + 60) (n := 2) (q := q3) (pw := 2 ^ (9 - 4)) (by first | exact dD hD rfl | exact dD0 hD rfl | omega) b3 Z3 (pw_of 4 (by decide) _ (by omega)) (by decide) (PyProof.noPylong_small (by decide)) e3 fun k4 B4 b4 Z4 => ?_
    refine nu_turn (D := D + 60) (n := 1) (q := q4) (pw := 2 ^ (9 - 3)) (by first | exact dD hD rfl | exact dD0 hD rfl | omega) b4 Z4 (pw_of 3 (by decide) _ (by omega)) (by decide) (PyProof.noPylong_small (by decide)) e4 fun k5 B5 b5 Z5 => ?_
    refine nu_turn (D := D + 60) (n := 0) (q := q5) (pw := 2 ^ (9 - 2)) (by first | exact dD hD rfl | exact dD0 hD rfl | omega) b5 Z5 (pw_of 2 (by decide) _ (by omega)) (by decide) (PyProof.noPylong_small (by decide)) e5 fun k6 B6 b6 Z6 => ?_
    refine nu_end (D := D + 60) (by first | exact dD hD rfl | exact dD0 hD rfl | omega) b6 Z6 fun k7 Z7 => ?_
    exact opX (hW1 _) (by first | exact dD hD rfl | exact dD0 hD rfl | omega) a1 Z7 0 [.go [.ld 5, .ld 5, .al], .rt] [0, 1, 2, 3, 4, 6] [] (.ok (.ret (.ref (N + 9)))) (LN w ++ [(N + 9, tupO2 (nums [q0, q1, q2, q3, q4, q5]).1 (if q5 = true then (if q4 = true then (if q3 = true then (if q2 = true then (if q1 = true then (if q0 = true then (tk + 2) else (tk + 22)) else (tk + 34)) else (tk + 46)) else (tk + 58)) else (tk + 70)) else (tk + 82)) (nums [q0, q1, q2, q3, q4, q5]).2 (if q5 = true then (tk + 82) else (if q4 = true then (tk + 70) else (if q3 = true then (tk + 58) else (if q2 = true then (tk + 46) else (if q1 = true then (tk + 34) else (if q0 = true then (tk + 22) else (tk + 3))))))))]) (N + 10) (tk + 84) (fun b => by cases b <;> kernel_rfl) (by decide) .nil fun h' S' => hR h' _ _ _ _ _ S' (by omega) (by omega)
  · intro D h g d tk os N A R m tm ts q0 q1 q2 q3 q4 q5 hD hA H hN e0 e1 e2 e3 e4 e5 hR
    have S : Sg (LN w) h (LN w) N h := Sg.start H hN
    refine opCode (some (1, 2)) (fnT w 112 [.int m tm, .int 3 ts]) 1 [112, 111] (by first | exact dD hD rfl | exact dD0 hD rfl | omega) hA S (by kernel_rfl) fun A1 a1 W hW => ?_
    refine opM hW (by first | exact dD hD rfl | exact dD0 hD rfl | omega) a1 S 0 [.go [.al, .fr, .ld 5, .up 5, .fr, .ld 5, .up 5], .ag none, .go [.fr, .fr, .al, .ld 6, .ld 6, .ld 6], .cl none, .go [.ld 6], .ag none, .go [.al], .rt, .go [.ld 7, .ld 7], .cl none, .go [.ld 7], .ag none, .go [.ld 7, .ld 7, .ld 6, .ld 7, .up 7], .rt, .go [.ld 7], .cl none, .go [.ld 7], .ag none, .go [.ld 7, .ld 7, .ld 6, .ld 7, .up 7], .rt, .go [.ld 7], .cl none, .go [.ld 7], .ag none, .go [.ld 7, .ld 7, .ld 6, .ld 7, .up 7, .al, .al], .hd, .rt, .go [.ld 9, .fr, .ld 5, .up 5, .fr, .ld 5, .up 5, .ld 3, .ld 4, .ld 5, .fr], .cl none, .ag none, .go [.fr], .rt, .go [.ld 5, .fr], .cl none, .ag none, .go [.fr], .rt, .go [.fr], .cl none, .ag none, .go [.fr], .rt, .cl none, .ag none, .cl none, .ag none, .go [.al], .rt, .go [.ld 10, .ld 10], .cl none, .go [.ld 10], .ag none, .go [.ld 10], .rt, .rt, .go [.ld 10, .ld 10], .cl none, .go [.ld 10], .ag none, .go [.ld 10, .ld 10, .ld 10, .al], .rt, .go [.ld 11]]
      [0, 1, 2, 3, 4, 5, 11] [] (nuC N (N + 6)) (Nu.L ⟨tk, m, tm, 3, ts, 1, tk + 2, 1, tk + 3, plT none w, plN none⟩ w N (N + 6) 8 ((5 : Nat) + 1)) (N + 7) (tk + 12) (fun b => by cases b <;> kernel_rfl) (by decide) .nil fun W1 hW1 h1 S1 A2 a2 => ?_
    refine nu_turn (D := D + 60) (n := 5) (q := q0) (pw := 2 ^ (9 - 8)) (by first | exact dD hD rfl | exact dD0 hD rfl | omega) a2 S1 (pw_of 8 (by decide) _ (by omega)) (by decide) (PyProof.noPylong_small (by decide)) e0 fun k1 B1 b1 Z1 => ?_
    refine nu_turn (D := D + 60) (n := 4) (q := q1) (pw := 2 ^ (9 - 7)) (by first | exact dD hD rfl | exact dD0 hD rfl | omega) b1 Z1 (pw_of 7 (by decide) _ (by omega)) (by decide) (PyProof.noPylong_small (by decide)) e1 fun k2 B2 b2 Z2 => ?_
    refine nu_turn (D := D + 60) (n := 3) (q := q2) (pw := 2 ^ (9 - 6)) (by first | exact dD hD rfl | exact dD0 hD rfl | omega) b2 Z2 (pw_of 6 (by decide) _ (by omega)) (by decide) (PyProof.noPylong_small (by decide)) e2 fun k3 B3 b3 Z3 => ?_
    refine nu_turn (D := D + 60) (n := 2) (q := q3) (pw := 2 ^ (9 - 5)) (by first | exact dD hD rfl | exact dD0 hD rfl | omega) b3 Z3 (pw_of 5 (by decide) _ (by omega)) (by decide) (PyProof.noPylong_small (by decide)) e3 fun k4 B4 b4 Z4 => ?_
    refine nu_turn (D := D + 60) (n := 1) (q := q4) (pw := 2 ^ (9 - 4)) (by first | exact dD hD rfl | exact dD0 hD rfl | omega) b4 Z4 (pw_of 4 (by decide) _ (by omega)) (by decide) (PyProof.noPylong_small (by decide)) e4 fun k5 B5 b5 Z5 => ?_
    refine nu_turn (D := D + 60) (n := 0) (q := q5) (pw := 2 ^ (9 - 3)) (by first | exact dD hD rfl | exact dD0 hD rfl | omega) b5 Z5 (pw_of 3 (by decide) _ (by omega)) (by decide) (PyProof.noPylong_small (by decide)) e5 fun k6 B6 b6 Z6 => ?_
    refine nu_end (D := D + 60) (by first | exact dD hD rfl | exact dD0 hD rfl | omega) b6 Z6 fun k7 Z7 => ?_
    exact opX (hW1 _) (by first | exact dD hD rfl | exact dD0 hD rfl | omega) a1 Z7 0 [.go [.ld 5, .ld 5, .al], .rt] [0, 1, 2, 3, 4, 6] [] (.ok (.ret (.ref (N + 9)))) (LN w ++ [(N + 9, tupO2 (nums [q0, q1, q2, q3, q4, q5]).1 (if q5 = true then (if q4 = true then (if q3 = true then (if q2 = true then (if q1 = true then (if q0 = true then (tk + 2) else (tk + 22)) else (tk + 34)) else (tk + 46)) else (tk + 58)) else (tk + 70)) else (tk + 82)) (nums [q0, q1, q2, q3, q4, q5]).2 (if q5 = true then (tk + 82) else (if q4 = true then (tk + 70) else (if q3 = true then (tk + 58) else (if q2 = true then (tk + 46) else (if q1 = true then (tk + 34) else (if q0 = true then (tk + 22) else (tk + 3))))))))]) (N + 10) (tk + 84) (fun b => by cases b <;> kernel_rfl) (by decide) .nil fun h' S' => hR h' _ _ _ _ _ S' (by omega) (by omega)
  · intro D h g d tk os N A R m tm ts q0 q1 q2 q3 q4 q5 hD hA H hN e0 e1 e2 e3 e4 e5 hR
    have S : Sg (LN w) h (LN w) N h := Sg.start H hN
    refine opCode (some (1, 2)) (fnT w 112 [.int m tm, .int 4 ts]) 1 [112, 111] (by first | exact dD hD rfl | exact dD0 hD rfl | omega) hA S (by kernel_rfl) fun A1 a1 W hW => ?_
    refine opM hW (by first | exact dD hD rfl | exact dD0 hD rfl | omega) a1 S 0 [.go [.al, .fr, .ld 5, .up 5, .fr, .ld 5, .up 5], .ag none, .go [.fr, .fr, .al, .ld 6, .ld 6, .ld 6], .cl none, .go [.ld 6], .ag none, .go [.al], .rt, .go [.ld 7, .ld 7], .cl none, .go [.ld 7], .ag none, .go [.ld 7, .ld 7, .ld 6, .ld 7, .up 7], .rt, .go [.ld 7], .cl none, .go [.ld 7], .ag none, .go [.ld 7, .ld 7, .ld 6, .ld 7, .up 7], .rt, .go [.ld 7], .cl none, .go [.ld 7], .ag none, .go [.ld 7, .ld 7, .ld 6, .ld 7, .up 7, .al, .al], .hd, .rt, .go [.ld 9, .fr, .ld 5, .up 5, .fr, .ld 5, .up 5, .ld 3, .ld 4, .ld 5, .fr], .cl none, .ag none, .go [.fr], .rt, .go [.ld 5, .fr], .cl none, .ag none, .go [.fr], .rt, .go [.fr], .cl none, .ag none, .go [.fr], .rt, .cl none, .ag none, .cl none, .ag none, .go [.al], .rt, .go [.ld 10, .ld 10], .cl none, .go [.ld 10], .ag none, .go [.ld 10], .rt, .rt, .go [.ld 10, .ld 10], .cl none, .go [.ld 10], .ag none, .go [.ld 10, .ld 10, .ld 10, .al], .rt, .go [.ld 11]]
      [0, 1, 2, 3, 4, 5, 11] [] (nuC N (N + 6)) (Nu.L ⟨tk, m, tm, 4, ts, 1, tk + 2, 1, tk + 3, plT none w, plN none⟩ w N (N + 6) 9 ((5 : Nat) + 1)) (N + 7) (tk + 12) (fun b => by cases b <;> kernel_rfl) (by decide) .nil fun W1 hW1 h1 S1 A2 a2 => ?_
    refine nu_turn (D := D + 60) (n := 5) (q := q0) (pw := 2 ^ (9 - 9)) (by first | exact dD hD rfl | exact dD0 hD rfl | omega) a2 S1 (pw_of9 _ (by omega)) (by decide) (PyProof.noPylong_small (by decide)) e0 fun k1 B1 b1 Z1 => ?_
    refine nu_turn (D := D + 60) (n := 4) (q := q1) (pw := 2 ^ (9 - 8)) (by first | exact dD hD rfl | exact dD0 hD rfl | omega) b1 Z1 (pw_of 8 (by decide) _ (by omega)) (by decide) (PyProof.noPylong_small (by decide)) e1 fun k2 B2 b2 Z2 => ?_
    refine nu_turn (D := D + 60) (n := 3) (q := q2) (pw := 2 ^ (9 - 7)) (by first | exact dD hD rfl | exact dD0 hD rfl | omega) b2 Z2 (pw_of 7 (by decide) _ (by omega)) (by decide) (PyProof.noPylong_small (by decide)) e2 fun k3 B3 b3 Z3 => ?_
    refine nu_turn (D := D + 60) (n := 2) (q := q3) (pw := 2 ^ (9 - 6)) (by first | exact dD hD rfl | exact dD0 hD rfl | omega) b3 Z3 (pw_of 6 (by decide) _ (by omega)) (by decide) (PyProof.noPylong_small (by decide)) e3 fun k4 B4 b4 Z4 => ?_
    refine nu_turn (D := D + 60) (n := 1) (q := q4) (pw := 2 ^ (9 - 5)) (by first | exact dD hD rfl | exact dD0 hD rfl | omega) b4 Z4 (pw_of 5 (by decide) _ (by omega)) (by decide) (PyProof.noPylong_small (by decide)) e4 fun k5 B5 b5 Z5 => ?_
    refine nu_turn (D := D + 60) (n := 0) (q := q5) (pw := 2 ^ (9 - 4)) (by first | exact dD hD rfl | exact dD0 hD rfl | omega) b5 Z5 (pw_of 4 (by decide) _ (by omega)) (by decide) (PyProof.noPylong_small (by decide)) e5 fun k6 B6 b6 Z6 => ?_
    refine nu_end (D := D + 60) (by first | exact dD hD rfl | exact dD0 hD rfl | omega) b6 Z6 fun k7 Z7 => ?_
    exact opX (hW1 _) (by first | exact dD hD rfl | exact dD0 hD rfl | omega) a1 Z7 0 [.go [.ld 5, .ld 5, .al], .rt] [0, 1, 2, 3, 4, 6] [] (.ok (.ret (.ref (N + 9)))) (LN w ++ [(N + 9, tupO2 (nums [q0, q1, q2, q3, q4, q5]).1 (if q5 = true then (if q4 = true then (if q3 = true then (if q2 = true then (if q1 = true then (if q0 = true then (tk + 2) else (tk + 22)) else (tk + 34)) else (tk + 46)) else (tk + 58)) else (tk + 70)) else (tk + 82)) (nums [q0, q1, q2, q3, q4, q5]).2 (if q5 = true then (tk + 82) else (if q4 = true then (tk + 70) else (if q3 = true then (tk + 58) else (if q2 = true then (tk + 46) else (if q1 = true then (tk + 34) else (if q0 = true then (tk + 22) else (tk + 3))))))))]) (N + 10) (tk + 84) (fun b => by cases b <;> kernel_rfl) (by decide) .nil fun h' S' => hR h' _ _ _ _ _ S' (by omega) (by omega)
theorem num_call1 {D : Nat} {w : World} {h : Heap} {g : Array GenState} {d : Drawn} {tk : Nat} {os : OsState} {N : Nat} {A : Around} {R : Result → Shared → Prop} {m : Int} {tm ts : Tok} {q0 q1 q2 q3 q4 q5 : Bool}
    (hD : D ≤ 720) (hA : Bd D A) (H : Lg (LN w) h) (hN : h.objs.size = N) (e0 : bitQ m 6 = q0) (e1 : bitQ m 5 = q1) (e2 : bitQ m 4 = q2) (e3 : bitQ m 3 = q3) (e4 : bitQ m 2 = q4) (e5 : bitQ m 1 = q5)
    (hR : ∀ h' N' tk' t1 t2 a, Sg (LN w) h (LN w ++ [(a, tupO2 (nums [q0, q1, q2, q3, q4, q5]).1 t1 (nums [q0, q1, q2, q3, q4, q5]).2 t2)]) N' h' → N ≤ a → tk ≤ tk' → R (.ok (.ret (.ref a))) ⟨h', g, d, tk', os⟩) :
    codeAny (model PG w) A (.call (.ref 112) ⟨[.int m tm, .int 1 ts], []⟩) R ⟨h, g, d, tk, os⟩ := @(num_m (w := w)).1 D h g d tk os N A R m tm ts q0 q1 q2 q3 q4 q5 hD hA H hN e0 e1 e2 e3 e4 e5 hR
theorem num_call2 {D : Nat} {w : World} {h : Heap} {g : Array GenState} {d : Drawn} {tk : Nat} {os : OsState} {N : Nat} {A : Around} {R : Result → Shared → Prop} {m : Int} {tm ts : Tok} {q0 q1 q2 q3 q4 q5 : Bool}
    (hD : D ≤ 720) (hA : Bd D A) (H : Lg (LN w) h) (hN : h.objs.size = N) (e0 : bitQ m 7 = q0) (e1 : bitQ m 6 = q1) (e2 : bitQ m 5 = q2) (e3 : bitQ m 4 = q3) (e4 : bitQ m 3 = q4) (e5 : bitQ m 2 = q5)
    (hR : ∀ h' N' tk' t1 t2 a, Sg (LN w) h (LN w ++ [(a, tupO2 (nums [q0, q1, q2, q3, q4, q5]).1 t1 (nums [q0, q1, q2, q3, q4, q5]).2 t2)]) N' h' → N ≤ a → tk ≤ tk' → R (.ok (.ret (.ref a))) ⟨h', g, d, tk', os⟩) :
    codeAny (model PG w) A (.call (.ref 112) ⟨[.int m tm, .int 2 ts], []⟩) R ⟨h, g, d, tk, os⟩ := @(num_m (w := w)).2.1 D h g d tk os N A R m tm ts q0 q1 q2 q3 q4 q5 hD hA H hN e0 e1 e2 e3 e4 e5 hR
theorem num_call3 {D : Nat} {w : World} {h : Heap} {g : Array GenState} {d : Drawn} {tk : Nat} {os : OsState} {N : Nat} {A : Around} {R : Result → Shared → Prop} {m : Int} {tm ts : Tok} {q0 q1 q2 q3 q4 q5 : Bool}
    (hD : D ≤ 720) (hA : Bd D A) (H : Lg (LN w) h) (hN : h.objs.size = N) (e0 : bitQ m 8 = q0) (e1 : bitQ m 7 = q1) (e2 : bitQ m 6 = q2) (e3 : bitQ m 5 = q3) (e4 : bitQ m 4 = q4) (e5 : bitQ m 3 = q5)
    (hR : ∀ h' N' tk' t1 t2 a, Sg (LN w) h (LN w ++ [(a, tupO2 (nums [q0, q1, q2, q3, q4, q5]).1 t1 (nums [q0, q1, q2, q3, q4, q5]).2 t2)]) N' h' → N ≤ a → tk ≤ tk' → R (.ok (.ret (.ref a))) ⟨h', g, d, tk', os⟩) :
    codeAny (model PG w) A (.call (.ref 112) ⟨[.int m tm, .int 3 ts], []⟩) R ⟨h, g, d, tk, os⟩ := @(num_m (w := w)).2.2.1 D h g d tk os N A R m tm ts q0 q1 q2 q3 q4 q5 hD hA H hN e0 e1 e2 e3 e4 e5 hR
theorem num_call4 {D : Nat} {w : World} {h : Heap} {g : Array GenState} {d : Drawn} {tk : Nat} {os : OsState} {N : Nat} {A : Around} {R : Result → Shared → Prop} {m : Int} {tm ts : Tok} {q0 q1 q2 q3 q4 q5 : Bool}
    (hD : D ≤ 720) (hA : Bd D A) (H : Lg (LN w) h) (hN : h.objs.size = N) (e0 : bitQ m 9 = q0) (e1 : bitQ m 8 = q1) (e2 : bitQ m 7 = q2) (e3 : bitQ m 6 = q3) (e4 : bitQ m 5 = q4) (e5 : bitQ m 4 = q5)
    (hR : ∀ h' N' tk' t1 t2 a, Sg (LN w) h (LN w ++ [(a, tupO2 (nums [q0, q1, q2, q3, q4, q5]).1 t1 (nums [q0, q1, q2, q3, q4, q5]).2 t2)]) N' h' → N ≤ a → tk ≤ tk' → R (.ok (.ret (.ref a))) ⟨h', g, d, tk', os⟩) :
    codeAny (model PG w) A (.call (.ref 112) ⟨[.int m tm, .int 4 ts], []⟩) R ⟨h, g, d, tk, os⟩ := @(num_m (w := w)).2.2.2 D h g d tk os N A R m tm ts q0 q1 q2 q3 q4 q5 hD hA H hN e0 e1 e2 e3 e4 e5 hR
end Mine
end
section
namespace Mine
set_option maxHeartbeats 8000000
noncomputable def fmS : Stmt := topSt 30
noncomputable def fmF : Stmt := stAt (bodyOf fmS) 1
noncomputable def fmC (N : Nat) : Code := .forLoop (forTg fmF) (.ref (N + 3)) (forBd fmF) [] (envT fmS 98 97 N [])
noncomputable def enumO (it : Addr) (i : Int) (r : Value) : Obj := ⟨.type "enumerate", none, .fields #[.none, .bool false, .ref it, rawInt i, .none, r], #[]⟩
noncomputable def tupItO (v : Value) (i : Int) : Obj := ⟨.type "tuple_iterator", none, .fields #[v, rawInt i], #[]⟩
noncomputable def LF (w : World) : List (Addr × Obj) := [(2, ob w 2), (98, ob w 98), (97, ob w 97), (3, ob w 3), (0, ob w 0), (58, ob w 58), (57, ob w 57), (91, ob w 91), (66, ob w 66), (68, ob w 68), (70, ob w 70), (74, ob w 74), (76, ob w 76), (78, ob w 78), (82, ob w 82), (84, ob w 84), (86, ob w 86), (90, ob w 90), (59, ob w 59), (60, ob w 60), (61, ob w 61), (62, ob w 62), (63, ob w 63), (64, ob w 64), (65, ob w 65), (67, ob w 67), (69, ob w 69), (71, ob w 71), (72, ob w 72), (73, ob w 73), (75, ob w 75), (77, ob w 77), (79, ob w 79), (80, ob w 80), (81, ob w 81), (83, ob w 83), (85, ob w 85), (87, ob w 87), (88, ob w 88), (89, ob w 89)]
structure FmR where
  t0 : Nat
  m : Int
  tm : Tok
  ki : Tok
  kt : Tok
  kb : Tok
  kc : Tok
  xi : Value
  xt : Value
  xb : Value
  xc : Value
noncomputable def FmR.e0 (w : World) (N t0 : Nat) (m : Int) (tm : Tok) : List DictEntry := [en w "mode" t0 (.int m tm), en w "perm" (t0 + 1) (.ref (N + 1))]
noncomputable def FmR.es (x : FmR) (w : World) (N : Nat) : List DictEntry := FmR.e0 w N x.t0 x.m x.tm ++ [en w "index" x.ki x.xi, en w "table" x.kt x.xt, en w "bit" x.kb x.xb, en w "char" x.kc x.xc]
noncomputable def FmL0 (w : World) (N t0 : Nat) (m : Int) (tm : Tok) : List (Addr × Obj) := LF w ++ [(N, frO (FmR.e0 w N t0 m tm) 2), (N + 1, seqO "list" [] 0), (N + 2, tupItO (.ref 91) 0), (N + 3, enumO (N + 2) 0 .none)]
noncomputable def FmR.L (x : FmR) (w : World) (N : Nat) (ps : List Value) (i : Nat) (r : Value) : List (Addr × Obj) := LF w ++ [(N, frO (x.es w N) 6), (N + 1, seqO "list" ps i), (N + 2, tupItO (.ref 91) i), (N + 3, enumO (N + 2) i r)]
noncomputable def FmR.e1 (w : World) (N t0 : Nat) (m : Int) (tm : Tok) (tk : Nat) (r : Addr) : List DictEntry := FmR.e0 w N t0 m tm ++ [en w "index" (tk + 1) (.int 0 tk), en w "table" (tk + 2) (.ref r)]
open Builtin (bitAnd)
theorem oIe {w : World} {b : Bool} (x : Int) (t : Tok) (y : Int) (u : Tok) (tk : Nat) (h : (x == y) = b) : ObOK PG w ⟨.call (.builtin "int.__eq__") ⟨[.int x t, .int y u], []⟩, [], tk, .bool b, 0⟩ := ob_ieq h
theorem tb_and (n k : Nat) : n &&& 2 ^ k = if n.testBit k then 2 ^ k else 0 := by
  apply Nat.eq_of_testBit_eq
  intro i
  rw [Nat.testBit_and, Nat.testBit_two_pow]
  by_cases h : k = i
  · subst h
    cases hb : n.testBit k <;> simp [Nat.testBit_two_pow]
  · cases hb : n.testBit k <;> simp [Nat.testBit_two_pow, h]
theorem opTop {α : Type} {D : Nat} {w : World} {A : Around} {Q : α → Shared → Prop} {E : Value → Shared → Prop} {s : Shared} {t : Sem α} (h : ∀ W : Cf α, At w W (fun _ => .top t) → WC D (model PG w) A Q E W s) : wpAny (model PG w) A t Q E s := h _ rfl
/-- one turn of a for -/
theorem forStep {w : World} {A : Around} {s : Shared} {R : Result → Shared → Prop} {target : Expr} {it : Value} {body : List Stmt} {env : Env}
    (h : wpAny (model PG w) A (pyNext it) (fun r s₁ => match r with
      | none => R (.ok .next) s₁
      | some v => wpAny (model PG w) A (letOwnedTupleGo target it v) (fun _ s₂ => wpAny (model PG w) A (assign target env v) (fun _ s₃ => wpAny (model PG w) A (execs body env) (fun f s₄ => match f with
          | .next | .cont => codeAny (model PG w) A (.forLoop target it body [] env) R s₄
          | .brk => R (.ok .next) s₄
          | .ret v => R (.ok (.ret v)) s₄) (fun _ _ => False) s₃) (fun _ _ => False) s₂) (fun _ _ => False) s₁) (fun _ _ => False) s) :
    codeAny (model PG w) A (.forLoop target it body [] env) R s := by
  refine codeAny_of_tree ?_
  rw [Around.under_of_weight (by rfl) (by rfl)]
  show wpAny _ A ((forTurn target it body [] env).onRaise (fun x => do noteFrame x env; theTreesLotGoes x)) _ _ s
  refine wpAny_onRaise ?_
  simp only [forTurn]
  refine wpAny_bind (wpAny_standAt (wpAny_bind (wpAny_onRaise (wpAny_mono h (fun r s₁ h₁ => ?_) fun _ _ h' => h'.elim))))
  cases r with
  | none => exact wpAny_pure (And.intro rfl (codeAny_block (wpAny_execs_nil h₁)))
  | some v =>
    refine wpAny_bind (wpAny_mono h₁ (fun _ s₂ h₂ => ?_) fun _ _ h' => h'.elim)
    refine wpAny_bind (wpAny_mono h₂ (fun _ s₃ h₃ => wpAny_bind (wpAny_mono h₃ (fun f s₄ h₄ => ?_) fun _ _ h' => h'.elim)) fun _ _ h' => h'.elim)
    cases f with
    | next => exact wpAny_pure (And.intro rfl h₄)
    | cont => exact wpAny_pure (And.intro rfl h₄)
    | brk => exact wpAny_pure h₄
    | ret v => exact wpAny_pure h₄
theorem Sg.upd {h0 h : Heap} {L0 L : List (Addr × Obj)} {N i : Nat} {f : Obj → Obj} {p : Addr × Obj} (S : Sg L0 h0 L N h) (hi : L[i]? = some p) (hl : liveB (f p.2) = true) : Sg L0 h0 (L.set i (p.1, f p.2)) N (h.update p.1 f) := by
  refine ⟨S.lg.upd hi hl, (Heap.size_update ..).trans S.sz, fun b o e n => ?_, S.le, ?_⟩
  · have hb : b ≠ p.1 := fun z => by
      rcases S.cv p.1 (List.mem_map_of_mem (List.mem_of_getElem? hi)) with c | c
      · exact n (z ▸ c)
      · have := Heap.lt_size e
        rw [z] at this
        exact Nat.lt_irrefl _ (Nat.lt_of_lt_of_le this c)
    exact (Heap.get?_update_ne _ _ _ _ hb).trans (S.kp b o e n)
  · rw [map_fst_set hi]
    exact S.cv
noncomputable def enumH (it : Addr) (i : Int) (r : Value) (a : Addr) : Obj := ⟨.type "enumerate", none, .fields #[rawInt a, .bool false, .ref it, rawInt i, .none, r], #[]⟩
noncomputable def FmN (fr : Obj) (w : World) (N : Nat) (ps : List Value) (i : Nat) (r : Addr) (Z tk : Nat) : List (Addr × Obj) := LF w ++ [(N, fr), (N + 1, seqO "list" ps i), (N + 2, tupItO (.ref 91) (i + 1)), (N + 3, enumH (N + 2) (i + 1) (.ref r) Z), (Z, seqO "tuple" [.int i tk, .ref r] 0)]
noncomputable def FmA (fr : Obj) (w : World) (N : Nat) (ps : List Value) (i : Nat) (r : Addr) : List (Addr × Obj) := LF w ++ [(N, fr), (N + 1, seqO "list" ps i), (N + 2, tupItO (.ref 91) (i + 1)), (N + 3, enumO (N + 2) (i + 1) (.ref r))]
theorem owned {w : World} {h0 h : Heap} {L0 L : List (Addr × Obj)} {g : Array GenState} {d : Drawn} {tk : Nat} {os : OsState} {Z : Nat} {A : Around} {Q : Unit → Shared → Prop} {E : Value → Shared → Prop} {target : Expr} {e it a : Addr} {i : Int} {r : Value} {n : Nat}
    (ht : ∃ l c p, target = .Tuple l c p) (S : Sg L0 h0 L Z h) (hL : L[n]? = some (e, enumH it i r a))
    (hQ : ∀ h', Sg L0 h0 (L.set n (e, enumO it i r)) Z h' → Q () ⟨h', g, d, tk, os⟩) : wpAny (model PG w) A (letOwnedTupleGo target (.ref e) (.ref a)) Q E ⟨h, g, d, tk, os⟩ := by
  obtain ⟨l, c, p, rfl⟩ := ht
  show wpAny _ _ (load e >>= _) _ _ _
  refine wpAny_bind (wpAny_load (S.lg.get hL) ?_)
  show wpAny _ _ (if (["enumerate", "zip", "dict_itemiterator", "dict_reverseitemiterator", "odict_iterator", "itertools.zip_longest", "itertools.pairwise"].contains "enumerate" && some (rawInt a) == some (rawInt a)) = true then _ else _) _ _ _
  rw [if_pos (by simp)]
  refine wpAny_bind (wpAny_rule ?_)
  exact wpAny_setField (S.lg.get hL) rfl (by show 0 < 6; decide) (hQ _ (S.upd (f := Obj.mapFields fun x => x.setIfInBounds 0 Value.none) hL rfl))
theorem and_nat {m : Int} (h0 : 0 ≤ m) (y : Nat) : bitAnd m y = ((m.toNat &&& y : Nat) : Int) := by
  unfold bitAnd
  rw [decide_eq_true h0, decide_eq_true (Int.natCast_nonneg y)]
  rfl
theorem bit_one {m : Int} (h0 : 0 ≤ m) (p : Nat) : (bitAnd m ((2 ^ (9 - p) : Nat) : Int) == ((2 ^ (9 - p) : Nat) : Int)) = bitQ m p := by
  rw [and_nat h0]
  unfold bitQ
  obtain ⟨n, rfl⟩ := Int.eq_ofNat_of_zero_le h0
  generalize 9 - p = k
  have e1 : ((n : Int).fdiv (2 ^ k)).fmod 2 = ((n / 2 ^ k % 2 : Nat) : Int) := by
    rw [show ((2 : Int) ^ k) = ((2 ^ k : Nat) : Int) by simp, Int.fdiv_eq_ediv_of_nonneg _ (Int.natCast_nonneg _), Int.fmod_eq_emod_of_nonneg _ (by decide)]
    norm_cast
  rw [e1, Int.toNat_natCast, tb_and, Nat.testBit_eq_decide_div_mod_eq]
  have hp : 0 < 2 ^ k := Nat.two_pow_pos k
  have h2 : n / 2 ^ k % 2 < 2 := Nat.mod_lt _ (by decide)
  by_cases hb : n / 2 ^ k % 2 = 1
  · rw [hb]
    simp
  · have hb0 : n / 2 ^ k % 2 = 0 := by omega
    rw [hb0]
    simp
    have : ((2 : Int) ^ k) = ((2 ^ k : Nat) : Int) := by simp
    omega
theorem bit_two {m : Int} (h0 : 0 ≤ m) (k j y : Nat) (hy : 2 ^ k ||| 2 ^ j = y) (h1 : y ≠ 2 ^ k) (h2 : y ≠ 0) : ((bitAnd m (y : Int) == (y : Int)) = true → (bitAnd m ((2 ^ j : Nat) : Int) == ((2 ^ j : Nat) : Int)) = true) ∧
    ((bitAnd m (y : Int) == (y : Int)) = false → (bitAnd m ((2 ^ k : Nat) : Int) == ((2 ^ k : Nat) : Int)) = true → (bitAnd m ((2 ^ j : Nat) : Int) == ((2 ^ j : Nat) : Int)) = false) := by
  rw [and_nat h0, and_nat h0, and_nat h0]
  generalize m.toNat = n
  have e : n &&& y = (n &&& 2 ^ k) ||| (n &&& 2 ^ j) := by rw [← hy, Nat.and_or_distrib_left]
  have hk := tb_and n k
  have hj := tb_and n j
  have pk : 0 < 2 ^ k := Nat.two_pow_pos k
  have pj : 0 < 2 ^ j := Nat.two_pow_pos j
  refine ⟨fun h => ?_, fun h h' => ?_⟩
  · have h3 : n &&& y = y := by have := eq_of_beq h; omega
    rw [beq_iff_eq]
    cases bj : n.testBit j with
    | true => rw [bj, if_pos rfl] at hj; rw [hj]
    | false =>
      rw [bj, if_neg Bool.false_ne_true] at hj
      cases bk : n.testBit k with
      | true => rw [bk, if_pos rfl] at hk; rw [hk, hj, Nat.or_zero, h3] at e; exact absurd e h1
      | false => rw [bk, if_neg Bool.false_ne_true] at hk; rw [hk, hj, Nat.or_zero, h3] at e; exact absurd e h2
  · have h3 : n &&& 2 ^ k = 2 ^ k := by have := eq_of_beq h'; omega
    rw [beq_eq_false_iff_ne]
    intro h4
    have h5 : n &&& 2 ^ j = 2 ^ j := by omega
    rw [h3, h5, hy] at e
    rw [e] at h
    simp at h
end Mine
end
section
namespace Mine
set_option maxHeartbeats 8000000
open Builtin (bitAnd)
noncomputable def hFm0_n : List Hm := [.go [.ld 43], .cl none, .go [.ld 43], .ag none, .go [.ld 43, .ld 42], .cl none, .go [.ld 42], .ag none, .go [.ld 42, .ld 42, .ld 7, .ld 42, .up 42], .rt, .go [.ld 43, .ld 43, .fr, .ld 43, .up 43, .ld 43, .up 43, .al, .ld 43, .ld 43, .ld 43, .up 43, .ld 43, .up 43, .ld 43, .up 43], .rt]
noncomputable def hFm0_a : List Hm := [.go [.ld 44, .ld 44, .ld 44], .cl none, .go [.ld 44], .ag none, .go [.al], .rt, .go [.ld 45, .ld 45], .cl none, .go [.ld 45], .ag none, .go [.ld 45, .ld 45, .ld 44, .ld 45, .up 45], .rt, .go [.ld 45], .cl none, .go [.ld 45], .ag none, .go [.ld 45, .ld 45, .ld 44, .ld 45, .up 45], .rt, .go [.ld 45], .cl none, .go [.ld 45], .ag none, .go [.ld 45, .ld 45, .ld 44, .ld 45, .up 45, .al, .al], .hd, .rt, .go [.ld 47, .fr, .ld 40, .up 40, .fr, .ld 40, .up 40]]
noncomputable def hFm0_0 : List Hm := [.go [.ld 40, .ld 8, .ld 8], .cl none, .go [.ld 8], .ag none, .go [.al], .rt, .go [.ld 44], .cl none, .go [.ld 44], .cl none, .go [.ld 44], .ag none, .go [.ld 44, .ld 44, .ld 8, .ld 44, .up 44], .rt, .go [.ld 44, .ld 18, .ld 18, .ld 18], .cl none, .go [.ld 18], .ag none, .go [.al], .rt, .go [.ld 45, .ld 45], .cl none, .go [.ld 45], .ag none, .go [.ld 45, .ld 45, .ld 18, .ld 45, .up 45], .rt, .go [.ld 45], .cl none, .go [.ld 45], .ag none, .go [.ld 45, .ld 45, .ld 18, .ld 45, .up 45], .rt, .go [.ld 45], .cl none, .go [.ld 45], .ag none, .go [.ld 45, .ld 45, .ld 18, .ld 45, .up 45, .al, .al], .hd, .rt, .go [.ld 47, .fr, .ld 40, .up 40, .fr, .ld 40, .up 40, .ld 40, .fr], .cl none, .ag none, .rt, .go [.ld 3, .ld 40, .ld 5], .cl (some (5, 6)), .go [.al, .fr, .ld 48, .up 48], .ag none, .go [.ld 48, .fr], .cl none, .ag none, .go [.fr], .rt, .rt, .go [.ld 40], .ct (.bool true) 0 [], .go [.ld 40, .ld 41, .ld 41, .ld 41, .ld 41, .ld 40], .cl none, .go [.ld 41], .ag none, .go [.ld 41, .up 41, .ld 41], .rt, .rt]
noncomputable def hFm0_1 : List Hm := [.go [.ld 40, .ld 8, .ld 8], .cl none, .go [.ld 8], .ag none, .go [.al], .rt, .go [.ld 44], .cl none, .go [.ld 44], .cl none, .go [.ld 44], .ag none, .go [.ld 44, .ld 44, .ld 8, .ld 44, .up 44], .rt, .go [.ld 44, .ld 18, .ld 18, .ld 18], .cl none, .go [.ld 18], .ag none, .go [.al], .rt, .go [.ld 45, .ld 45], .cl none, .go [.ld 45], .ag none, .go [.ld 45, .ld 45, .ld 18, .ld 45, .up 45], .rt, .go [.ld 45], .cl none, .go [.ld 45], .ag none, .go [.ld 45, .ld 45, .ld 18, .ld 45, .up 45], .rt, .go [.ld 45], .cl none, .go [.ld 45], .ag none, .go [.ld 45, .ld 45, .ld 18, .ld 45, .up 45, .al, .al], .hd, .rt, .go [.ld 47, .fr, .ld 40, .up 40, .fr, .ld 40, .up 40, .ld 40, .fr], .cl none, .ag none, .rt, .go [.ld 3, .ld 40, .ld 5], .cl (some (5, 6)), .go [.al, .fr, .ld 48, .up 48], .ag none, .go [.ld 48, .fr], .cl none, .ag none, .go [.fr], .rt, .rt, .go [.ld 40], .ct (.bool false) 0 [], .ag none, .go [.ld 44], .cl none, .go [.ld 44], .ag none, .go [.ld 44, .ld 44, .ld 8, .ld 44, .up 44], .rt, .go [.ld 44, .ld 19, .ld 19, .ld 19], .cl none, .go [.ld 19], .ag none, .go [.al], .rt, .go [.ld 49, .ld 49], .cl none, .go [.ld 49], .ag none, .go [.ld 49, .ld 49, .ld 19, .ld 49, .up 49], .rt, .go [.ld 49], .cl none, .go [.ld 49], .ag none, .go [.ld 49, .ld 49, .ld 19, .ld 49, .up 49], .rt, .go [.ld 49], .cl none, .go [.ld 49], .ag none, .go [.ld 49, .ld 49, .ld 19, .ld 49, .up 49, .al, .al], .hd, .rt, .go [.ld 51, .fr, .ld 40, .up 40, .fr, .ld 40, .up 40, .ld 40, .fr], .cl none, .ag none, .rt, .go [.ld 3, .ld 40, .ld 5], .cl (some (5, 6)), .go [.al, .fr, .ld 52, .up 52], .ag none, .go [.ld 52, .fr], .cl none, .ag none, .go [.fr], .rt, .rt, .go [.ld 40], .ct (.bool true) 0 [], .go [.ld 40, .ld 41, .ld 41, .ld 41, .ld 41, .ld 40], .cl none, .go [.ld 41], .ag none, .go [.ld 41, .up 41, .ld 41], .rt, .rt]
noncomputable def hFm0_2 : List Hm := [.go [.ld 40, .ld 8, .ld 8], .cl none, .go [.ld 8], .ag none, .go [.al], .rt, .go [.ld 44], .cl none, .go [.ld 44], .cl none, .go [.ld 44], .ag none, .go [.ld 44, .ld 44, .ld 8, .ld 44, .up 44], .rt, .go [.ld 44, .ld 18, .ld 18, .ld 18], .cl none, .go [.ld 18], .ag none, .go [.al], .rt, .go [.ld 45, .ld 45], .cl none, .go [.ld 45], .ag none, .go [.ld 45, .ld 45, .ld 18, .ld 45, .up 45], .rt, .go [.ld 45], .cl none, .go [.ld 45], .ag none, .go [.ld 45, .ld 45, .ld 18, .ld 45, .up 45], .rt, .go [.ld 45], .cl none, .go [.ld 45], .ag none, .go [.ld 45, .ld 45, .ld 18, .ld 45, .up 45, .al, .al], .hd, .rt, .go [.ld 47, .fr, .ld 40, .up 40, .fr, .ld 40, .up 40, .ld 40, .fr], .cl none, .ag none, .rt, .go [.ld 3, .ld 40, .ld 5], .cl (some (5, 6)), .go [.al, .fr, .ld 48, .up 48], .ag none, .go [.ld 48, .fr], .cl none, .ag none, .go [.fr], .rt, .rt, .go [.ld 40], .ct (.bool false) 0 [], .ag none, .go [.ld 44], .cl none, .go [.ld 44], .ag none, .go [.ld 44, .ld 44, .ld 8, .ld 44, .up 44], .rt, .go [.ld 44, .ld 19, .ld 19, .ld 19], .cl none, .go [.ld 19], .ag none, .go [.al], .rt, .go [.ld 49, .ld 49], .cl none, .go [.ld 49], .ag none, .go [.ld 49, .ld 49, .ld 19, .ld 49, .up 49], .rt, .go [.ld 49], .cl none, .go [.ld 49], .ag none, .go [.ld 49, .ld 49, .ld 19, .ld 49, .up 49], .rt, .go [.ld 49], .cl none, .go [.ld 49], .ag none, .go [.ld 49, .ld 49, .ld 19, .ld 49, .up 49, .al, .al], .hd, .rt, .go [.ld 51, .fr, .ld 40, .up 40, .fr, .ld 40, .up 40, .ld 40, .fr], .cl none, .ag none, .rt, .go [.ld 3, .ld 40, .ld 5], .cl (some (5, 6)), .go [.al, .fr, .ld 52, .up 52], .ag none, .go [.ld 52, .fr], .cl none, .ag none, .go [.fr], .rt, .rt, .go [.ld 40], .ct (.bool false) 0 [], .ag none, .go [.ld 44], .cl none, .go [.ld 44], .ag none, .go [.ld 44, .ld 44, .ld 8, .ld 44, .up 44], .rt, .go [.ld 44, .ld 20, .ld 20, .ld 20], .cl none, .go [.ld 20], .ag none, .go [.al], .rt, .go [.ld 53, .ld 53], .cl none, .go [.ld 53], .ag none, .go [.ld 53, .ld 53, .ld 20, .ld 53, .up 53], .rt, .go [.ld 53], .cl none, .go [.ld 53], .ag none, .go [.ld 53, .ld 53, .ld 20, .ld 53, .up 53], .rt, .go [.ld 53], .cl none, .go [.ld 53], .ag none, .go [.ld 53, .ld 53, .ld 20, .ld 53, .up 53, .al, .al], .hd, .rt, .go [.ld 55, .fr, .ld 40, .up 40, .fr, .ld 40, .up 40, .ld 40, .fr], .cl none, .ag none, .rt, .go [.ld 3, .ld 40, .ld 5], .cl (some (5, 6)), .go [.al, .fr, .ld 56, .up 56], .ag none, .go [.ld 56, .fr], .cl none, .ag none, .go [.fr], .rt, .rt, .go [.ld 40], .ct (.bool true) 0 [], .go [.ld 40, .ld 41, .ld 41, .ld 41, .ld 41, .ld 40], .cl none, .go [.ld 41], .ag none, .go [.ld 41, .up 41, .ld 41], .rt, .rt]
noncomputable def hFm0_3 : List Hm := [.go [.ld 40, .ld 8, .ld 8], .cl none, .go [.ld 8], .ag none, .go [.al], .rt, .go [.ld 44], .cl none, .go [.ld 44], .cl none, .go [.ld 44], .ag none, .go [.ld 44, .ld 44, .ld 8, .ld 44, .up 44], .rt, .go [.ld 44, .ld 18, .ld 18, .ld 18], .cl none, .go [.ld 18], .ag none, .go [.al], .rt, .go [.ld 45, .ld 45], .cl none, .go [.ld 45], .ag none, .go [.ld 45, .ld 45, .ld 18, .ld 45, .up 45], .rt, .go [.ld 45], .cl none, .go [.ld 45], .ag none, .go [.ld 45, .ld 45, .ld 18, .ld 45, .up 45], .rt, .go [.ld 45], .cl none, .go [.ld 45], .ag none, .go [.ld 45, .ld 45, .ld 18, .ld 45, .up 45, .al, .al], .hd, .rt, .go [.ld 47, .fr, .ld 40, .up 40, .fr, .ld 40, .up 40, .ld 40, .fr], .cl none, .ag none, .rt, .go [.ld 3, .ld 40, .ld 5], .cl (some (5, 6)), .go [.al, .fr, .ld 48, .up 48], .ag none, .go [.ld 48, .fr], .cl none, .ag none, .go [.fr], .rt, .rt, .go [.ld 40], .ct (.bool false) 0 [], .ag none, .go [.ld 44], .cl none, .go [.ld 44], .ag none, .go [.ld 44, .ld 44, .ld 8, .ld 44, .up 44], .rt, .go [.ld 44, .ld 19, .ld 19, .ld 19], .cl none, .go [.ld 19], .ag none, .go [.al], .rt, .go [.ld 49, .ld 49], .cl none, .go [.ld 49], .ag none, .go [.ld 49, .ld 49, .ld 19, .ld 49, .up 49], .rt, .go [.ld 49], .cl none, .go [.ld 49], .ag none, .go [.ld 49, .ld 49, .ld 19, .ld 49, .up 49], .rt, .go [.ld 49], .cl none, .go [.ld 49], .ag none, .go [.ld 49, .ld 49, .ld 19, .ld 49, .up 49, .al, .al], .hd, .rt, .go [.ld 51, .fr, .ld 40, .up 40, .fr, .ld 40, .up 40, .ld 40, .fr], .cl none, .ag none, .rt, .go [.ld 3, .ld 40, .ld 5], .cl (some (5, 6)), .go [.al, .fr, .ld 52, .up 52], .ag none, .go [.ld 52, .fr], .cl none, .ag none, .go [.fr], .rt, .rt, .go [.ld 40], .ct (.bool false) 0 [], .ag none, .go [.ld 44], .cl none, .go [.ld 44], .ag none, .go [.ld 44, .ld 44, .ld 8, .ld 44, .up 44], .rt, .go [.ld 44, .ld 20, .ld 20, .ld 20], .cl none, .go [.ld 20], .ag none, .go [.al], .rt, .go [.ld 53, .ld 53], .cl none, .go [.ld 53], .ag none, .go [.ld 53, .ld 53, .ld 20, .ld 53, .up 53], .rt, .go [.ld 53], .cl none, .go [.ld 53], .ag none, .go [.ld 53, .ld 53, .ld 20, .ld 53, .up 53], .rt, .go [.ld 53], .cl none, .go [.ld 53], .ag none, .go [.ld 53, .ld 53, .ld 20, .ld 53, .up 53, .al, .al], .hd, .rt, .go [.ld 55, .fr, .ld 40, .up 40, .fr, .ld 40, .up 40, .ld 40, .fr], .cl none, .ag none, .rt, .go [.ld 3, .ld 40, .ld 5], .cl (some (5, 6)), .go [.al, .fr, .ld 56, .up 56], .ag none, .go [.ld 56, .fr], .cl none, .ag none, .go [.fr], .rt, .rt, .go [.ld 40], .ct (.bool false) 0 [], .ag none, .go [.ld 44], .cl none, .go [.ld 44], .ag none, .go [.ld 44, .ld 44, .ld 8, .ld 44, .up 44], .rt, .go [.ld 44, .ld 21, .ld 21, .ld 21], .cl none, .go [.ld 21], .ag none, .go [.al], .rt, .go [.ld 57, .ld 57], .cl none, .go [.ld 57], .ag none, .go [.ld 57, .ld 57, .ld 21, .ld 57, .up 57], .rt, .go [.ld 57], .cl none, .go [.ld 57], .ag none, .go [.ld 57, .ld 57, .ld 21, .ld 57, .up 57], .rt, .go [.ld 57], .cl none, .go [.ld 57], .ag none, .go [.ld 57, .ld 57, .ld 21, .ld 57, .up 57, .al, .al], .hd, .rt, .go [.ld 59, .fr, .ld 40, .up 40, .fr, .ld 40, .up 40, .ld 40, .fr], .cl none, .ag none, .rt, .go [.ld 3, .ld 40, .ld 5], .cl (some (5, 6)), .go [.al, .fr, .ld 60, .up 60], .ag none, .go [.ld 60, .fr], .cl none, .ag none, .go [.fr], .rt, .rt, .go [.ld 40], .ct (.bool true) 0 [], .go [.ld 40, .ld 41, .ld 41, .ld 41, .ld 41, .ld 40], .cl none, .go [.ld 41], .ag none, .go [.ld 41, .up 41, .ld 41], .rt, .rt]
noncomputable def hFm0_4 : List Hm := [.go [.ld 40, .ld 8, .ld 8], .cl none, .go [.ld 8], .ag none, .go [.al], .rt, .go [.ld 44], .cl none, .go [.ld 44], .cl none, .go [.ld 44], .ag none, .go [.ld 44, .ld 44, .ld 8, .ld 44, .up 44], .rt, .go [.ld 44, .ld 18, .ld 18, .ld 18], .cl none, .go [.ld 18], .ag none, .go [.al], .rt, .go [.ld 45, .ld 45], .cl none, .go [.ld 45], .ag none, .go [.ld 45, .ld 45, .ld 18, .ld 45, .up 45], .rt, .go [.ld 45], .cl none, .go [.ld 45], .ag none, .go [.ld 45, .ld 45, .ld 18, .ld 45, .up 45], .rt, .go [.ld 45], .cl none, .go [.ld 45], .ag none, .go [.ld 45, .ld 45, .ld 18, .ld 45, .up 45, .al, .al], .hd, .rt, .go [.ld 47, .fr, .ld 40, .up 40, .fr, .ld 40, .up 40, .ld 40, .fr], .cl none, .ag none, .rt, .go [.ld 3, .ld 40, .ld 5], .cl (some (5, 6)), .go [.al, .fr, .ld 48, .up 48], .ag none, .go [.ld 48, .fr], .cl none, .ag none, .go [.fr], .rt, .rt, .go [.ld 40], .ct (.bool false) 0 [], .ag none, .go [.ld 44], .cl none, .go [.ld 44], .ag none, .go [.ld 44, .ld 44, .ld 8, .ld 44, .up 44], .rt, .go [.ld 44, .ld 19, .ld 19, .ld 19], .cl none, .go [.ld 19], .ag none, .go [.al], .rt, .go [.ld 49, .ld 49], .cl none, .go [.ld 49], .ag none, .go [.ld 49, .ld 49, .ld 19, .ld 49, .up 49], .rt, .go [.ld 49], .cl none, .go [.ld 49], .ag none, .go [.ld 49, .ld 49, .ld 19, .ld 49, .up 49], .rt, .go [.ld 49], .cl none, .go [.ld 49], .ag none, .go [.ld 49, .ld 49, .ld 19, .ld 49, .up 49, .al, .al], .hd, .rt, .go [.ld 51, .fr, .ld 40, .up 40, .fr, .ld 40, .up 40, .ld 40, .fr], .cl none, .ag none, .rt, .go [.ld 3, .ld 40, .ld 5], .cl (some (5, 6)), .go [.al, .fr, .ld 52, .up 52], .ag none, .go [.ld 52, .fr], .cl none, .ag none, .go [.fr], .rt, .rt, .go [.ld 40], .ct (.bool false) 0 [], .ag none, .go [.ld 44], .cl none, .go [.ld 44], .ag none, .go [.ld 44, .ld 44, .ld 8, .ld 44, .up 44], .rt, .go [.ld 44, .ld 20, .ld 20, .ld 20], .cl none, .go [.ld 20], .ag none, .go [.al], .rt, .go [.ld 53, .ld 53], .cl none, .go [.ld 53], .ag none, .go [.ld 53, .ld 53, .ld 20, .ld 53, .up 53], .rt, .go [.ld 53], .cl none, .go [.ld 53], .ag none, .go [.ld 53, .ld 53, .ld 20, .ld 53, .up 53], .rt, .go [.ld 53], .cl none, .go [.ld 53], .ag none, .go [.ld 53, .ld 53, .ld 20, .ld 53, .up 53, .al, .al], .hd, .rt, .go [.ld 55, .fr, .ld 40, .up 40, .fr, .ld 40, .up 40, .ld 40, .fr], .cl none, .ag none, .rt, .go [.ld 3, .ld 40, .ld 5], .cl (some (5, 6)), .go [.al, .fr, .ld 56, .up 56], .ag none, .go [.ld 56, .fr], .cl none, .ag none, .go [.fr], .rt, .rt, .go [.ld 40], .ct (.bool false) 0 [], .ag none, .go [.ld 44], .cl none, .go [.ld 44], .ag none, .go [.ld 44, .ld 44, .ld 8, .ld 44, .up 44], .rt, .go [.ld 44, .ld 21, .ld 21, .ld 21], .cl none, .go [.ld 21], .ag none, .go [.al], .rt, .go [.ld 57, .ld 57], .cl none, .go [.ld 57], .ag none, .go [.ld 57, .ld 57, .ld 21, .ld 57, .up 57], .rt, .go [.ld 57], .cl none, .go [.ld 57], .ag none, .go [.ld 57, .ld 57, .ld 21, .ld 57, .up 57], .rt, .go [.ld 57], .cl none, .go [.ld 57], .ag none, .go [.ld 57, .ld 57, .ld 21, .ld 57, .up 57, .al, .al], .hd, .rt, .go [.ld 59, .fr, .ld 40, .up 40, .fr, .ld 40, .up 40, .ld 40, .fr], .cl none, .ag none, .rt, .go [.ld 3, .ld 40, .ld 5], .cl (some (5, 6)), .go [.al, .fr, .ld 60, .up 60], .ag none, .go [.ld 60, .fr], .cl none, .ag none, .go [.fr], .rt, .rt, .go [.ld 40], .ct (.bool false) 0 [], .ag none, .go [.ld 44], .cl none, .go [.ld 44], .ag none, .go [.ld 44, .ld 44, .ld 8, .ld 44, .up 44], .rt, .go [.ld 44, .ld 22, .ld 22, .ld 22], .cl none, .go [.ld 22], .ag none, .go [.al], .rt, .go [.ld 61, .ld 61], .cl none, .go [.ld 61], .ag none, .go [.ld 61, .ld 61, .ld 22, .ld 61, .up 61], .rt, .go [.ld 61], .cl none, .go [.ld 61], .ag none, .go [.ld 61, .ld 61, .ld 22, .ld 61, .up 61], .rt, .go [.ld 61], .cl none, .go [.ld 61], .ag none, .go [.ld 61, .ld 61, .ld 22, .ld 61, .up 61, .al, .al], .hd, .rt, .go [.ld 63, .fr, .ld 40, .up 40, .fr, .ld 40, .up 40, .ld 40, .fr], .cl none, .ag none, .rt, .go [.ld 3, .ld 40, .ld 5], .cl (some (5, 6)), .go [.al, .fr, .ld 64, .up 64], .ag none, .go [.ld 64, .fr], .cl none, .ag none, .go [.fr], .rt, .rt, .go [.ld 40], .ct (.bool true) 0 [], .go [.ld 40, .ld 41, .ld 41, .ld 41, .ld 41, .ld 40], .cl none, .go [.ld 41], .ag none, .go [.ld 41, .up 41, .ld 41], .rt, .rt]
noncomputable def hFm0_5 : List Hm := [.go [.ld 40, .ld 8, .ld 8], .cl none, .go [.ld 8], .ag none, .go [.al], .rt, .go [.ld 44], .cl none, .go [.ld 44], .cl none, .go [.ld 44], .ag none, .go [.ld 44, .ld 44, .ld 8, .ld 44, .up 44], .rt, .go [.ld 44, .ld 18, .ld 18, .ld 18], .cl none, .go [.ld 18], .ag none, .go [.al], .rt, .go [.ld 45, .ld 45], .cl none, .go [.ld 45], .ag none, .go [.ld 45, .ld 45, .ld 18, .ld 45, .up 45], .rt, .go [.ld 45], .cl none, .go [.ld 45], .ag none, .go [.ld 45, .ld 45, .ld 18, .ld 45, .up 45], .rt, .go [.ld 45], .cl none, .go [.ld 45], .ag none, .go [.ld 45, .ld 45, .ld 18, .ld 45, .up 45, .al, .al], .hd, .rt, .go [.ld 47, .fr, .ld 40, .up 40, .fr, .ld 40, .up 40, .ld 40, .fr], .cl none, .ag none, .rt, .go [.ld 3, .ld 40, .ld 5], .cl (some (5, 6)), .go [.al, .fr, .ld 48, .up 48], .ag none, .go [.ld 48, .fr], .cl none, .ag none, .go [.fr], .rt, .rt, .go [.ld 40], .ct (.bool false) 0 [], .ag none, .go [.ld 44], .cl none, .go [.ld 44], .ag none, .go [.ld 44, .ld 44, .ld 8, .ld 44, .up 44], .rt, .go [.ld 44, .ld 19, .ld 19, .ld 19], .cl none, .go [.ld 19], .ag none, .go [.al], .rt, .go [.ld 49, .ld 49], .cl none, .go [.ld 49], .ag none, .go [.ld 49, .ld 49, .ld 19, .ld 49, .up 49], .rt, .go [.ld 49], .cl none, .go [.ld 49], .ag none, .go [.ld 49, .ld 49, .ld 19, .ld 49, .up 49], .rt, .go [.ld 49], .cl none, .go [.ld 49], .ag none, .go [.ld 49, .ld 49, .ld 19, .ld 49, .up 49, .al, .al], .hd, .rt, .go [.ld 51, .fr, .ld 40, .up 40, .fr, .ld 40, .up 40, .ld 40, .fr], .cl none, .ag none, .rt, .go [.ld 3, .ld 40, .ld 5], .cl (some (5, 6)), .go [.al, .fr, .ld 52, .up 52], .ag none, .go [.ld 52, .fr], .cl none, .ag none, .go [.fr], .rt, .rt, .go [.ld 40], .ct (.bool false) 0 [], .ag none, .go [.ld 44], .cl none, .go [.ld 44], .ag none, .go [.ld 44, .ld 44, .ld 8, .ld 44, .up 44], .rt, .go [.ld 44, .ld 20, .ld 20, .ld 20], .cl none, .go [.ld 20], .ag none, .go [.al], .rt, .go [.ld 53, .ld 53], .cl none, .go [.ld 53], .ag none, .go [.ld 53, .ld 53, .ld 20, .ld 53, .up 53], .rt, .go [.ld 53], .cl none, .go [.ld 53], .ag none, .go [.ld 53, .ld 53, .ld 20, .ld 53, .up 53], .rt, .go [.ld 53], .cl none, .go [.ld 53], .ag none, .go [.ld 53, .ld 53, .ld 20, .ld 53, .up 53, .al, .al], .hd, .rt, .go [.ld 55, .fr, .ld 40, .up 40, .fr, .ld 40, .up 40, .ld 40, .fr], .cl none, .ag none, .rt, .go [.ld 3, .ld 40, .ld 5], .cl (some (5, 6)), .go [.al, .fr, .ld 56, .up 56], .ag none, .go [.ld 56, .fr], .cl none, .ag none, .go [.fr], .rt, .rt, .go [.ld 40], .ct (.bool false) 0 [], .ag none, .go [.ld 44], .cl none, .go [.ld 44], .ag none, .go [.ld 44, .ld 44, .ld 8, .ld 44, .up 44], .rt, .go [.ld 44, .ld 21, .ld 21, .ld 21], .cl none, .go [.ld 21], .ag none, .go [.al], .rt, .go [.ld 57, .ld 57], .cl none, .go [.ld 57], .ag none, .go [.ld 57, .ld 57, .ld 21, .ld 57, .up 57], .rt, .go [.ld 57], .cl none, .go [.ld 57], .ag none, .go [.ld 57, .ld 57, .ld 21, .ld 57, .up 57], .rt, .go [.ld 57], .cl none, .go [.ld 57], .ag none, .go [.ld 57, .ld 57, .ld 21, .ld 57, .up 57, .al, .al], .hd, .rt, .go [.ld 59, .fr, .ld 40, .up 40, .fr, .ld 40, .up 40, .ld 40, .fr], .cl none, .ag none, .rt, .go [.ld 3, .ld 40, .ld 5], .cl (some (5, 6)), .go [.al, .fr, .ld 60, .up 60], .ag none, .go [.ld 60, .fr], .cl none, .ag none, .go [.fr], .rt, .rt, .go [.ld 40], .ct (.bool false) 0 [], .ag none, .go [.ld 44], .cl none, .go [.ld 44], .ag none, .go [.ld 44, .ld 44, .ld 8, .ld 44, .up 44], .rt, .go [.ld 44, .ld 22, .ld 22, .ld 22], .cl none, .go [.ld 22], .ag none, .go [.al], .rt, .go [.ld 61, .ld 61], .cl none, .go [.ld 61], .ag none, .go [.ld 61, .ld 61, .ld 22, .ld 61, .up 61], .rt, .go [.ld 61], .cl none, .go [.ld 61], .ag none, .go [.ld 61, .ld 61, .ld 22, .ld 61, .up 61], .rt, .go [.ld 61], .cl none, .go [.ld 61], .ag none, .go [.ld 61, .ld 61, .ld 22, .ld 61, .up 61, .al, .al], .hd, .rt, .go [.ld 63, .fr, .ld 40, .up 40, .fr, .ld 40, .up 40, .ld 40, .fr], .cl none, .ag none, .rt, .go [.ld 3, .ld 40, .ld 5], .cl (some (5, 6)), .go [.al, .fr, .ld 64, .up 64], .ag none, .go [.ld 64, .fr], .cl none, .ag none, .go [.fr], .rt, .rt, .go [.ld 40], .ct (.bool false) 0 [], .ag none, .go [.ld 44], .cl none, .go [.ld 44], .ag none, .go [.ld 44, .ld 44, .ld 8, .ld 44, .up 44], .rt, .go [.ld 44, .ld 23, .ld 23, .ld 23], .cl none, .go [.ld 23], .ag none, .go [.al], .rt, .go [.ld 65, .ld 65], .cl none, .go [.ld 65], .ag none, .go [.ld 65, .ld 65, .ld 23, .ld 65, .up 65], .rt, .go [.ld 65], .cl none, .go [.ld 65], .ag none, .go [.ld 65, .ld 65, .ld 23, .ld 65, .up 65], .rt, .go [.ld 65], .cl none, .go [.ld 65], .ag none, .go [.ld 65, .ld 65, .ld 23, .ld 65, .up 65, .al, .al], .hd, .rt, .go [.ld 67, .fr, .ld 40, .up 40, .fr, .ld 40, .up 40, .ld 40, .fr], .cl none, .ag none, .rt, .go [.ld 3, .ld 40, .ld 5], .cl (some (5, 6)), .go [.al, .fr, .ld 68, .up 68], .ag none, .go [.ld 68, .fr], .cl none, .ag none, .go [.fr], .rt, .rt, .go [.ld 40], .ct (.bool true) 0 [], .go [.ld 40, .ld 41, .ld 41, .ld 41, .ld 41, .ld 40], .cl none, .go [.ld 41], .ag none, .go [.ld 41, .up 41, .ld 41], .rt, .rt]
noncomputable def hFm0_6 : List Hm := [.go [.ld 40, .ld 8, .ld 8], .cl none, .go [.ld 8], .ag none, .go [.al], .rt, .go [.ld 44], .cl none, .go [.ld 44], .cl none, .go [.ld 44], .ag none, .go [.ld 44, .ld 44, .ld 8, .ld 44, .up 44], .rt, .go [.ld 44, .ld 18, .ld 18, .ld 18], .cl none, .go [.ld 18], .ag none, .go [.al], .rt, .go [.ld 45, .ld 45], .cl none, .go [.ld 45], .ag none, .go [.ld 45, .ld 45, .ld 18, .ld 45, .up 45], .rt, .go [.ld 45], .cl none, .go [.ld 45], .ag none, .go [.ld 45, .ld 45, .ld 18, .ld 45, .up 45], .rt, .go [.ld 45], .cl none, .go [.ld 45], .ag none, .go [.ld 45, .ld 45, .ld 18, .ld 45, .up 45, .al, .al], .hd, .rt, .go [.ld 47, .fr, .ld 40, .up 40, .fr, .ld 40, .up 40, .ld 40, .fr], .cl none, .ag none, .rt, .go [.ld 3, .ld 40, .ld 5], .cl (some (5, 6)), .go [.al, .fr, .ld 48, .up 48], .ag none, .go [.ld 48, .fr], .cl none, .ag none, .go [.fr], .rt, .rt, .go [.ld 40], .ct (.bool false) 0 [], .ag none, .go [.ld 44], .cl none, .go [.ld 44], .ag none, .go [.ld 44, .ld 44, .ld 8, .ld 44, .up 44], .rt, .go [.ld 44, .ld 19, .ld 19, .ld 19], .cl none, .go [.ld 19], .ag none, .go [.al], .rt, .go [.ld 49, .ld 49], .cl none, .go [.ld 49], .ag none, .go [.ld 49, .ld 49, .ld 19, .ld 49, .up 49], .rt, .go [.ld 49], .cl none, .go [.ld 49], .ag none, .go [.ld 49, .ld 49, .ld 19, .ld 49, .up 49], .rt, .go [.ld 49], .cl none, .go [.ld 49], .ag none, .go [.ld 49, .ld 49, .ld 19, .ld 49, .up 49, .al, .al], .hd, .rt, .go [.ld 51, .fr, .ld 40, .up 40, .fr, .ld 40, .up 40, .ld 40, .fr], .cl none, .ag none, .rt, .go [.ld 3, .ld 40, .ld 5], .cl (some (5, 6)), .go [.al, .fr, .ld 52, .up 52], .ag none, .go [.ld 52, .fr], .cl none, .ag none, .go [.fr], .rt, .rt, .go [.ld 40], .ct (.bool false) 0 [], .ag none, .go [.ld 44], .cl none, .go [.ld 44], .ag none, .go [.ld 44, .ld 44, .ld 8, .ld 44, .up 44], .rt, .go [.ld 44, .ld 20, .ld 20, .ld 20], .cl none, .go [.ld 20], .ag none, .go [.al], .rt, .go [.ld 53, .ld 53], .cl none, .go [.ld 53], .ag none, .go [.ld 53, .ld 53, .ld 20, .ld 53, .up 53], .rt, .go [.ld 53], .cl none, .go [.ld 53], .ag none, .go [.ld 53, .ld 53, .ld 20, .ld 53, .up 53], .rt, .go [.ld 53], .cl none, .go [.ld 53], .ag none, .go [.ld 53, .ld 53, .ld 20, .ld 53, .up 53, .al, .al], .hd, .rt, .go [.ld 55, .fr, .ld 40, .up 40, .fr, .ld 40, .up 40, .ld 40, .fr], .cl none, .ag none, .rt, .go [.ld 3, .ld 40, .ld 5], .cl (some (5, 6)), .go [.al, .fr, .ld 56, .up 56], .ag none, .go [.ld 56, .fr], .cl none, .ag none, .go [.fr], .rt, .rt, .go [.ld 40], .ct (.bool false) 0 [], .ag none, .go [.ld 44], .cl none, .go [.ld 44], .ag none, .go [.ld 44, .ld 44, .ld 8, .ld 44, .up 44], .rt, .go [.ld 44, .ld 21, .ld 21, .ld 21], .cl none, .go [.ld 21], .ag none, .go [.al], .rt, .go [.ld 57, .ld 57], .cl none, .go [.ld 57], .ag none, .go [.ld 57, .ld 57, .ld 21, .ld 57, .up 57], .rt, .go [.ld 57], .cl none, .go [.ld 57], .ag none, .go [.ld 57, .ld 57, .ld 21, .ld 57, .up 57], .rt, .go [.ld 57], .cl none, .go [.ld 57], .ag none, .go [.ld 57, .ld 57, .ld 21, .ld 57, .up 57, .al, .al], .hd, .rt, .go [.ld 59, .fr, .ld 40, .up 40, .fr, .ld 40, .up 40, .ld 40, .fr], .cl none, .ag none, .rt, .go [.ld 3, .ld 40, .ld 5], .cl (some (5, 6)), .go [.al, .fr, .ld 60, .up 60], .ag none, .go [.ld 60, .fr], .cl none, .ag none, .go [.fr], .rt, .rt, .go [.ld 40], .ct (.bool false) 0 [], .ag none, .go [.ld 44], .cl none, .go [.ld 44], .ag none, .go [.ld 44, .ld 44, .ld 8, .ld 44, .up 44], .rt, .go [.ld 44, .ld 22, .ld 22, .ld 22], .cl none, .go [.ld 22], .ag none, .go [.al], .rt, .go [.ld 61, .ld 61], .cl none, .go [.ld 61], .ag none, .go [.ld 61, .ld 61, .ld 22, .ld 61, .up 61], .rt, .go [.ld 61], .cl none, .go [.ld 61], .ag none, .go [.ld 61, .ld 61, .ld 22, .ld 61, .up 61], .rt, .go [.ld 61], .cl none, .go [.ld 61], .ag none, .go [.ld 61, .ld 61, .ld 22, .ld 61, .up 61, .al, .al], .hd, .rt, .go [.ld 63, .fr, .ld 40, .up 40, .fr, .ld 40, .up 40, .ld 40, .fr], .cl none, .ag none, .rt, .go [.ld 3, .ld 40, .ld 5], .cl (some (5, 6)), .go [.al, .fr, .ld 64, .up 64], .ag none, .go [.ld 64, .fr], .cl none, .ag none, .go [.fr], .rt, .rt, .go [.ld 40], .ct (.bool false) 0 [], .ag none, .go [.ld 44], .cl none, .go [.ld 44], .ag none, .go [.ld 44, .ld 44, .ld 8, .ld 44, .up 44], .rt, .go [.ld 44, .ld 23, .ld 23, .ld 23], .cl none, .go [.ld 23], .ag none, .go [.al], .rt, .go [.ld 65, .ld 65], .cl none, .go [.ld 65], .ag none, .go [.ld 65, .ld 65, .ld 23, .ld 65, .up 65], .rt, .go [.ld 65], .cl none, .go [.ld 65], .ag none, .go [.ld 65, .ld 65, .ld 23, .ld 65, .up 65], .rt, .go [.ld 65], .cl none, .go [.ld 65], .ag none, .go [.ld 65, .ld 65, .ld 23, .ld 65, .up 65, .al, .al], .hd, .rt, .go [.ld 67, .fr, .ld 40, .up 40, .fr, .ld 40, .up 40, .ld 40, .fr], .cl none, .ag none, .rt, .go [.ld 3, .ld 40, .ld 5], .cl (some (5, 6)), .go [.al, .fr, .ld 68, .up 68], .ag none, .go [.ld 68, .fr], .cl none, .ag none, .go [.fr], .rt, .rt, .go [.ld 40], .ct (.bool false) 0 [], .ag none, .go [.ld 44], .cl none, .go [.ld 44], .ag none, .go [.ld 44, .ld 44, .ld 8, .ld 44, .up 44], .rt, .go [.ld 44, .ld 24, .ld 24, .ld 24], .cl none, .go [.ld 24], .ag none, .go [.al], .rt, .go [.ld 69, .ld 69], .cl none, .go [.ld 69], .ag none, .go [.ld 69, .ld 69, .ld 24, .ld 69, .up 69], .rt, .go [.ld 69], .cl none, .go [.ld 69], .ag none, .go [.ld 69, .ld 69, .ld 24, .ld 69, .up 69], .rt, .go [.ld 69], .cl none, .go [.ld 69], .ag none, .go [.ld 69, .ld 69, .ld 24, .ld 69, .up 69, .al, .al], .hd, .rt, .go [.ld 71, .fr, .ld 40, .up 40, .fr, .ld 40, .up 40, .ld 40, .fr], .cl none, .ag none, .rt, .go [.ld 3, .ld 40, .ld 5], .cl (some (5, 6)), .go [.al, .fr, .ld 72, .up 72], .ag none, .go [.ld 72, .fr], .cl none, .ag none, .go [.fr], .rt, .rt, .go [.ld 40], .ct (.bool true) 0 [], .go [.ld 40, .ld 41, .ld 41, .ld 41, .ld 41, .ld 40], .cl none, .go [.ld 41], .ag none, .go [.ld 41, .up 41, .ld 41], .rt, .rt]
noncomputable def hFm0_7 : List Hm := [.go [.ld 40, .ld 8, .ld 8], .cl none, .go [.ld 8], .ag none, .go [.al], .rt, .go [.ld 44], .cl none, .go [.ld 44], .cl none, .go [.ld 44], .ag none, .go [.ld 44, .ld 44, .ld 8, .ld 44, .up 44], .rt, .go [.ld 44, .ld 18, .ld 18, .ld 18], .cl none, .go [.ld 18], .ag none, .go [.al], .rt, .go [.ld 45, .ld 45], .cl none, .go [.ld 45], .ag none, .go [.ld 45, .ld 45, .ld 18, .ld 45, .up 45], .rt, .go [.ld 45], .cl none, .go [.ld 45], .ag none, .go [.ld 45, .ld 45, .ld 18, .ld 45, .up 45], .rt, .go [.ld 45], .cl none, .go [.ld 45], .ag none, .go [.ld 45, .ld 45, .ld 18, .ld 45, .up 45, .al, .al], .hd, .rt, .go [.ld 47, .fr, .ld 40, .up 40, .fr, .ld 40, .up 40, .ld 40, .fr], .cl none, .ag none, .rt, .go [.ld 3, .ld 40, .ld 5], .cl (some (5, 6)), .go [.al, .fr, .ld 48, .up 48], .ag none, .go [.ld 48, .fr], .cl none, .ag none, .go [.fr], .rt, .rt, .go [.ld 40], .ct (.bool false) 0 [], .ag none, .go [.ld 44], .cl none, .go [.ld 44], .ag none, .go [.ld 44, .ld 44, .ld 8, .ld 44, .up 44], .rt, .go [.ld 44, .ld 19, .ld 19, .ld 19], .cl none, .go [.ld 19], .ag none, .go [.al], .rt, .go [.ld 49, .ld 49], .cl none, .go [.ld 49], .ag none, .go [.ld 49, .ld 49, .ld 19, .ld 49, .up 49], .rt, .go [.ld 49], .cl none, .go [.ld 49], .ag none, .go [.ld 49, .ld 49, .ld 19, .ld 49, .up 49], .rt, .go [.ld 49], .cl none, .go [.ld 49], .ag none, .go [.ld 49, .ld 49, .ld 19, .ld 49, .up 49, .al, .al], .hd, .rt, .go [.ld 51, .fr, .ld 40, .up 40, .fr, .ld 40, .up 40, .ld 40, .fr], .cl none, .ag none, .rt, .go [.ld 3, .ld 40, .ld 5], .cl (some (5, 6)), .go [.al, .fr, .ld 52, .up 52], .ag none, .go [.ld 52, .fr], .cl none, .ag none, .go [.fr], .rt, .rt, .go [.ld 40], .ct (.bool false) 0 [], .ag none, .go [.ld 44], .cl none, .go [.ld 44], .ag none, .go [.ld 44, .ld 44, .ld 8, .ld 44, .up 44], .rt, .go [.ld 44, .ld 20, .ld 20, .ld 20], .cl none, .go [.ld 20], .ag none, .go [.al], .rt, .go [.ld 53, .ld 53], .cl none, .go [.ld 53], .ag none, .go [.ld 53, .ld 53, .ld 20, .ld 53, .up 53], .rt, .go [.ld 53], .cl none, .go [.ld 53], .ag none, .go [.ld 53, .ld 53, .ld 20, .ld 53, .up 53], .rt, .go [.ld 53], .cl none, .go [.ld 53], .ag none, .go [.ld 53, .ld 53, .ld 20, .ld 53, .up 53, .al, .al], .hd, .rt, .go [.ld 55, .fr, .ld 40, .up 40, .fr, .ld 40, .up 40, .ld 40, .fr], .cl none, .ag none, .rt, .go [.ld 3, .ld 40, .ld 5], .cl (some (5, 6)), .go [.al, .fr, .ld 56, .up 56], .ag none, .go [.ld 56, .fr], .cl none, .ag none, .go [.fr], .rt, .rt, .go [.ld 40], .ct (.bool false) 0 [], .ag none, .go [.ld 44], .cl none, .go [.ld 44], .ag none, .go [.ld 44, .ld 44, .ld 8, .ld 44, .up 44], .rt, .go [.ld 44, .ld 21, .ld 21, .ld 21], .cl none, .go [.ld 21], .ag none, .go [.al], .rt, .go [.ld 57, .ld 57], .cl none, .go [.ld 57], .ag none, .go [.ld 57, .ld 57, .ld 21, .ld 57, .up 57], .rt, .go [.ld 57], .cl none, .go [.ld 57], .ag none, .go [.ld 57, .ld 57, .ld 21, .ld 57, .up 57], .rt, .go [.ld 57], .cl none, .go [.ld 57], .ag none, .go [.ld 57, .ld 57, .ld 21, .ld 57, .up 57, .al, .al], .hd, .rt, .go [.ld 59, .fr, .ld 40, .up 40, .fr, .ld 40, .up 40, .ld 40, .fr], .cl none, .ag none, .rt, .go [.ld 3, .ld 40, .ld 5], .cl (some (5, 6)), .go [.al, .fr, .ld 60, .up 60], .ag none, .go [.ld 60, .fr], .cl none, .ag none, .go [.fr], .rt, .rt, .go [.ld 40], .ct (.bool false) 0 [], .ag none, .go [.ld 44], .cl none, .go [.ld 44], .ag none, .go [.ld 44, .ld 44, .ld 8, .ld 44, .up 44], .rt, .go [.ld 44, .ld 22, .ld 22, .ld 22], .cl none, .go [.ld 22], .ag none, .go [.al], .rt, .go [.ld 61, .ld 61], .cl none, .go [.ld 61], .ag none, .go [.ld 61, .ld 61, .ld 22, .ld 61, .up 61], .rt, .go [.ld 61], .cl none, .go [.ld 61], .ag none, .go [.ld 61, .ld 61, .ld 22, .ld 61, .up 61], .rt, .go [.ld 61], .cl none, .go [.ld 61], .ag none, .go [.ld 61, .ld 61, .ld 22, .ld 61, .up 61, .al, .al], .hd, .rt, .go [.ld 63, .fr, .ld 40, .up 40, .fr, .ld 40, .up 40, .ld 40, .fr], .cl none, .ag none, .rt, .go [.ld 3, .ld 40, .ld 5], .cl (some (5, 6)), .go [.al, .fr, .ld 64, .up 64], .ag none, .go [.ld 64, .fr], .cl none, .ag none, .go [.fr], .rt, .rt, .go [.ld 40], .ct (.bool false) 0 [], .ag none, .go [.ld 44], .cl none, .go [.ld 44], .ag none, .go [.ld 44, .ld 44, .ld 8, .ld 44, .up 44], .rt, .go [.ld 44, .ld 23, .ld 23, .ld 23], .cl none, .go [.ld 23], .ag none, .go [.al], .rt, .go [.ld 65, .ld 65], .cl none, .go [.ld 65], .ag none, .go [.ld 65, .ld 65, .ld 23, .ld 65, .up 65], .rt, .go [.ld 65], .cl none, .go [.ld 65], .ag none, .go [.ld 65, .ld 65, .ld 23, .ld 65, .up 65], .rt, .go [.ld 65], .cl none, .go [.ld 65], .ag none, .go [.ld 65, .ld 65, .ld 23, .ld 65, .up 65, .al, .al], .hd, .rt, .go [.ld 67, .fr, .ld 40, .up 40, .fr, .ld 40, .up 40, .ld 40, .fr], .cl none, .ag none, .rt, .go [.ld 3, .ld 40, .ld 5], .cl (some (5, 6)), .go [.al, .fr, .ld 68, .up 68], .ag none, .go [.ld 68, .fr], .cl none, .ag none, .go [.fr], .rt, .rt, .go [.ld 40], .ct (.bool false) 0 [], .ag none, .go [.ld 44], .cl none, .go [.ld 44], .ag none, .go [.ld 44, .ld 44, .ld 8, .ld 44, .up 44], .rt, .go [.ld 44, .ld 24, .ld 24, .ld 24], .cl none, .go [.ld 24], .ag none, .go [.al], .rt, .go [.ld 69, .ld 69], .cl none, .go [.ld 69], .ag none, .go [.ld 69, .ld 69, .ld 24, .ld 69, .up 69], .rt, .go [.ld 69], .cl none, .go [.ld 69], .ag none, .go [.ld 69, .ld 69, .ld 24, .ld 69, .up 69], .rt, .go [.ld 69], .cl none, .go [.ld 69], .ag none, .go [.ld 69, .ld 69, .ld 24, .ld 69, .up 69, .al, .al], .hd, .rt, .go [.ld 71, .fr, .ld 40, .up 40, .fr, .ld 40, .up 40, .ld 40, .fr], .cl none, .ag none, .rt, .go [.ld 3, .ld 40, .ld 5], .cl (some (5, 6)), .go [.al, .fr, .ld 72, .up 72], .ag none, .go [.ld 72, .fr], .cl none, .ag none, .go [.fr], .rt, .rt, .go [.ld 40], .ct (.bool false) 0 [], .ag none, .go [.ld 44], .cl none, .go [.ld 44], .ag none, .go [.ld 44, .ld 44, .ld 8, .ld 44, .up 44, .al, .al], .hd, .rt, .go [.ld 74], .ag none, .go [.ld 40, .fr], .cl none, .ag none, .rt, .go [.ld 40, .ld 41, .ld 41, .ld 41, .ld 41, .fr], .cl none, .go [.ld 41], .ag none, .go [.ld 41, .up 41, .ld 41], .rt, .rt]
theorem fm_row0 {D : Nat} {w : World} {h0 h : Heap} {L0 : List (Addr × Obj)} {g : Array GenState} {d : Drawn} {tk t0 : Nat} {os : OsState} {N Z : Nat} {A : Around} {R : Result → Shared → Prop} {m : Int} {tm : Tok}
    (hD : D ≤ 780) (hA : Bd D A) (S : Sg L0 h0 (FmL0 w N t0 m tm) Z h)
    (hR : ∀ h' A' c t tk' Z' iv it rt bv bt cs ct, Bd D A' → tk ≤ tk' → decide (c < 128) = true → Sg L0 h0 (FmR.L ⟨t0, m, tm, tk + 1, tk + 2, tk + 3, tk + 4, .int iv it, .ref rt, .int bv bt, .str cs ct⟩ w N [.str (chS c) t] 1 (.ref 66)) Z' h' → codeAny (model PG w) A' (fmC N) R ⟨h', g, d, tk', os⟩) :
    codeAny (model PG w) A (fmC N) R ⟨h, g, d, tk, os⟩ := by
  refine forStep ?_
  refine opTop (D := D) fun W hW => ?_
  refine opX hW hD hA S 0 hFm0_n (List.range 45) [] (some (.ref Z)) (FmN (frO (FmR.e0 w N t0 m tm) 2) w N [] 0 66 Z tk) (Z + 1) (tk + 1) (fun b => by cases b <;> kernel_rfl) (by decide) .nil fun h1 S1 => ?_
  refine owned ⟨_, _, _, rfl⟩ S1 (n := 43) (e := N + 3) (it := N + 2) (a := Z) (i := 1) (r := .ref 66) rfl fun h2 S2 => ?_
  refine opTop (D := D) fun W2 hW2 => ?_
  refine opX hW2 hD hA S2 0 hFm0_a (List.range 44) [] () (FmA (frO (FmR.e1 w N t0 m tm tk 66) 4) w N [] 0 66) (Z + 4) (tk + 3) (fun b => by cases b <;> kernel_rfl) (by decide) .nil fun h3 S3 => ?_
  refine opTop (D := D) fun W3 hW3 => ?_
  cases q0 : (bitAnd m 61440 == 40960) with
  | true =>
    exact opX hW3 hD hA S3 0 hFm0_0 (List.range 44) _ .next (FmR.L ⟨t0, m, tm, tk + 1, tk + 2, tk + 3, tk + 4, .int 0 tk, .ref 66, (.int 40960 253), (.str (chS 108) 281)⟩ w N [.str (chS 108) 281] 1 (.ref 66)) (Z + 9) (tk + 9) (fun b => by cases b <;> kernel_rfl) (by decide) (.cons (oIe (bitAnd m 61440) (tk + 8) 40960 253 (tk + 9) q0) <| .nil) fun h' S' => hR h' A _ _ _ _ _ _ _ _ _ _ _ hA (by omega) (by decide) S'
  | false =>
    cases q1 : (bitAnd m 61440 == 49152) with
    | true =>
      exact opX hW3 hD hA S3 0 hFm0_1 (List.range 44) _ .next (FmR.L ⟨t0, m, tm, tk + 1, tk + 2, tk + 3, tk + 4, .int 0 tk, .ref 66, (.int 49152 255), (.str (chS 115) 282)⟩ w N [.str (chS 115) 282] 1 (.ref 66)) (Z + 13) (tk + 15) (fun b => by cases b <;> kernel_rfl) (by decide) (.cons (oIe (bitAnd m 61440) (tk + 8) 40960 253 (tk + 9) q0) <| .cons (oIe (bitAnd m 61440) (tk + 14) 49152 255 (tk + 15) q1) <| .nil) fun h' S' => hR h' A _ _ _ _ _ _ _ _ _ _ _ hA (by omega) (by decide) S'
    | false =>
      cases q2 : (bitAnd m 61440 == 32768) with
      | true =>
        exact opX hW3 hD hA S3 0 hFm0_2 (List.range 44) _ .next (FmR.L ⟨t0, m, tm, tk + 1, tk + 2, tk + 3, tk + 4, .int 0 tk, .ref 66, (.int 32768 249), (.str (chS 45) 283)⟩ w N [.str (chS 45) 283] 1 (.ref 66)) (Z + 17) (tk + 21) (fun b => by cases b <;> kernel_rfl) (by decide) (.cons (oIe (bitAnd m 61440) (tk + 8) 40960 253 (tk + 9) q0) <| .cons (oIe (bitAnd m 61440) (tk + 14) 49152 255 (tk + 15) q1) <| .cons (oIe (bitAnd m 61440) (tk + 20) 32768 249 (tk + 21) q2) <| .nil) fun h' S' => hR h' A _ _ _ _ _ _ _ _ _ _ _ hA (by omega) (by decide) S'
      | false =>
        cases q3 : (bitAnd m 61440 == 24576) with
        | true =>
          exact opX hW3 hD hA S3 0 hFm0_3 (List.range 44) _ .next (FmR.L ⟨t0, m, tm, tk + 1, tk + 2, tk + 3, tk + 4, .int 0 tk, .ref 66, (.int 24576 247), (.str (chS 98) 284)⟩ w N [.str (chS 98) 284] 1 (.ref 66)) (Z + 21) (tk + 27) (fun b => by cases b <;> kernel_rfl) (by decide) (.cons (oIe (bitAnd m 61440) (tk + 8) 40960 253 (tk + 9) q0) <| .cons (oIe (bitAnd m 61440) (tk + 14) 49152 255 (tk + 15) q1) <| .cons (oIe (bitAnd m 61440) (tk + 20) 32768 249 (tk + 21) q2) <| .cons (oIe (bitAnd m 61440) (tk + 26) 24576 247 (tk + 27) q3) <| .nil) fun h' S' => hR h' A _ _ _ _ _ _ _ _ _ _ _ hA (by omega) (by decide) S'
        | false =>
          cases q4 : (bitAnd m 61440 == 16384) with
          | true =>
            exact opX hW3 hD hA S3 0 hFm0_4 (List.range 44) _ .next (FmR.L ⟨t0, m, tm, tk + 1, tk + 2, tk + 3, tk + 4, .int 0 tk, .ref 66, (.int 16384 243), (.str (chS 100) 285)⟩ w N [.str (chS 100) 285] 1 (.ref 66)) (Z + 25) (tk + 33) (fun b => by cases b <;> kernel_rfl) (by decide) (.cons (oIe (bitAnd m 61440) (tk + 8) 40960 253 (tk + 9) q0) <| .cons (oIe (bitAnd m 61440) (tk + 14) 49152 255 (tk + 15) q1) <| .cons (oIe (bitAnd m 61440) (tk + 20) 32768 249 (tk + 21) q2) <| .cons (oIe (bitAnd m 61440) (tk + 26) 24576 247 (tk + 27) q3) <| .cons (oIe (bitAnd m 61440) (tk + 32) 16384 243 (tk + 33) q4) <| .nil) fun h' S' => hR h' A _ _ _ _ _ _ _ _ _ _ _ hA (by omega) (by decide) S'
          | false =>
            cases q5 : (bitAnd m 61440 == 8192) with
            | true =>
              exact opX hW3 hD hA S3 0 hFm0_5 (List.range 44) _ .next (FmR.L ⟨t0, m, tm, tk + 1, tk + 2, tk + 3, tk + 4, .int 0 tk, .ref 66, (.int 8192 245), (.str (chS 99) 286)⟩ w N [.str (chS 99) 286] 1 (.ref 66)) (Z + 29) (tk + 39) (fun b => by cases b <;> kernel_rfl) (by decide) (.cons (oIe (bitAnd m 61440) (tk + 8) 40960 253 (tk + 9) q0) <| .cons (oIe (bitAnd m 61440) (tk + 14) 49152 255 (tk + 15) q1) <| .cons (oIe (bitAnd m 61440) (tk + 20) 32768 249 (tk + 21) q2) <| .cons (oIe (bitAnd m 61440) (tk + 26) 24576 247 (tk + 27) q3) <| .cons (oIe (bitAnd m 61440) (tk + 32) 16384 243 (tk + 33) q4) <| .cons (oIe (bitAnd m 61440) (tk + 38) 8192 245 (tk + 39) q5) <| .nil) fun h' S' => hR h' A _ _ _ _ _ _ _ _ _ _ _ hA (by omega) (by decide) S'
            | false =>
              cases q6 : (bitAnd m 61440 == 4096) with
              | true =>
                exact opX hW3 hD hA S3 0 hFm0_6 (List.range 44) _ .next (FmR.L ⟨t0, m, tm, tk + 1, tk + 2, tk + 3, tk + 4, .int 0 tk, .ref 66, (.int 4096 251), (.str (chS 112) 287)⟩ w N [.str (chS 112) 287] 1 (.ref 66)) (Z + 33) (tk + 45) (fun b => by cases b <;> kernel_rfl) (by decide) (.cons (oIe (bitAnd m 61440) (tk + 8) 40960 253 (tk + 9) q0) <| .cons (oIe (bitAnd m 61440) (tk + 14) 49152 255 (tk + 15) q1) <| .cons (oIe (bitAnd m 61440) (tk + 20) 32768 249 (tk + 21) q2) <| .cons (oIe (bitAnd m 61440) (tk + 26) 24576 247 (tk + 27) q3) <| .cons (oIe (bitAnd m 61440) (tk + 32) 16384 243 (tk + 33) q4) <| .cons (oIe (bitAnd m 61440) (tk + 38) 8192 245 (tk + 39) q5) <| .cons (oIe (bitAnd m 61440) (tk + 44) 4096 251 (tk + 45) q6) <| .nil) fun h' S' => hR h' A _ _ _ _ _ _ _ _ _ _ _ hA (by omega) (by decide) S'
              | false =>
                exact opX hW3 hD hA S3 0 hFm0_7 (List.range 44) _ .next (FmR.L ⟨t0, m, tm, tk + 1, tk + 2, tk + 3, tk + 4, .int 0 tk, .ref 66, (.int 4096 251), (.str (chS 112) 287)⟩ w N [.str (chS 63) (tk + 46)] 1 (.ref 66)) (Z + 35) (tk + 47) (fun b => by cases b <;> kernel_rfl) (by decide) (.cons (oIe (bitAnd m 61440) (tk + 8) 40960 253 (tk + 9) q0) <| .cons (oIe (bitAnd m 61440) (tk + 14) 49152 255 (tk + 15) q1) <| .cons (oIe (bitAnd m 61440) (tk + 20) 32768 249 (tk + 21) q2) <| .cons (oIe (bitAnd m 61440) (tk + 26) 24576 247 (tk + 27) q3) <| .cons (oIe (bitAnd m 61440) (tk + 32) 16384 243 (tk + 33) q4) <| .cons (oIe (bitAnd m 61440) (tk + 38) 8192 245 (tk + 39) q5) <| .cons (oIe (bitAnd m 61440) (tk + 44) 4096 251 (tk + 45) q6) <| .nil) fun h' S' => hR h' A _ _ _ _ _ _ _ _ _ _ _ hA (by omega) (by decide) S'
end Mine
end
section
namespace Mine
set_option maxHeartbeats 8000000
open Builtin (bitAnd)
noncomputable def hFm1_n : List Hm := [.go [.ld 43], .cl none, .go [.ld 43], .ag none, .go [.ld 43, .ld 42], .cl none, .go [.ld 42], .ag none, .go [.ld 42, .ld 42, .ld 7, .ld 42, .up 42], .rt, .go [.ld 43, .ld 43, .fr, .ld 43, .up 43, .ld 43, .up 43, .al, .ld 43, .ld 43, .ld 43, .up 43, .ld 43, .up 43, .ld 43, .up 43], .rt]
noncomputable def hFm1_a : List Hm := [.go [.ld 44, .ld 44, .ld 44], .cl none, .go [.ld 44], .ag none, .go [.al], .rt, .go [.ld 45, .ld 45], .cl none, .go [.ld 45], .ag none, .go [.ld 45, .ld 45, .ld 44, .ld 45, .up 45], .rt, .go [.ld 45], .cl none, .go [.ld 45], .ag none, .go [.ld 45, .ld 45, .ld 44, .ld 45, .up 45], .rt, .go [.ld 45], .cl none, .go [.ld 45], .ag none, .go [.ld 45, .ld 45, .ld 44, .ld 45, .up 45, .al, .al], .hd, .rt, .go [.ld 47, .fr, .ld 40, .up 40, .fr, .ld 40, .up 40]]
noncomputable def hFm1_0 : List Hm := [.go [.ld 40, .ld 9, .ld 9], .cl none, .go [.ld 9], .ag none, .go [.al], .rt, .go [.ld 44], .cl none, .go [.ld 44], .cl none, .go [.ld 44], .ag none, .go [.ld 44, .ld 44, .ld 9, .ld 44, .up 44], .rt, .go [.ld 44, .ld 25, .ld 25, .ld 25], .cl none, .go [.ld 25], .ag none, .go [.al], .rt, .go [.ld 45, .ld 45], .cl none, .go [.ld 45], .ag none, .go [.ld 45, .ld 45, .ld 25, .ld 45, .up 45], .rt, .go [.ld 45], .cl none, .go [.ld 45], .ag none, .go [.ld 45, .ld 45, .ld 25, .ld 45, .up 45], .rt, .go [.ld 45], .cl none, .go [.ld 45], .ag none, .go [.ld 45, .ld 45, .ld 25, .ld 45, .up 45, .al, .al], .hd, .rt, .go [.ld 47, .fr, .ld 40, .up 40, .fr, .ld 40, .up 40, .ld 40, .fr], .cl none, .ag none, .rt, .go [.ld 40, .ld 40], .cl none, .ag none, .go [.fr], .rt, .go [.ld 40], .ct (.bool true) 0 [], .go [.ld 40, .ld 41, .ld 41, .ld 41, .ld 41, .ld 40], .cl none, .go [.ld 41], .ag none, .go [.ld 41, .up 41, .ld 41], .rt, .rt]
noncomputable def hFm1_1 : List Hm := [.go [.ld 40, .ld 9, .ld 9], .cl none, .go [.ld 9], .ag none, .go [.al], .rt, .go [.ld 44], .cl none, .go [.ld 44], .cl none, .go [.ld 44], .ag none, .go [.ld 44, .ld 44, .ld 9, .ld 44, .up 44], .rt, .go [.ld 44, .ld 25, .ld 25, .ld 25], .cl none, .go [.ld 25], .ag none, .go [.al], .rt, .go [.ld 45, .ld 45], .cl none, .go [.ld 45], .ag none, .go [.ld 45, .ld 45, .ld 25, .ld 45, .up 45], .rt, .go [.ld 45], .cl none, .go [.ld 45], .ag none, .go [.ld 45, .ld 45, .ld 25, .ld 45, .up 45], .rt, .go [.ld 45], .cl none, .go [.ld 45], .ag none, .go [.ld 45, .ld 45, .ld 25, .ld 45, .up 45, .al, .al], .hd, .rt, .go [.ld 47, .fr, .ld 40, .up 40, .fr, .ld 40, .up 40, .ld 40, .fr], .cl none, .ag none, .rt, .go [.ld 40, .ld 40], .cl none, .ag none, .go [.fr], .rt, .go [.ld 40], .ct (.bool false) 0 [], .ag none, .go [.ld 44], .cl none, .go [.ld 44], .ag none, .go [.ld 44, .ld 44, .ld 9, .ld 44, .up 44, .al, .al], .hd, .rt, .go [.ld 49], .ag none, .go [.ld 40, .fr], .cl none, .ag none, .rt, .go [.ld 40, .ld 41, .ld 41, .ld 41, .ld 41, .fr], .cl none, .go [.ld 41], .ag none, .go [.ld 41, .up 41, .ld 41], .rt, .rt]
noncomputable def hFm2_n : List Hm := [.go [.ld 43], .cl none, .go [.ld 43], .ag none, .go [.ld 43, .ld 42], .cl none, .go [.ld 42], .ag none, .go [.ld 42, .ld 42, .ld 7, .ld 42, .up 42], .rt, .go [.ld 43, .ld 43, .fr, .ld 43, .up 43, .ld 43, .up 43, .al, .ld 43, .ld 43, .ld 43, .up 43, .ld 43, .up 43, .ld 43, .up 43], .rt]
noncomputable def hFm2_a : List Hm := [.go [.ld 44, .ld 44, .ld 44], .cl none, .go [.ld 44], .ag none, .go [.al], .rt, .go [.ld 45, .ld 45], .cl none, .go [.ld 45], .ag none, .go [.ld 45, .ld 45, .ld 44, .ld 45, .up 45], .rt, .go [.ld 45], .cl none, .go [.ld 45], .ag none, .go [.ld 45, .ld 45, .ld 44, .ld 45, .up 45], .rt, .go [.ld 45], .cl none, .go [.ld 45], .ag none, .go [.ld 45, .ld 45, .ld 44, .ld 45, .up 45, .al, .al], .hd, .rt, .go [.ld 47, .fr, .ld 40, .up 40, .fr, .ld 40, .up 40]]
noncomputable def hFm2_0 : List Hm := [.go [.ld 40, .ld 10, .ld 10], .cl none, .go [.ld 10], .ag none, .go [.al], .rt, .go [.ld 44], .cl none, .go [.ld 44], .cl none, .go [.ld 44], .ag none, .go [.ld 44, .ld 44, .ld 10, .ld 44, .up 44], .rt, .go [.ld 44, .ld 26, .ld 26, .ld 26], .cl none, .go [.ld 26], .ag none, .go [.al], .rt, .go [.ld 45, .ld 45], .cl none, .go [.ld 45], .ag none, .go [.ld 45, .ld 45, .ld 26, .ld 45, .up 45], .rt, .go [.ld 45], .cl none, .go [.ld 45], .ag none, .go [.ld 45, .ld 45, .ld 26, .ld 45, .up 45], .rt, .go [.ld 45], .cl none, .go [.ld 45], .ag none, .go [.ld 45, .ld 45, .ld 26, .ld 45, .up 45, .al, .al], .hd, .rt, .go [.ld 47, .fr, .ld 40, .up 40, .fr, .ld 40, .up 40, .ld 40, .fr], .cl none, .ag none, .rt, .go [.ld 40, .ld 40], .cl none, .ag none, .go [.fr], .rt, .go [.ld 40], .ct (.bool true) 0 [], .go [.ld 40, .ld 41, .ld 41, .ld 41, .ld 41, .ld 40], .cl none, .go [.ld 41], .ag none, .go [.ld 41, .up 41, .ld 41], .rt, .rt]
noncomputable def hFm2_1 : List Hm := [.go [.ld 40, .ld 10, .ld 10], .cl none, .go [.ld 10], .ag none, .go [.al], .rt, .go [.ld 44], .cl none, .go [.ld 44], .cl none, .go [.ld 44], .ag none, .go [.ld 44, .ld 44, .ld 10, .ld 44, .up 44], .rt, .go [.ld 44, .ld 26, .ld 26, .ld 26], .cl none, .go [.ld 26], .ag none, .go [.al], .rt, .go [.ld 45, .ld 45], .cl none, .go [.ld 45], .ag none, .go [.ld 45, .ld 45, .ld 26, .ld 45, .up 45], .rt, .go [.ld 45], .cl none, .go [.ld 45], .ag none, .go [.ld 45, .ld 45, .ld 26, .ld 45, .up 45], .rt, .go [.ld 45], .cl none, .go [.ld 45], .ag none, .go [.ld 45, .ld 45, .ld 26, .ld 45, .up 45, .al, .al], .hd, .rt, .go [.ld 47, .fr, .ld 40, .up 40, .fr, .ld 40, .up 40, .ld 40, .fr], .cl none, .ag none, .rt, .go [.ld 40, .ld 40], .cl none, .ag none, .go [.fr], .rt, .go [.ld 40], .ct (.bool false) 0 [], .ag none, .go [.ld 44], .cl none, .go [.ld 44], .ag none, .go [.ld 44, .ld 44, .ld 10, .ld 44, .up 44, .al, .al], .hd, .rt, .go [.ld 49], .ag none, .go [.ld 40, .fr], .cl none, .ag none, .rt, .go [.ld 40, .ld 41, .ld 41, .ld 41, .ld 41, .fr], .cl none, .go [.ld 41], .ag none, .go [.ld 41, .up 41, .ld 41], .rt, .rt]
noncomputable def hFm3_n : List Hm := [.go [.ld 43], .cl none, .go [.ld 43], .ag none, .go [.ld 43, .ld 42], .cl none, .go [.ld 42], .ag none, .go [.ld 42, .ld 42, .ld 7, .ld 42, .up 42], .rt, .go [.ld 43, .ld 43, .fr, .ld 43, .up 43, .ld 43, .up 43, .al, .ld 43, .ld 43, .ld 43, .up 43, .ld 43, .up 43, .ld 43, .up 43], .rt]
noncomputable def hFm3_a : List Hm := [.go [.ld 44, .ld 44, .ld 44], .cl none, .go [.ld 44], .ag none, .go [.al], .rt, .go [.ld 45, .ld 45], .cl none, .go [.ld 45], .ag none, .go [.ld 45, .ld 45, .ld 44, .ld 45, .up 45], .rt, .go [.ld 45], .cl none, .go [.ld 45], .ag none, .go [.ld 45, .ld 45, .ld 44, .ld 45, .up 45], .rt, .go [.ld 45], .cl none, .go [.ld 45], .ag none, .go [.ld 45, .ld 45, .ld 44, .ld 45, .up 45, .al, .al], .hd, .rt, .go [.ld 47, .fr, .ld 40, .up 40, .fr, .ld 40, .up 40]]
noncomputable def hFm3_0 : List Hm := [.go [.ld 40, .ld 11, .ld 11], .cl none, .go [.ld 11], .ag none, .go [.al], .rt, .go [.ld 44], .cl none, .go [.ld 44], .cl none, .go [.ld 44], .ag none, .go [.ld 44, .ld 44, .ld 11, .ld 44, .up 44], .rt, .go [.ld 44, .ld 27, .ld 27, .ld 27], .cl none, .go [.ld 27], .ag none, .go [.al], .rt, .go [.ld 45, .ld 45], .cl none, .go [.ld 45], .ag none, .go [.ld 45, .ld 45, .ld 27, .ld 45, .up 45], .rt, .go [.ld 45], .cl none, .go [.ld 45], .ag none, .go [.ld 45, .ld 45, .ld 27, .ld 45, .up 45], .rt, .go [.ld 45], .cl none, .go [.ld 45], .ag none, .go [.ld 45, .ld 45, .ld 27, .ld 45, .up 45, .al, .al], .hd, .rt, .go [.ld 47, .fr, .ld 40, .up 40, .fr, .ld 40, .up 40, .ld 40, .fr], .cl none, .ag none, .rt, .go [.ld 40, .ld 40], .cl none, .ag none, .go [.fr], .rt, .go [.ld 40], .ct (.bool true) 0 [], .go [.ld 40, .ld 41, .ld 41, .ld 41, .ld 41, .ld 40], .cl none, .go [.ld 41], .ag none, .go [.ld 41, .up 41, .ld 41], .rt, .rt]
noncomputable def hFm3_1 : List Hm := [.go [.ld 40, .ld 11, .ld 11], .cl none, .go [.ld 11], .ag none, .go [.al], .rt, .go [.ld 44], .cl none, .go [.ld 44], .cl none, .go [.ld 44], .ag none, .go [.ld 44, .ld 44, .ld 11, .ld 44, .up 44], .rt, .go [.ld 44, .ld 27, .ld 27, .ld 27], .cl none, .go [.ld 27], .ag none, .go [.al], .rt, .go [.ld 45, .ld 45], .cl none, .go [.ld 45], .ag none, .go [.ld 45, .ld 45, .ld 27, .ld 45, .up 45], .rt, .go [.ld 45], .cl none, .go [.ld 45], .ag none, .go [.ld 45, .ld 45, .ld 27, .ld 45, .up 45], .rt, .go [.ld 45], .cl none, .go [.ld 45], .ag none, .go [.ld 45, .ld 45, .ld 27, .ld 45, .up 45, .al, .al], .hd, .rt, .go [.ld 47, .fr, .ld 40, .up 40, .fr, .ld 40, .up 40, .ld 40, .fr], .cl none, .ag none, .rt, .go [.ld 40, .ld 40], .cl none, .ag none, .go [.fr], .rt, .go [.ld 40], .ct (.bool false) 0 [], .ag none, .go [.ld 44], .cl none, .go [.ld 44], .ag none, .go [.ld 44, .ld 44, .ld 11, .ld 44, .up 44], .rt, .go [.ld 44, .ld 28, .ld 28, .ld 28], .cl none, .go [.ld 28], .ag none, .go [.al], .rt, .go [.ld 48, .ld 48], .cl none, .go [.ld 48], .ag none, .go [.ld 48, .ld 48, .ld 28, .ld 48, .up 48], .rt, .go [.ld 48], .cl none, .go [.ld 48], .ag none, .go [.ld 48, .ld 48, .ld 28, .ld 48, .up 48], .rt, .go [.ld 48], .cl none, .go [.ld 48], .ag none, .go [.ld 48, .ld 48, .ld 28, .ld 48, .up 48, .al, .al], .hd, .rt, .go [.ld 50, .fr, .ld 40, .up 40, .fr, .ld 40, .up 40, .ld 40, .fr], .cl none, .ag none, .rt, .go [.ld 40, .ld 40], .cl none, .ag none, .go [.fr], .rt, .go [.ld 40], .ct (.bool true) 0 [], .go [.ld 40, .ld 41, .ld 41, .ld 41, .ld 41, .ld 40], .cl none, .go [.ld 41], .ag none, .go [.ld 41, .up 41, .ld 41], .rt, .rt]
noncomputable def hFm3_2 : List Hm := [.go [.ld 40, .ld 11, .ld 11], .cl none, .go [.ld 11], .ag none, .go [.al], .rt, .go [.ld 44], .cl none, .go [.ld 44], .cl none, .go [.ld 44], .ag none, .go [.ld 44, .ld 44, .ld 11, .ld 44, .up 44], .rt, .go [.ld 44, .ld 27, .ld 27, .ld 27], .cl none, .go [.ld 27], .ag none, .go [.al], .rt, .go [.ld 45, .ld 45], .cl none, .go [.ld 45], .ag none, .go [.ld 45, .ld 45, .ld 27, .ld 45, .up 45], .rt, .go [.ld 45], .cl none, .go [.ld 45], .ag none, .go [.ld 45, .ld 45, .ld 27, .ld 45, .up 45], .rt, .go [.ld 45], .cl none, .go [.ld 45], .ag none, .go [.ld 45, .ld 45, .ld 27, .ld 45, .up 45, .al, .al], .hd, .rt, .go [.ld 47, .fr, .ld 40, .up 40, .fr, .ld 40, .up 40, .ld 40, .fr], .cl none, .ag none, .rt, .go [.ld 40, .ld 40], .cl none, .ag none, .go [.fr], .rt, .go [.ld 40], .ct (.bool false) 0 [], .ag none, .go [.ld 44], .cl none, .go [.ld 44], .ag none, .go [.ld 44, .ld 44, .ld 11, .ld 44, .up 44], .rt, .go [.ld 44, .ld 28, .ld 28, .ld 28], .cl none, .go [.ld 28], .ag none, .go [.al], .rt, .go [.ld 48, .ld 48], .cl none, .go [.ld 48], .ag none, .go [.ld 48, .ld 48, .ld 28, .ld 48, .up 48], .rt, .go [.ld 48], .cl none, .go [.ld 48], .ag none, .go [.ld 48, .ld 48, .ld 28, .ld 48, .up 48], .rt, .go [.ld 48], .cl none, .go [.ld 48], .ag none, .go [.ld 48, .ld 48, .ld 28, .ld 48, .up 48, .al, .al], .hd, .rt, .go [.ld 50, .fr, .ld 40, .up 40, .fr, .ld 40, .up 40, .ld 40, .fr], .cl none, .ag none, .rt, .go [.ld 40, .ld 40], .cl none, .ag none, .go [.fr], .rt, .go [.ld 40], .ct (.bool false) 0 [], .ag none, .go [.ld 44], .cl none, .go [.ld 44], .ag none, .go [.ld 44, .ld 44, .ld 11, .ld 44, .up 44], .rt, .go [.ld 44, .ld 29, .ld 29, .ld 29], .cl none, .go [.ld 29], .ag none, .go [.al], .rt, .go [.ld 51, .ld 51], .cl none, .go [.ld 51], .ag none, .go [.ld 51, .ld 51, .ld 29, .ld 51, .up 51], .rt, .go [.ld 51], .cl none, .go [.ld 51], .ag none, .go [.ld 51, .ld 51, .ld 29, .ld 51, .up 51], .rt, .go [.ld 51], .cl none, .go [.ld 51], .ag none, .go [.ld 51, .ld 51, .ld 29, .ld 51, .up 51, .al, .al], .hd, .rt, .go [.ld 53, .fr, .ld 40, .up 40, .fr, .ld 40, .up 40, .ld 40, .fr], .cl none, .ag none, .rt, .go [.ld 40, .ld 40], .cl none, .ag none, .go [.fr], .rt, .go [.ld 40], .ct (.bool true) 0 [], .go [.ld 40, .ld 41, .ld 41, .ld 41, .ld 41, .ld 40], .cl none, .go [.ld 41], .ag none, .go [.ld 41, .up 41, .ld 41], .rt, .rt]
noncomputable def hFm3_3 : List Hm := [.go [.ld 40, .ld 11, .ld 11], .cl none, .go [.ld 11], .ag none, .go [.al], .rt, .go [.ld 44], .cl none, .go [.ld 44], .cl none, .go [.ld 44], .ag none, .go [.ld 44, .ld 44, .ld 11, .ld 44, .up 44], .rt, .go [.ld 44, .ld 27, .ld 27, .ld 27], .cl none, .go [.ld 27], .ag none, .go [.al], .rt, .go [.ld 45, .ld 45], .cl none, .go [.ld 45], .ag none, .go [.ld 45, .ld 45, .ld 27, .ld 45, .up 45], .rt, .go [.ld 45], .cl none, .go [.ld 45], .ag none, .go [.ld 45, .ld 45, .ld 27, .ld 45, .up 45], .rt, .go [.ld 45], .cl none, .go [.ld 45], .ag none, .go [.ld 45, .ld 45, .ld 27, .ld 45, .up 45, .al, .al], .hd, .rt, .go [.ld 47, .fr, .ld 40, .up 40, .fr, .ld 40, .up 40, .ld 40, .fr], .cl none, .ag none, .rt, .go [.ld 40, .ld 40], .cl none, .ag none, .go [.fr], .rt, .go [.ld 40], .ct (.bool false) 0 [], .ag none, .go [.ld 44], .cl none, .go [.ld 44], .ag none, .go [.ld 44, .ld 44, .ld 11, .ld 44, .up 44], .rt, .go [.ld 44, .ld 28, .ld 28, .ld 28], .cl none, .go [.ld 28], .ag none, .go [.al], .rt, .go [.ld 48, .ld 48], .cl none, .go [.ld 48], .ag none, .go [.ld 48, .ld 48, .ld 28, .ld 48, .up 48], .rt, .go [.ld 48], .cl none, .go [.ld 48], .ag none, .go [.ld 48, .ld 48, .ld 28, .ld 48, .up 48], .rt, .go [.ld 48], .cl none, .go [.ld 48], .ag none, .go [.ld 48, .ld 48, .ld 28, .ld 48, .up 48, .al, .al], .hd, .rt, .go [.ld 50, .fr, .ld 40, .up 40, .fr, .ld 40, .up 40, .ld 40, .fr], .cl none, .ag none, .rt, .go [.ld 40, .ld 40], .cl none, .ag none, .go [.fr], .rt, .go [.ld 40], .ct (.bool false) 0 [], .ag none, .go [.ld 44], .cl none, .go [.ld 44], .ag none, .go [.ld 44, .ld 44, .ld 11, .ld 44, .up 44], .rt, .go [.ld 44, .ld 29, .ld 29, .ld 29], .cl none, .go [.ld 29], .ag none, .go [.al], .rt, .go [.ld 51, .ld 51], .cl none, .go [.ld 51], .ag none, .go [.ld 51, .ld 51, .ld 29, .ld 51, .up 51], .rt, .go [.ld 51], .cl none, .go [.ld 51], .ag none, .go [.ld 51, .ld 51, .ld 29, .ld 51, .up 51], .rt, .go [.ld 51], .cl none, .go [.ld 51], .ag none, .go [.ld 51, .ld 51, .ld 29, .ld 51, .up 51, .al, .al], .hd, .rt, .go [.ld 53, .fr, .ld 40, .up 40, .fr, .ld 40, .up 40, .ld 40, .fr], .cl none, .ag none, .rt, .go [.ld 40, .ld 40], .cl none, .ag none, .go [.fr], .rt, .go [.ld 40], .ct (.bool false) 0 [], .ag none, .go [.ld 44], .cl none, .go [.ld 44], .ag none, .go [.ld 44, .ld 44, .ld 11, .ld 44, .up 44, .al, .al], .hd, .rt, .go [.ld 55], .ag none, .go [.ld 40, .fr], .cl none, .ag none, .rt, .go [.ld 40, .ld 41, .ld 41, .ld 41, .ld 41, .fr], .cl none, .go [.ld 41], .ag none, .go [.ld 41, .up 41, .ld 41], .rt, .rt]
theorem fmA_m {w : World} : (∀ {D : Nat} {h0 h : Heap} {L0 : List (Addr × Obj)} {g : Array GenState} {d : Drawn} {tk t0 : Nat} {os : OsState} {N Z : Nat} {A : Around} {R : Result → Shared → Prop} {m : Int} {tm ki kt kb kc : Tok} {iv bv : Int} {it bt ct : Tok} {rt r : Addr} {cs : Str} {p0 : Value} (hm : 0 ≤ m) (hD : D ≤ 780) (hA : Bd D A) (S : Sg L0 h0 (FmR.L ⟨t0, m, tm, ki, kt, kb, kc, .int iv it, .ref rt, .int bv bt, .str cs ct⟩ w N [p0] 1 (.ref r)) Z h) (hR : ∀ h' A' c t tk' Z' iv it rt bv bt cs ct, Bd D A' → tk ≤ tk' → has sRw (chS c) = bitQ m 1 → decide (c < 128) = true → Sg L0 h0 (FmR.L ⟨t0, m, tm, ki, kt, kb, kc, .int iv it, .ref rt, .int bv bt, .str cs ct⟩ w N [p0, .str (chS c) t] 2 (.ref 68)) Z' h' → codeAny (model PG w) A' (fmC N) R ⟨h', g, d, tk', os⟩), codeAny (model PG w) A (fmC N) R ⟨h, g, d, tk, os⟩) ∧
    (∀ {D : Nat} {h0 h : Heap} {L0 : List (Addr × Obj)} {g : Array GenState} {d : Drawn} {tk t0 : Nat} {os : OsState} {N Z : Nat} {A : Around} {R : Result → Shared → Prop} {m : Int} {tm ki kt kb kc : Tok} {iv bv : Int} {it bt ct : Tok} {rt r : Addr} {cs : Str} {p0 p1 : Value} (hm : 0 ≤ m) (hD : D ≤ 780) (hA : Bd D A) (S : Sg L0 h0 (FmR.L ⟨t0, m, tm, ki, kt, kb, kc, .int iv it, .ref rt, .int bv bt, .str cs ct⟩ w N [p0, p1] 2 (.ref r)) Z h) (hR : ∀ h' A' c t tk' Z' iv it rt bv bt cs ct, Bd D A' → tk ≤ tk' → has sRw (chS c) = bitQ m 2 → decide (c < 128) = true → Sg L0 h0 (FmR.L ⟨t0, m, tm, ki, kt, kb, kc, .int iv it, .ref rt, .int bv bt, .str cs ct⟩ w N [p0, p1, .str (chS c) t] 3 (.ref 70)) Z' h' → codeAny (model PG w) A' (fmC N) R ⟨h', g, d, tk', os⟩), codeAny (model PG w) A (fmC N) R ⟨h, g, d, tk, os⟩) ∧
    (∀ {D : Nat} {h0 h : Heap} {L0 : List (Addr × Obj)} {g : Array GenState} {d : Drawn} {tk t0 : Nat} {os : OsState} {N Z : Nat} {A : Around} {R : Result → Shared → Prop} {m : Int} {tm ki kt kb kc : Tok} {iv bv : Int} {it bt ct : Tok} {rt r : Addr} {cs : Str} {p0 p1 p2 : Value} (hm : 0 ≤ m) (hD : D ≤ 780) (hA : Bd D A) (S : Sg L0 h0 (FmR.L ⟨t0, m, tm, ki, kt, kb, kc, .int iv it, .ref rt, .int bv bt, .str cs ct⟩ w N [p0, p1, p2] 3 (.ref r)) Z h) (hR : ∀ h' A' c t tk' Z' iv it rt bv bt cs ct, Bd D A' → tk ≤ tk' → has sRw (chS c) = bitQ m 3 → decide (c < 128) = true → Sg L0 h0 (FmR.L ⟨t0, m, tm, ki, kt, kb, kc, .int iv it, .ref rt, .int bv bt, .str cs ct⟩ w N [p0, p1, p2, .str (chS c) t] 4 (.ref 74)) Z' h' → codeAny (model PG w) A' (fmC N) R ⟨h', g, d, tk', os⟩), codeAny (model PG w) A (fmC N) R ⟨h, g, d, tk, os⟩) := by
  refine ⟨?_, ?_, ?_⟩
  · intro D h0 h L0 g d tk t0 os N Z A R m tm ki kt kb kc iv bv it bt ct rt r cs p0 hm hD hA S hR
    refine forStep ?_
    refine opTop (D := D) fun W hW => ?_
    refine opX hW hD hA S 0 hFm1_n (List.range 45) [] (some (.ref Z)) (FmN (frO (FmR.es ⟨t0, m, tm, ki, kt, kb, kc, .int iv it, .ref rt, .int bv bt, .str cs ct⟩ w N) 6) w N [p0] 1 68 Z tk) (Z + 1) (tk + 1) (fun b => by cases b <;> kernel_rfl) (by decide) .nil fun h1 S1 => ?_
    refine owned ⟨_, _, _, rfl⟩ S1 (n := 43) (e := N + 3) (it := N + 2) (a := Z) (i := 2) (r := .ref 68) rfl fun h2 S2 => ?_
    refine opTop (D := D) fun W2 hW2 => ?_
    refine opX hW2 hD hA S2 0 hFm1_a (List.range 44) [] () (FmA (frO (FmR.es ⟨t0, m, tm, ki, kt, kb, kc, .int 1 tk, .ref 68, .int bv bt, .str cs ct⟩ w N) 6) w N [p0] 1 68) (Z + 4) (tk + 3) (fun b => by cases b <;> kernel_rfl) (by decide) .nil fun h3 S3 => ?_
    refine opTop (D := D) fun W3 hW3 => ?_
    have hb := bit_one hm 1
    cases q0 : (bitAnd m 256 == 256) with
    | true =>
      have hq : bitQ m 1 = true := hb.symm.trans q0
      exact opX hW3 hD hA S3 0 hFm1_0 (List.range 44) _ .next (FmR.L ⟨t0, m, tm, ki, kt, kb, kc, .int 1 tk, .ref 68, (.int 256 263), (.str (chS 114) 288)⟩ w N [p0, .str (chS 114) 288] 2 (.ref 68)) (Z + 8) (tk + 7) (fun b => by cases b <;> kernel_rfl) (by decide) (.cons (oIe (bitAnd m 256) (tk + 6) 256 263 (tk + 7) q0) <| .nil) fun h' S' => hR h' A _ _ _ _ _ _ _ _ _ _ _ hA (by omega) (by rw [hq]; kernel_rfl) (by decide) S'
    | false =>
      have hq : bitQ m 1 = false := hb.symm.trans q0
      exact opX hW3 hD hA S3 0 hFm1_1 (List.range 44) _ .next (FmR.L ⟨t0, m, tm, ki, kt, kb, kc, .int 1 tk, .ref 68, (.int 256 263), (.str (chS 114) 288)⟩ w N [p0, .str (chS 45) (tk + 8)] 2 (.ref 68)) (Z + 10) (tk + 9) (fun b => by cases b <;> kernel_rfl) (by decide) (.cons (oIe (bitAnd m 256) (tk + 6) 256 263 (tk + 7) q0) <| .nil) fun h' S' => hR h' A _ _ _ _ _ _ _ _ _ _ _ hA (by omega) (by rw [hq]; kernel_rfl) (by decide) S'
  · intro D h0 h L0 g d tk t0 os N Z A R m tm ki kt kb kc iv bv it bt ct rt r cs p0 p1 hm hD hA S hR
    refine forStep ?_
    refine opTop (D := D) fun W hW => ?_
    refine opX hW hD hA S 0 hFm2_n (List.range 45) [] (some (.ref Z)) (FmN (frO (FmR.es ⟨t0, m, tm, ki, kt, kb, kc, .int iv it, .ref rt, .int bv bt, .str cs ct⟩ w N) 6) w N [p0, p1] 2 70 Z tk) (Z + 1) (tk + 1) (fun b => by cases b <;> kernel_rfl) (by decide) .nil fun h1 S1 => ?_
    refine owned ⟨_, _, _, rfl⟩ S1 (n := 43) (e := N + 3) (it := N + 2) (a := Z) (i := 3) (r := .ref 70) rfl fun h2 S2 => ?_
    refine opTop (D := D) fun W2 hW2 => ?_
    refine opX hW2 hD hA S2 0 hFm2_a (List.range 44) [] () (FmA (frO (FmR.es ⟨t0, m, tm, ki, kt, kb, kc, .int 2 tk, .ref 70, .int bv bt, .str cs ct⟩ w N) 6) w N [p0, p1] 2 70) (Z + 4) (tk + 3) (fun b => by cases b <;> kernel_rfl) (by decide) .nil fun h3 S3 => ?_
    refine opTop (D := D) fun W3 hW3 => ?_
    have hb := bit_one hm 2
    cases q0 : (bitAnd m 128 == 128) with
    | true =>
      have hq : bitQ m 2 = true := hb.symm.trans q0
      exact opX hW3 hD hA S3 0 hFm2_0 (List.range 44) _ .next (FmR.L ⟨t0, m, tm, ki, kt, kb, kc, .int 2 tk, .ref 70, (.int 128 265), (.str (chS 119) 289)⟩ w N [p0, p1, .str (chS 119) 289] 3 (.ref 70)) (Z + 8) (tk + 7) (fun b => by cases b <;> kernel_rfl) (by decide) (.cons (oIe (bitAnd m 128) (tk + 6) 128 265 (tk + 7) q0) <| .nil) fun h' S' => hR h' A _ _ _ _ _ _ _ _ _ _ _ hA (by omega) (by rw [hq]; kernel_rfl) (by decide) S'
    | false =>
      have hq : bitQ m 2 = false := hb.symm.trans q0
      exact opX hW3 hD hA S3 0 hFm2_1 (List.range 44) _ .next (FmR.L ⟨t0, m, tm, ki, kt, kb, kc, .int 2 tk, .ref 70, (.int 128 265), (.str (chS 119) 289)⟩ w N [p0, p1, .str (chS 45) (tk + 8)] 3 (.ref 70)) (Z + 10) (tk + 9) (fun b => by cases b <;> kernel_rfl) (by decide) (.cons (oIe (bitAnd m 128) (tk + 6) 128 265 (tk + 7) q0) <| .nil) fun h' S' => hR h' A _ _ _ _ _ _ _ _ _ _ _ hA (by omega) (by rw [hq]; kernel_rfl) (by decide) S'
  · intro D h0 h L0 g d tk t0 os N Z A R m tm ki kt kb kc iv bv it bt ct rt r cs p0 p1 p2 hm hD hA S hR
    refine forStep ?_
    refine opTop (D := D) fun W hW => ?_
    refine opX hW hD hA S 0 hFm3_n (List.range 45) [] (some (.ref Z)) (FmN (frO (FmR.es ⟨t0, m, tm, ki, kt, kb, kc, .int iv it, .ref rt, .int bv bt, .str cs ct⟩ w N) 6) w N [p0, p1, p2] 3 74 Z tk) (Z + 1) (tk + 1) (fun b => by cases b <;> kernel_rfl) (by decide) .nil fun h1 S1 => ?_
    refine owned ⟨_, _, _, rfl⟩ S1 (n := 43) (e := N + 3) (it := N + 2) (a := Z) (i := 4) (r := .ref 74) rfl fun h2 S2 => ?_
    refine opTop (D := D) fun W2 hW2 => ?_
    refine opX hW2 hD hA S2 0 hFm3_a (List.range 44) [] () (FmA (frO (FmR.es ⟨t0, m, tm, ki, kt, kb, kc, .int 3 tk, .ref 74, .int bv bt, .str cs ct⟩ w N) 6) w N [p0, p1, p2] 3 74) (Z + 4) (tk + 3) (fun b => by cases b <;> kernel_rfl) (by decide) .nil fun h3 S3 => ?_
    refine opTop (D := D) fun W3 hW3 => ?_
    have hb := bit_one hm 3
    have ht := bit_two hm 11 6 2112 (by decide) (by decide) (by decide)
    cases q0 : (bitAnd m 2112 == 2112) with
    | true =>
      have hq : bitQ m 3 = true := hb.symm.trans (ht.1 q0)
      exact opX hW3 hD hA S3 0 hFm3_0 (List.range 44) _ .next (FmR.L ⟨t0, m, tm, ki, kt, kb, kc, .int 3 tk, .ref 74, (.int 2112 290), (.str (chS 115) 291)⟩ w N [p0, p1, p2, .str (chS 115) 291] 4 (.ref 74)) (Z + 8) (tk + 7) (fun b => by cases b <;> kernel_rfl) (by decide) (.cons (oIe (bitAnd m 2112) (tk + 6) 2112 290 (tk + 7) q0) <| .nil) fun h' S' => hR h' A _ _ _ _ _ _ _ _ _ _ _ hA (by omega) (by rw [hq]; kernel_rfl) (by decide) S'
    | false =>
      cases q1 : (bitAnd m 2048 == 2048) with
      | true =>
        have hq : bitQ m 3 = false := hb.symm.trans (ht.2 q0 q1)
        exact opX hW3 hD hA S3 0 hFm3_1 (List.range 44) _ .next (FmR.L ⟨t0, m, tm, ki, kt, kb, kc, .int 3 tk, .ref 74, (.int 2048 257), (.str (chS 83) 292)⟩ w N [p0, p1, p2, .str (chS 83) 292] 4 (.ref 74)) (Z + 11) (tk + 11) (fun b => by cases b <;> kernel_rfl) (by decide) (.cons (oIe (bitAnd m 2112) (tk + 6) 2112 290 (tk + 7) q0) <| .cons (oIe (bitAnd m 2048) (tk + 10) 2048 257 (tk + 11) q1) <| .nil) fun h' S' => hR h' A _ _ _ _ _ _ _ _ _ _ _ hA (by omega) (by rw [hq]; kernel_rfl) (by decide) S'
      | false =>
        cases q2 : (bitAnd m 64 == 64) with
        | true =>
          have hq : bitQ m 3 = true := hb.symm.trans q2
          exact opX hW3 hD hA S3 0 hFm3_2 (List.range 44) _ .next (FmR.L ⟨t0, m, tm, ki, kt, kb, kc, .int 3 tk, .ref 74, (.int 64 267), (.str (chS 120) 293)⟩ w N [p0, p1, p2, .str (chS 120) 293] 4 (.ref 74)) (Z + 14) (tk + 15) (fun b => by cases b <;> kernel_rfl) (by decide) (.cons (oIe (bitAnd m 2112) (tk + 6) 2112 290 (tk + 7) q0) <| .cons (oIe (bitAnd m 2048) (tk + 10) 2048 257 (tk + 11) q1) <| .cons (oIe (bitAnd m 64) (tk + 14) 64 267 (tk + 15) q2) <| .nil) fun h' S' => hR h' A _ _ _ _ _ _ _ _ _ _ _ hA (by omega) (by rw [hq]; kernel_rfl) (by decide) S'
        | false =>
          have hq : bitQ m 3 = false := hb.symm.trans q2
          exact opX hW3 hD hA S3 0 hFm3_3 (List.range 44) _ .next (FmR.L ⟨t0, m, tm, ki, kt, kb, kc, .int 3 tk, .ref 74, (.int 64 267), (.str (chS 120) 293)⟩ w N [p0, p1, p2, .str (chS 45) (tk + 16)] 4 (.ref 74)) (Z + 16) (tk + 17) (fun b => by cases b <;> kernel_rfl) (by decide) (.cons (oIe (bitAnd m 2112) (tk + 6) 2112 290 (tk + 7) q0) <| .cons (oIe (bitAnd m 2048) (tk + 10) 2048 257 (tk + 11) q1) <| .cons (oIe (bitAnd m 64) (tk + 14) 64 267 (tk + 15) q2) <| .nil) fun h' S' => hR h' A _ _ _ _ _ _ _ _ _ _ _ hA (by omega) (by rw [hq]; kernel_rfl) (by decide) S'
theorem fm_row1 {D : Nat} {w : World} {h0 h : Heap} {L0 : List (Addr × Obj)} {g : Array GenState} {d : Drawn} {tk t0 : Nat} {os : OsState} {N Z : Nat} {A : Around} {R : Result → Shared → Prop} {m : Int} {tm ki kt kb kc : Tok} {iv bv : Int} {it bt ct : Tok} {rt r : Addr} {cs : Str} {p0 : Value} (hm : 0 ≤ m)
    (hD : D ≤ 780) (hA : Bd D A) (S : Sg L0 h0 (FmR.L ⟨t0, m, tm, ki, kt, kb, kc, .int iv it, .ref rt, .int bv bt, .str cs ct⟩ w N [p0] 1 (.ref r)) Z h)
    (hR : ∀ h' A' c t tk' Z' iv it rt bv bt cs ct, Bd D A' → tk ≤ tk' → has sRw (chS c) = bitQ m 1 → decide (c < 128) = true → Sg L0 h0 (FmR.L ⟨t0, m, tm, ki, kt, kb, kc, .int iv it, .ref rt, .int bv bt, .str cs ct⟩ w N [p0, .str (chS c) t] 2 (.ref 68)) Z' h' → codeAny (model PG w) A' (fmC N) R ⟨h', g, d, tk', os⟩) :
    codeAny (model PG w) A (fmC N) R ⟨h, g, d, tk, os⟩ := @(fmA_m (w := w)).1 D h0 h L0 g d tk t0 os N Z A R m tm ki kt kb kc iv bv it bt ct rt r cs p0 hm hD hA S hR
theorem fm_row2 {D : Nat} {w : World} {h0 h : Heap} {L0 : List (Addr × Obj)} {g : Array GenState} {d : Drawn} {tk t0 : Nat} {os : OsState} {N Z : Nat} {A : Around} {R : Result → Shared → Prop} {m : Int} {tm ki kt kb kc : Tok} {iv bv : Int} {it bt ct : Tok} {rt r : Addr} {cs : Str} {p0 p1 : Value} (hm : 0 ≤ m)
    (hD : D ≤ 780) (hA : Bd D A) (S : Sg L0 h0 (FmR.L ⟨t0, m, tm, ki, kt, kb, kc, .int iv it, .ref rt, .int bv bt, .str cs ct⟩ w N [p0, p1] 2 (.ref r)) Z h)
    (hR : ∀ h' A' c t tk' Z' iv it rt bv bt cs ct, Bd D A' → tk ≤ tk' → has sRw (chS c) = bitQ m 2 → decide (c < 128) = true → Sg L0 h0 (FmR.L ⟨t0, m, tm, ki, kt, kb, kc, .int iv it, .ref rt, .int bv bt, .str cs ct⟩ w N [p0, p1, .str (chS c) t] 3 (.ref 70)) Z' h' → codeAny (model PG w) A' (fmC N) R ⟨h', g, d, tk', os⟩) :
    codeAny (model PG w) A (fmC N) R ⟨h, g, d, tk, os⟩ := @(fmA_m (w := w)).2.1 D h0 h L0 g d tk t0 os N Z A R m tm ki kt kb kc iv bv it bt ct rt r cs p0 p1 hm hD hA S hR
theorem fm_row3 {D : Nat} {w : World} {h0 h : Heap} {L0 : List (Addr × Obj)} {g : Array GenState} {d : Drawn} {tk t0 : Nat} {os : OsState} {N Z : Nat} {A : Around} {R : Result → Shared → Prop} {m : Int} {tm ki kt kb kc : Tok} {iv bv : Int} {it bt ct : Tok} {rt r : Addr} {cs : Str} {p0 p1 p2 : Value} (hm : 0 ≤ m)
    (hD : D ≤ 780) (hA : Bd D A) (S : Sg L0 h0 (FmR.L ⟨t0, m, tm, ki, kt, kb, kc, .int iv it, .ref rt, .int bv bt, .str cs ct⟩ w N [p0, p1, p2] 3 (.ref r)) Z h)
    (hR : ∀ h' A' c t tk' Z' iv it rt bv bt cs ct, Bd D A' → tk ≤ tk' → has sRw (chS c) = bitQ m 3 → decide (c < 128) = true → Sg L0 h0 (FmR.L ⟨t0, m, tm, ki, kt, kb, kc, .int iv it, .ref rt, .int bv bt, .str cs ct⟩ w N [p0, p1, p2, .str (chS c) t] 4 (.ref 74)) Z' h' → codeAny (model PG w) A' (fmC N) R ⟨h', g, d, tk', os⟩) :
    codeAny (model PG w) A (fmC N) R ⟨h, g, d, tk, os⟩ := @(fmA_m (w := w)).2.2 D h0 h L0 g d tk t0 os N Z A R m tm ki kt kb kc iv bv it bt ct rt r cs p0 p1 p2 hm hD hA S hR
end Mine
end
section
namespace Mine
set_option maxHeartbeats 8000000
open Builtin (bitAnd)
noncomputable def hFm4_n : List Hm := [.go [.ld 43], .cl none, .go [.ld 43], .ag none, .go [.ld 43, .ld 42], .cl none, .go [.ld 42], .ag none, .go [.ld 42, .ld 42, .ld 7, .ld 42, .up 42], .rt, .go [.ld 43, .ld 43, .fr, .ld 43, .up 43, .ld 43, .up 43, .al, .ld 43, .ld 43, .ld 43, .up 43, .ld 43, .up 43, .ld 43, .up 43], .rt]
noncomputable def hFm4_a : List Hm := [.go [.ld 44, .ld 44, .ld 44], .cl none, .go [.ld 44], .ag none, .go [.al], .rt, .go [.ld 45, .ld 45], .cl none, .go [.ld 45], .ag none, .go [.ld 45, .ld 45, .ld 44, .ld 45, .up 45], .rt, .go [.ld 45], .cl none, .go [.ld 45], .ag none, .go [.ld 45, .ld 45, .ld 44, .ld 45, .up 45], .rt, .go [.ld 45], .cl none, .go [.ld 45], .ag none, .go [.ld 45, .ld 45, .ld 44, .ld 45, .up 45, .al, .al], .hd, .rt, .go [.ld 47, .fr, .ld 40, .up 40, .fr, .ld 40, .up 40]]
noncomputable def hFm4_0 : List Hm := [.go [.ld 40, .ld 12, .ld 12], .cl none, .go [.ld 12], .ag none, .go [.al], .rt, .go [.ld 44], .cl none, .go [.ld 44], .cl none, .go [.ld 44], .ag none, .go [.ld 44, .ld 44, .ld 12, .ld 44, .up 44], .rt, .go [.ld 44, .ld 30, .ld 30, .ld 30], .cl none, .go [.ld 30], .ag none, .go [.al], .rt, .go [.ld 45, .ld 45], .cl none, .go [.ld 45], .ag none, .go [.ld 45, .ld 45, .ld 30, .ld 45, .up 45], .rt, .go [.ld 45], .cl none, .go [.ld 45], .ag none, .go [.ld 45, .ld 45, .ld 30, .ld 45, .up 45], .rt, .go [.ld 45], .cl none, .go [.ld 45], .ag none, .go [.ld 45, .ld 45, .ld 30, .ld 45, .up 45, .al, .al], .hd, .rt, .go [.ld 47, .fr, .ld 40, .up 40, .fr, .ld 40, .up 40, .ld 40, .fr], .cl none, .ag none, .rt, .go [.ld 40, .ld 40], .cl none, .ag none, .go [.fr], .rt, .go [.ld 40], .ct (.bool true) 0 [], .go [.ld 40, .ld 41, .ld 41, .ld 41, .ld 41, .ld 40], .cl none, .go [.ld 41], .ag none, .go [.ld 41, .up 41, .ld 41], .rt, .rt]
noncomputable def hFm4_1 : List Hm := [.go [.ld 40, .ld 12, .ld 12], .cl none, .go [.ld 12], .ag none, .go [.al], .rt, .go [.ld 44], .cl none, .go [.ld 44], .cl none, .go [.ld 44], .ag none, .go [.ld 44, .ld 44, .ld 12, .ld 44, .up 44], .rt, .go [.ld 44, .ld 30, .ld 30, .ld 30], .cl none, .go [.ld 30], .ag none, .go [.al], .rt, .go [.ld 45, .ld 45], .cl none, .go [.ld 45], .ag none, .go [.ld 45, .ld 45, .ld 30, .ld 45, .up 45], .rt, .go [.ld 45], .cl none, .go [.ld 45], .ag none, .go [.ld 45, .ld 45, .ld 30, .ld 45, .up 45], .rt, .go [.ld 45], .cl none, .go [.ld 45], .ag none, .go [.ld 45, .ld 45, .ld 30, .ld 45, .up 45, .al, .al], .hd, .rt, .go [.ld 47, .fr, .ld 40, .up 40, .fr, .ld 40, .up 40, .ld 40, .fr], .cl none, .ag none, .rt, .go [.ld 40, .ld 40], .cl none, .ag none, .go [.fr], .rt, .go [.ld 40], .ct (.bool false) 0 [], .ag none, .go [.ld 44], .cl none, .go [.ld 44], .ag none, .go [.ld 44, .ld 44, .ld 12, .ld 44, .up 44, .al, .al], .hd, .rt, .go [.ld 49], .ag none, .go [.ld 40, .fr], .cl none, .ag none, .rt, .go [.ld 40, .ld 41, .ld 41, .ld 41, .ld 41, .fr], .cl none, .go [.ld 41], .ag none, .go [.ld 41, .up 41, .ld 41], .rt, .rt]
noncomputable def hFm5_n : List Hm := [.go [.ld 43], .cl none, .go [.ld 43], .ag none, .go [.ld 43, .ld 42], .cl none, .go [.ld 42], .ag none, .go [.ld 42, .ld 42, .ld 7, .ld 42, .up 42], .rt, .go [.ld 43, .ld 43, .fr, .ld 43, .up 43, .ld 43, .up 43, .al, .ld 43, .ld 43, .ld 43, .up 43, .ld 43, .up 43, .ld 43, .up 43], .rt]
noncomputable def hFm5_a : List Hm := [.go [.ld 44, .ld 44, .ld 44], .cl none, .go [.ld 44], .ag none, .go [.al], .rt, .go [.ld 45, .ld 45], .cl none, .go [.ld 45], .ag none, .go [.ld 45, .ld 45, .ld 44, .ld 45, .up 45], .rt, .go [.ld 45], .cl none, .go [.ld 45], .ag none, .go [.ld 45, .ld 45, .ld 44, .ld 45, .up 45], .rt, .go [.ld 45], .cl none, .go [.ld 45], .ag none, .go [.ld 45, .ld 45, .ld 44, .ld 45, .up 45, .al, .al], .hd, .rt, .go [.ld 47, .fr, .ld 40, .up 40, .fr, .ld 40, .up 40]]
noncomputable def hFm5_0 : List Hm := [.go [.ld 40, .ld 13, .ld 13], .cl none, .go [.ld 13], .ag none, .go [.al], .rt, .go [.ld 44], .cl none, .go [.ld 44], .cl none, .go [.ld 44], .ag none, .go [.ld 44, .ld 44, .ld 13, .ld 44, .up 44], .rt, .go [.ld 44, .ld 31, .ld 31, .ld 31], .cl none, .go [.ld 31], .ag none, .go [.al], .rt, .go [.ld 45, .ld 45], .cl none, .go [.ld 45], .ag none, .go [.ld 45, .ld 45, .ld 31, .ld 45, .up 45], .rt, .go [.ld 45], .cl none, .go [.ld 45], .ag none, .go [.ld 45, .ld 45, .ld 31, .ld 45, .up 45], .rt, .go [.ld 45], .cl none, .go [.ld 45], .ag none, .go [.ld 45, .ld 45, .ld 31, .ld 45, .up 45, .al, .al], .hd, .rt, .go [.ld 47, .fr, .ld 40, .up 40, .fr, .ld 40, .up 40, .ld 40, .fr], .cl none, .ag none, .rt, .go [.ld 40, .ld 40], .cl none, .ag none, .go [.fr], .rt, .go [.ld 40], .ct (.bool true) 0 [], .go [.ld 40, .ld 41, .ld 41, .ld 41, .ld 41, .ld 40], .cl none, .go [.ld 41], .ag none, .go [.ld 41, .up 41, .ld 41], .rt, .rt]
noncomputable def hFm5_1 : List Hm := [.go [.ld 40, .ld 13, .ld 13], .cl none, .go [.ld 13], .ag none, .go [.al], .rt, .go [.ld 44], .cl none, .go [.ld 44], .cl none, .go [.ld 44], .ag none, .go [.ld 44, .ld 44, .ld 13, .ld 44, .up 44], .rt, .go [.ld 44, .ld 31, .ld 31, .ld 31], .cl none, .go [.ld 31], .ag none, .go [.al], .rt, .go [.ld 45, .ld 45], .cl none, .go [.ld 45], .ag none, .go [.ld 45, .ld 45, .ld 31, .ld 45, .up 45], .rt, .go [.ld 45], .cl none, .go [.ld 45], .ag none, .go [.ld 45, .ld 45, .ld 31, .ld 45, .up 45], .rt, .go [.ld 45], .cl none, .go [.ld 45], .ag none, .go [.ld 45, .ld 45, .ld 31, .ld 45, .up 45, .al, .al], .hd, .rt, .go [.ld 47, .fr, .ld 40, .up 40, .fr, .ld 40, .up 40, .ld 40, .fr], .cl none, .ag none, .rt, .go [.ld 40, .ld 40], .cl none, .ag none, .go [.fr], .rt, .go [.ld 40], .ct (.bool false) 0 [], .ag none, .go [.ld 44], .cl none, .go [.ld 44], .ag none, .go [.ld 44, .ld 44, .ld 13, .ld 44, .up 44, .al, .al], .hd, .rt, .go [.ld 49], .ag none, .go [.ld 40, .fr], .cl none, .ag none, .rt, .go [.ld 40, .ld 41, .ld 41, .ld 41, .ld 41, .fr], .cl none, .go [.ld 41], .ag none, .go [.ld 41, .up 41, .ld 41], .rt, .rt]
noncomputable def hFm6_n : List Hm := [.go [.ld 43], .cl none, .go [.ld 43], .ag none, .go [.ld 43, .ld 42], .cl none, .go [.ld 42], .ag none, .go [.ld 42, .ld 42, .ld 7, .ld 42, .up 42], .rt, .go [.ld 43, .ld 43, .fr, .ld 43, .up 43, .ld 43, .up 43, .al, .ld 43, .ld 43, .ld 43, .up 43, .ld 43, .up 43, .ld 43, .up 43], .rt]
noncomputable def hFm6_a : List Hm := [.go [.ld 44, .ld 44, .ld 44], .cl none, .go [.ld 44], .ag none, .go [.al], .rt, .go [.ld 45, .ld 45], .cl none, .go [.ld 45], .ag none, .go [.ld 45, .ld 45, .ld 44, .ld 45, .up 45], .rt, .go [.ld 45], .cl none, .go [.ld 45], .ag none, .go [.ld 45, .ld 45, .ld 44, .ld 45, .up 45], .rt, .go [.ld 45], .cl none, .go [.ld 45], .ag none, .go [.ld 45, .ld 45, .ld 44, .ld 45, .up 45, .al, .al], .hd, .rt, .go [.ld 47, .fr, .ld 40, .up 40, .fr, .ld 40, .up 40]]
noncomputable def hFm6_0 : List Hm := [.go [.ld 40, .ld 14, .ld 14], .cl none, .go [.ld 14], .ag none, .go [.al], .rt, .go [.ld 44], .cl none, .go [.ld 44], .cl none, .go [.ld 44], .ag none, .go [.ld 44, .ld 44, .ld 14, .ld 44, .up 44], .rt, .go [.ld 44, .ld 32, .ld 32, .ld 32], .cl none, .go [.ld 32], .ag none, .go [.al], .rt, .go [.ld 45, .ld 45], .cl none, .go [.ld 45], .ag none, .go [.ld 45, .ld 45, .ld 32, .ld 45, .up 45], .rt, .go [.ld 45], .cl none, .go [.ld 45], .ag none, .go [.ld 45, .ld 45, .ld 32, .ld 45, .up 45], .rt, .go [.ld 45], .cl none, .go [.ld 45], .ag none, .go [.ld 45, .ld 45, .ld 32, .ld 45, .up 45, .al, .al], .hd, .rt, .go [.ld 47, .fr, .ld 40, .up 40, .fr, .ld 40, .up 40, .ld 40, .fr], .cl none, .ag none, .rt, .go [.ld 40, .ld 40], .cl none, .ag none, .go [.fr], .rt, .go [.ld 40], .ct (.bool true) 0 [], .go [.ld 40, .ld 41, .ld 41, .ld 41, .ld 41, .ld 40], .cl none, .go [.ld 41], .ag none, .go [.ld 41, .up 41, .ld 41], .rt, .rt]
noncomputable def hFm6_1 : List Hm := [.go [.ld 40, .ld 14, .ld 14], .cl none, .go [.ld 14], .ag none, .go [.al], .rt, .go [.ld 44], .cl none, .go [.ld 44], .cl none, .go [.ld 44], .ag none, .go [.ld 44, .ld 44, .ld 14, .ld 44, .up 44], .rt, .go [.ld 44, .ld 32, .ld 32, .ld 32], .cl none, .go [.ld 32], .ag none, .go [.al], .rt, .go [.ld 45, .ld 45], .cl none, .go [.ld 45], .ag none, .go [.ld 45, .ld 45, .ld 32, .ld 45, .up 45], .rt, .go [.ld 45], .cl none, .go [.ld 45], .ag none, .go [.ld 45, .ld 45, .ld 32, .ld 45, .up 45], .rt, .go [.ld 45], .cl none, .go [.ld 45], .ag none, .go [.ld 45, .ld 45, .ld 32, .ld 45, .up 45, .al, .al], .hd, .rt, .go [.ld 47, .fr, .ld 40, .up 40, .fr, .ld 40, .up 40, .ld 40, .fr], .cl none, .ag none, .rt, .go [.ld 40, .ld 40], .cl none, .ag none, .go [.fr], .rt, .go [.ld 40], .ct (.bool false) 0 [], .ag none, .go [.ld 44], .cl none, .go [.ld 44], .ag none, .go [.ld 44, .ld 44, .ld 14, .ld 44, .up 44], .rt, .go [.ld 44, .ld 33, .ld 33, .ld 33], .cl none, .go [.ld 33], .ag none, .go [.al], .rt, .go [.ld 48, .ld 48], .cl none, .go [.ld 48], .ag none, .go [.ld 48, .ld 48, .ld 33, .ld 48, .up 48], .rt, .go [.ld 48], .cl none, .go [.ld 48], .ag none, .go [.ld 48, .ld 48, .ld 33, .ld 48, .up 48], .rt, .go [.ld 48], .cl none, .go [.ld 48], .ag none, .go [.ld 48, .ld 48, .ld 33, .ld 48, .up 48, .al, .al], .hd, .rt, .go [.ld 50, .fr, .ld 40, .up 40, .fr, .ld 40, .up 40, .ld 40, .fr], .cl none, .ag none, .rt, .go [.ld 40, .ld 40], .cl none, .ag none, .go [.fr], .rt, .go [.ld 40], .ct (.bool true) 0 [], .go [.ld 40, .ld 41, .ld 41, .ld 41, .ld 41, .ld 40], .cl none, .go [.ld 41], .ag none, .go [.ld 41, .up 41, .ld 41], .rt, .rt]
noncomputable def hFm6_2 : List Hm := [.go [.ld 40, .ld 14, .ld 14], .cl none, .go [.ld 14], .ag none, .go [.al], .rt, .go [.ld 44], .cl none, .go [.ld 44], .cl none, .go [.ld 44], .ag none, .go [.ld 44, .ld 44, .ld 14, .ld 44, .up 44], .rt, .go [.ld 44, .ld 32, .ld 32, .ld 32], .cl none, .go [.ld 32], .ag none, .go [.al], .rt, .go [.ld 45, .ld 45], .cl none, .go [.ld 45], .ag none, .go [.ld 45, .ld 45, .ld 32, .ld 45, .up 45], .rt, .go [.ld 45], .cl none, .go [.ld 45], .ag none, .go [.ld 45, .ld 45, .ld 32, .ld 45, .up 45], .rt, .go [.ld 45], .cl none, .go [.ld 45], .ag none, .go [.ld 45, .ld 45, .ld 32, .ld 45, .up 45, .al, .al], .hd, .rt, .go [.ld 47, .fr, .ld 40, .up 40, .fr, .ld 40, .up 40, .ld 40, .fr], .cl none, .ag none, .rt, .go [.ld 40, .ld 40], .cl none, .ag none, .go [.fr], .rt, .go [.ld 40], .ct (.bool false) 0 [], .ag none, .go [.ld 44], .cl none, .go [.ld 44], .ag none, .go [.ld 44, .ld 44, .ld 14, .ld 44, .up 44], .rt, .go [.ld 44, .ld 33, .ld 33, .ld 33], .cl none, .go [.ld 33], .ag none, .go [.al], .rt, .go [.ld 48, .ld 48], .cl none, .go [.ld 48], .ag none, .go [.ld 48, .ld 48, .ld 33, .ld 48, .up 48], .rt, .go [.ld 48], .cl none, .go [.ld 48], .ag none, .go [.ld 48, .ld 48, .ld 33, .ld 48, .up 48], .rt, .go [.ld 48], .cl none, .go [.ld 48], .ag none, .go [.ld 48, .ld 48, .ld 33, .ld 48, .up 48, .al, .al], .hd, .rt, .go [.ld 50, .fr, .ld 40, .up 40, .fr, .ld 40, .up 40, .ld 40, .fr], .cl none, .ag none, .rt, .go [.ld 40, .ld 40], .cl none, .ag none, .go [.fr], .rt, .go [.ld 40], .ct (.bool false) 0 [], .ag none, .go [.ld 44], .cl none, .go [.ld 44], .ag none, .go [.ld 44, .ld 44, .ld 14, .ld 44, .up 44], .rt, .go [.ld 44, .ld 34, .ld 34, .ld 34], .cl none, .go [.ld 34], .ag none, .go [.al], .rt, .go [.ld 51, .ld 51], .cl none, .go [.ld 51], .ag none, .go [.ld 51, .ld 51, .ld 34, .ld 51, .up 51], .rt, .go [.ld 51], .cl none, .go [.ld 51], .ag none, .go [.ld 51, .ld 51, .ld 34, .ld 51, .up 51], .rt, .go [.ld 51], .cl none, .go [.ld 51], .ag none, .go [.ld 51, .ld 51, .ld 34, .ld 51, .up 51, .al, .al], .hd, .rt, .go [.ld 53, .fr, .ld 40, .up 40, .fr, .ld 40, .up 40, .ld 40, .fr], .cl none, .ag none, .rt, .go [.ld 40, .ld 40], .cl none, .ag none, .go [.fr], .rt, .go [.ld 40], .ct (.bool true) 0 [], .go [.ld 40, .ld 41, .ld 41, .ld 41, .ld 41, .ld 40], .cl none, .go [.ld 41], .ag none, .go [.ld 41, .up 41, .ld 41], .rt, .rt]
noncomputable def hFm6_3 : List Hm := [.go [.ld 40, .ld 14, .ld 14], .cl none, .go [.ld 14], .ag none, .go [.al], .rt, .go [.ld 44], .cl none, .go [.ld 44], .cl none, .go [.ld 44], .ag none, .go [.ld 44, .ld 44, .ld 14, .ld 44, .up 44], .rt, .go [.ld 44, .ld 32, .ld 32, .ld 32], .cl none, .go [.ld 32], .ag none, .go [.al], .rt, .go [.ld 45, .ld 45], .cl none, .go [.ld 45], .ag none, .go [.ld 45, .ld 45, .ld 32, .ld 45, .up 45], .rt, .go [.ld 45], .cl none, .go [.ld 45], .ag none, .go [.ld 45, .ld 45, .ld 32, .ld 45, .up 45], .rt, .go [.ld 45], .cl none, .go [.ld 45], .ag none, .go [.ld 45, .ld 45, .ld 32, .ld 45, .up 45, .al, .al], .hd, .rt, .go [.ld 47, .fr, .ld 40, .up 40, .fr, .ld 40, .up 40, .ld 40, .fr], .cl none, .ag none, .rt, .go [.ld 40, .ld 40], .cl none, .ag none, .go [.fr], .rt, .go [.ld 40], .ct (.bool false) 0 [], .ag none, .go [.ld 44], .cl none, .go [.ld 44], .ag none, .go [.ld 44, .ld 44, .ld 14, .ld 44, .up 44], .rt, .go [.ld 44, .ld 33, .ld 33, .ld 33], .cl none, .go [.ld 33], .ag none, .go [.al], .rt, .go [.ld 48, .ld 48], .cl none, .go [.ld 48], .ag none, .go [.ld 48, .ld 48, .ld 33, .ld 48, .up 48], .rt, .go [.ld 48], .cl none, .go [.ld 48], .ag none, .go [.ld 48, .ld 48, .ld 33, .ld 48, .up 48], .rt, .go [.ld 48], .cl none, .go [.ld 48], .ag none, .go [.ld 48, .ld 48, .ld 33, .ld 48, .up 48, .al, .al], .hd, .rt, .go [.ld 50, .fr, .ld 40, .up 40, .fr, .ld 40, .up 40, .ld 40, .fr], .cl none, .ag none, .rt, .go [.ld 40, .ld 40], .cl none, .ag none, .go [.fr], .rt, .go [.ld 40], .ct (.bool false) 0 [], .ag none, .go [.ld 44], .cl none, .go [.ld 44], .ag none, .go [.ld 44, .ld 44, .ld 14, .ld 44, .up 44], .rt, .go [.ld 44, .ld 34, .ld 34, .ld 34], .cl none, .go [.ld 34], .ag none, .go [.al], .rt, .go [.ld 51, .ld 51], .cl none, .go [.ld 51], .ag none, .go [.ld 51, .ld 51, .ld 34, .ld 51, .up 51], .rt, .go [.ld 51], .cl none, .go [.ld 51], .ag none, .go [.ld 51, .ld 51, .ld 34, .ld 51, .up 51], .rt, .go [.ld 51], .cl none, .go [.ld 51], .ag none, .go [.ld 51, .ld 51, .ld 34, .ld 51, .up 51, .al, .al], .hd, .rt, .go [.ld 53, .fr, .ld 40, .up 40, .fr, .ld 40, .up 40, .ld 40, .fr], .cl none, .ag none, .rt, .go [.ld 40, .ld 40], .cl none, .ag none, .go [.fr], .rt, .go [.ld 40], .ct (.bool false) 0 [], .ag none, .go [.ld 44], .cl none, .go [.ld 44], .ag none, .go [.ld 44, .ld 44, .ld 14, .ld 44, .up 44, .al, .al], .hd, .rt, .go [.ld 55], .ag none, .go [.ld 40, .fr], .cl none, .ag none, .rt, .go [.ld 40, .ld 41, .ld 41, .ld 41, .ld 41, .fr], .cl none, .go [.ld 41], .ag none, .go [.ld 41, .up 41, .ld 41], .rt, .rt]
theorem fmB_m {w : World} : (∀ {D : Nat} {h0 h : Heap} {L0 : List (Addr × Obj)} {g : Array GenState} {d : Drawn} {tk t0 : Nat} {os : OsState} {N Z : Nat} {A : Around} {R : Result → Shared → Prop} {m : Int} {tm ki kt kb kc : Tok} {iv bv : Int} {it bt ct : Tok} {rt r : Addr} {cs : Str} {p0 p1 p2 p3 : Value} (hm : 0 ≤ m) (hD : D ≤ 780) (hA : Bd D A) (S : Sg L0 h0 (FmR.L ⟨t0, m, tm, ki, kt, kb, kc, .int iv it, .ref rt, .int bv bt, .str cs ct⟩ w N [p0, p1, p2, p3] 4 (.ref r)) Z h) (hR : ∀ h' A' c t tk' Z' iv it rt bv bt cs ct, Bd D A' → tk ≤ tk' → has sRw (chS c) = bitQ m 4 → decide (c < 128) = true → Sg L0 h0 (FmR.L ⟨t0, m, tm, ki, kt, kb, kc, .int iv it, .ref rt, .int bv bt, .str cs ct⟩ w N [p0, p1, p2, p3, .str (chS c) t] 5 (.ref 76)) Z' h' → codeAny (model PG w) A' (fmC N) R ⟨h', g, d, tk', os⟩), codeAny (model PG w) A (fmC N) R ⟨h, g, d, tk, os⟩) ∧
    (∀ {D : Nat} {h0 h : Heap} {L0 : List (Addr × Obj)} {g : Array GenState} {d : Drawn} {tk t0 : Nat} {os : OsState} {N Z : Nat} {A : Around} {R : Result → Shared → Prop} {m : Int} {tm ki kt kb kc : Tok} {iv bv : Int} {it bt ct : Tok} {rt r : Addr} {cs : Str} {p0 p1 p2 p3 p4 : Value} (hm : 0 ≤ m) (hD : D ≤ 780) (hA : Bd D A) (S : Sg L0 h0 (FmR.L ⟨t0, m, tm, ki, kt, kb, kc, .int iv it, .ref rt, .int bv bt, .str cs ct⟩ w N [p0, p1, p2, p3, p4] 5 (.ref r)) Z h) (hR : ∀ h' A' c t tk' Z' iv it rt bv bt cs ct, Bd D A' → tk ≤ tk' → has sRw (chS c) = bitQ m 5 → decide (c < 128) = true → Sg L0 h0 (FmR.L ⟨t0, m, tm, ki, kt, kb, kc, .int iv it, .ref rt, .int bv bt, .str cs ct⟩ w N [p0, p1, p2, p3, p4, .str (chS c) t] 6 (.ref 78)) Z' h' → codeAny (model PG w) A' (fmC N) R ⟨h', g, d, tk', os⟩), codeAny (model PG w) A (fmC N) R ⟨h, g, d, tk, os⟩) ∧
    (∀ {D : Nat} {h0 h : Heap} {L0 : List (Addr × Obj)} {g : Array GenState} {d : Drawn} {tk t0 : Nat} {os : OsState} {N Z : Nat} {A : Around} {R : Result → Shared → Prop} {m : Int} {tm ki kt kb kc : Tok} {iv bv : Int} {it bt ct : Tok} {rt r : Addr} {cs : Str} {p0 p1 p2 p3 p4 p5 : Value} (hm : 0 ≤ m) (hD : D ≤ 780) (hA : Bd D A) (S : Sg L0 h0 (FmR.L ⟨t0, m, tm, ki, kt, kb, kc, .int iv it, .ref rt, .int bv bt, .str cs ct⟩ w N [p0, p1, p2, p3, p4, p5] 6 (.ref r)) Z h) (hR : ∀ h' A' c t tk' Z' iv it rt bv bt cs ct, Bd D A' → tk ≤ tk' → has sRw (chS c) = bitQ m 6 → decide (c < 128) = true → Sg L0 h0 (FmR.L ⟨t0, m, tm, ki, kt, kb, kc, .int iv it, .ref rt, .int bv bt, .str cs ct⟩ w N [p0, p1, p2, p3, p4, p5, .str (chS c) t] 7 (.ref 82)) Z' h' → codeAny (model PG w) A' (fmC N) R ⟨h', g, d, tk', os⟩), codeAny (model PG w) A (fmC N) R ⟨h, g, d, tk, os⟩) := by
  refine ⟨?_, ?_, ?_⟩
  · intro D h0 h L0 g d tk t0 os N Z A R m tm ki kt kb kc iv bv it bt ct rt r cs p0 p1 p2 p3 hm hD hA S hR
    refine forStep ?_
    refine opTop (D := D) fun W hW => ?_
    refine opX hW hD hA S 0 hFm4_n (List.range 45) [] (some (.ref Z)) (FmN (frO (FmR.es ⟨t0, m, tm, ki, kt, kb, kc, .int iv it, .ref rt, .int bv bt, .str cs ct⟩ w N) 6) w N [p0, p1, p2, p3] 4 76 Z tk) (Z + 1) (tk + 1) (fun b => by cases b <;> kernel_rfl) (by decide) .nil fun h1 S1 => ?_
    refine owned ⟨_, _, _, rfl⟩ S1 (n := 43) (e := N + 3) (it := N + 2) (a := Z) (i := 5) (r := .ref 76) rfl fun h2 S2 => ?_
    refine opTop (D := D) fun W2 hW2 => ?_
    refine opX hW2 hD hA S2 0 hFm4_a (List.range 44) [] () (FmA (frO (FmR.es ⟨t0, m, tm, ki, kt, kb, kc, .int 4 tk, .ref 76, .int bv bt, .str cs ct⟩ w N) 6) w N [p0, p1, p2, p3] 4 76) (Z + 4) (tk + 3) (fun b => by cases b <;> kernel_rfl) (by decide) .nil fun h3 S3 => ?_
    refine opTop (D := D) fun W3 hW3 => ?_
    have hb := bit_one hm 4
    cases q0 : (bitAnd m 32 == 32) with
    | true =>
      have hq : bitQ m 4 = true := hb.symm.trans q0
      exact opX hW3 hD hA S3 0 hFm4_0 (List.range 44) _ .next (FmR.L ⟨t0, m, tm, ki, kt, kb, kc, .int 4 tk, .ref 76, (.int 32 269), (.str (chS 114) 294)⟩ w N [p0, p1, p2, p3, .str (chS 114) 294] 5 (.ref 76)) (Z + 8) (tk + 7) (fun b => by cases b <;> kernel_rfl) (by decide) (.cons (oIe (bitAnd m 32) (tk + 6) 32 269 (tk + 7) q0) <| .nil) fun h' S' => hR h' A _ _ _ _ _ _ _ _ _ _ _ hA (by omega) (by rw [hq]; kernel_rfl) (by decide) S'
    | false =>
      have hq : bitQ m 4 = false := hb.symm.trans q0
      exact opX hW3 hD hA S3 0 hFm4_1 (List.range 44) _ .next (FmR.L ⟨t0, m, tm, ki, kt, kb, kc, .int 4 tk, .ref 76, (.int 32 269), (.str (chS 114) 294)⟩ w N [p0, p1, p2, p3, .str (chS 45) (tk + 8)] 5 (.ref 76)) (Z + 10) (tk + 9) (fun b => by cases b <;> kernel_rfl) (by decide) (.cons (oIe (bitAnd m 32) (tk + 6) 32 269 (tk + 7) q0) <| .nil) fun h' S' => hR h' A _ _ _ _ _ _ _ _ _ _ _ hA (by omega) (by rw [hq]; kernel_rfl) (by decide) S'
  · intro D h0 h L0 g d tk t0 os N Z A R m tm ki kt kb kc iv bv it bt ct rt r cs p0 p1 p2 p3 p4 hm hD hA S hR
    refine forStep ?_
    refine opTop (D := D) fun W hW => ?_
    refine opX hW hD hA S 0 hFm5_n (List.range 45) [] (some (.ref Z)) (FmN (frO (FmR.es ⟨t0, m, tm, ki, kt, kb, kc, .int iv it, .ref rt, .int bv bt, .str cs ct⟩ w N) 6) w N [p0, p1, p2, p3, p4] 5 78 Z tk) (Z + 1) (tk + 1) (fun b => by cases b <;> kernel_rfl) (by decide) .nil fun h1 S1 => ?_
    refine owned ⟨_, _, _, rfl⟩ S1 (n := 43) (e := N + 3) (it := N + 2) (a := Z) (i := 6) (r := .ref 78) rfl fun h2 S2 => ?_
    refine opTop (D := D) fun W2 hW2 => ?_
    refine opX hW2 hD hA S2 0 hFm5_a (List.range 44) [] () (FmA (frO (FmR.es ⟨t0, m, tm, ki, kt, kb, kc, .int 5 tk, .ref 78, .int bv bt, .str cs ct⟩ w N) 6) w N [p0, p1, p2, p3, p4] 5 78) (Z + 4) (tk + 3) (fun b => by cases b <;> kernel_rfl) (by decide) .nil fun h3 S3 => ?_
    refine opTop (D := D) fun W3 hW3 => ?_
    have hb := bit_one hm 5
    cases q0 : (bitAnd m 16 == 16) with
    | true =>
      have hq : bitQ m 5 = true := hb.symm.trans q0
      exact opX hW3 hD hA S3 0 hFm5_0 (List.range 44) _ .next (FmR.L ⟨t0, m, tm, ki, kt, kb, kc, .int 5 tk, .ref 78, (.int 16 271), (.str (chS 119) 295)⟩ w N [p0, p1, p2, p3, p4, .str (chS 119) 295] 6 (.ref 78)) (Z + 8) (tk + 7) (fun b => by cases b <;> kernel_rfl) (by decide) (.cons (oIe (bitAnd m 16) (tk + 6) 16 271 (tk + 7) q0) <| .nil) fun h' S' => hR h' A _ _ _ _ _ _ _ _ _ _ _ hA (by omega) (by rw [hq]; kernel_rfl) (by decide) S'
    | false =>
      have hq : bitQ m 5 = false := hb.symm.trans q0
      exact opX hW3 hD hA S3 0 hFm5_1 (List.range 44) _ .next (FmR.L ⟨t0, m, tm, ki, kt, kb, kc, .int 5 tk, .ref 78, (.int 16 271), (.str (chS 119) 295)⟩ w N [p0, p1, p2, p3, p4, .str (chS 45) (tk + 8)] 6 (.ref 78)) (Z + 10) (tk + 9) (fun b => by cases b <;> kernel_rfl) (by decide) (.cons (oIe (bitAnd m 16) (tk + 6) 16 271 (tk + 7) q0) <| .nil) fun h' S' => hR h' A _ _ _ _ _ _ _ _ _ _ _ hA (by omega) (by rw [hq]; kernel_rfl) (by decide) S'
  · intro D h0 h L0 g d tk t0 os N Z A R m tm ki kt kb kc iv bv it bt ct rt r cs p0 p1 p2 p3 p4 p5 hm hD hA S hR
    refine forStep ?_
    refine opTop (D := D) fun W hW => ?_
    refine opX hW hD hA S 0 hFm6_n (List.range 45) [] (some (.ref Z)) (FmN (frO (FmR.es ⟨t0, m, tm, ki, kt, kb, kc, .int iv it, .ref rt, .int bv bt, .str cs ct⟩ w N) 6) w N [p0, p1, p2, p3, p4, p5] 6 82 Z tk) (Z + 1) (tk + 1) (fun b => by cases b <;> kernel_rfl) (by decide) .nil fun h1 S1 => ?_
    refine owned ⟨_, _, _, rfl⟩ S1 (n := 43) (e := N + 3) (it := N + 2) (a := Z) (i := 7) (r := .ref 82) rfl fun h2 S2 => ?_
    refine opTop (D := D) fun W2 hW2 => ?_
    refine opX hW2 hD hA S2 0 hFm6_a (List.range 44) [] () (FmA (frO (FmR.es ⟨t0, m, tm, ki, kt, kb, kc, .int 6 tk, .ref 82, .int bv bt, .str cs ct⟩ w N) 6) w N [p0, p1, p2, p3, p4, p5] 6 82) (Z + 4) (tk + 3) (fun b => by cases b <;> kernel_rfl) (by decide) .nil fun h3 S3 => ?_
    refine opTop (D := D) fun W3 hW3 => ?_
    have hb := bit_one hm 6
    have ht := bit_two hm 10 3 1032 (by decide) (by decide) (by decide)
    cases q0 : (bitAnd m 1032 == 1032) with
    | true =>
      have hq : bitQ m 6 = true := hb.symm.trans (ht.1 q0)
      exact opX hW3 hD hA S3 0 hFm6_0 (List.range 44) _ .next (FmR.L ⟨t0, m, tm, ki, kt, kb, kc, .int 6 tk, .ref 82, (.int 1032 296), (.str (chS 115) 297)⟩ w N [p0, p1, p2, p3, p4, p5, .str (chS 115) 297] 7 (.ref 82)) (Z + 8) (tk + 7) (fun b => by cases b <;> kernel_rfl) (by decide) (.cons (oIe (bitAnd m 1032) (tk + 6) 1032 296 (tk + 7) q0) <| .nil) fun h' S' => hR h' A _ _ _ _ _ _ _ _ _ _ _ hA (by omega) (by rw [hq]; kernel_rfl) (by decide) S'
    | false =>
      cases q1 : (bitAnd m 1024 == 1024) with
      | true =>
        have hq : bitQ m 6 = false := hb.symm.trans (ht.2 q0 q1)
        exact opX hW3 hD hA S3 0 hFm6_1 (List.range 44) _ .next (FmR.L ⟨t0, m, tm, ki, kt, kb, kc, .int 6 tk, .ref 82, (.int 1024 259), (.str (chS 83) 298)⟩ w N [p0, p1, p2, p3, p4, p5, .str (chS 83) 298] 7 (.ref 82)) (Z + 11) (tk + 11) (fun b => by cases b <;> kernel_rfl) (by decide) (.cons (oIe (bitAnd m 1032) (tk + 6) 1032 296 (tk + 7) q0) <| .cons (oIe (bitAnd m 1024) (tk + 10) 1024 259 (tk + 11) q1) <| .nil) fun h' S' => hR h' A _ _ _ _ _ _ _ _ _ _ _ hA (by omega) (by rw [hq]; kernel_rfl) (by decide) S'
      | false =>
        cases q2 : (bitAnd m 8 == 8) with
        | true =>
          have hq : bitQ m 6 = true := hb.symm.trans q2
          exact opX hW3 hD hA S3 0 hFm6_2 (List.range 44) _ .next (FmR.L ⟨t0, m, tm, ki, kt, kb, kc, .int 6 tk, .ref 82, (.int 8 273), (.str (chS 120) 299)⟩ w N [p0, p1, p2, p3, p4, p5, .str (chS 120) 299] 7 (.ref 82)) (Z + 14) (tk + 15) (fun b => by cases b <;> kernel_rfl) (by decide) (.cons (oIe (bitAnd m 1032) (tk + 6) 1032 296 (tk + 7) q0) <| .cons (oIe (bitAnd m 1024) (tk + 10) 1024 259 (tk + 11) q1) <| .cons (oIe (bitAnd m 8) (tk + 14) 8 273 (tk + 15) q2) <| .nil) fun h' S' => hR h' A _ _ _ _ _ _ _ _ _ _ _ hA (by omega) (by rw [hq]; kernel_rfl) (by decide) S'
        | false =>
          have hq : bitQ m 6 = false := hb.symm.trans q2
          exact opX hW3 hD hA S3 0 hFm6_3 (List.range 44) _ .next (FmR.L ⟨t0, m, tm, ki, kt, kb, kc, .int 6 tk, .ref 82, (.int 8 273), (.str (chS 120) 299)⟩ w N [p0, p1, p2, p3, p4, p5, .str (chS 45) (tk + 16)] 7 (.ref 82)) (Z + 16) (tk + 17) (fun b => by cases b <;> kernel_rfl) (by decide) (.cons (oIe (bitAnd m 1032) (tk + 6) 1032 296 (tk + 7) q0) <| .cons (oIe (bitAnd m 1024) (tk + 10) 1024 259 (tk + 11) q1) <| .cons (oIe (bitAnd m 8) (tk + 14) 8 273 (tk + 15) q2) <| .nil) fun h' S' => hR h' A _ _ _ _ _ _ _ _ _ _ _ hA (by omega) (by rw [hq]; kernel_rfl) (by decide) S'
theorem fm_row4 {D : Nat} {w : World} {h0 h : Heap} {L0 : List (Addr × Obj)} {g : Array GenState} {d : Drawn} {tk t0 : Nat} {os : OsState} {N Z : Nat} {A : Around} {R : Result → Shared → Prop} {m : Int} {tm ki kt kb kc : Tok} {iv bv : Int} {it bt ct : Tok} {rt r : Addr} {cs : Str} {p0 p1 p2 p3 : Value} (hm : 0 ≤ m)
    (hD : D ≤ 780) (hA : Bd D A) (S : Sg L0 h0 (FmR.L ⟨t0, m, tm, ki, kt, kb, kc, .int iv it, .ref rt, .int bv bt, .str cs ct⟩ w N [p0, p1, p2, p3] 4 (.ref r)) Z h)
    (hR : ∀ h' A' c t tk' Z' iv it rt bv bt cs ct, Bd D A' → tk ≤ tk' → has sRw (chS c) = bitQ m 4 → decide (c < 128) = true → Sg L0 h0 (FmR.L ⟨t0, m, tm, ki, kt, kb, kc, .int iv it, .ref rt, .int bv bt, .str cs ct⟩ w N [p0, p1, p2, p3, .str (chS c) t] 5 (.ref 76)) Z' h' → codeAny (model PG w) A' (fmC N) R ⟨h', g, d, tk', os⟩) :
    codeAny (model PG w) A (fmC N) R ⟨h, g, d, tk, os⟩ := @(fmB_m (w := w)).1 D h0 h L0 g d tk t0 os N Z A R m tm ki kt kb kc iv bv it bt ct rt r cs p0 p1 p2 p3 hm hD hA S hR
theorem fm_row5 {D : Nat} {w : World} {h0 h : Heap} {L0 : List (Addr × Obj)} {g : Array GenState} {d : Drawn} {tk t0 : Nat} {os : OsState} {N Z : Nat} {A : Around} {R : Result → Shared → Prop} {m : Int} {tm ki kt kb kc : Tok} {iv bv : Int} {it bt ct : Tok} {rt r : Addr} {cs : Str} {p0 p1 p2 p3 p4 : Value} (hm : 0 ≤ m)
    (hD : D ≤ 780) (hA : Bd D A) (S : Sg L0 h0 (FmR.L ⟨t0, m, tm, ki, kt, kb, kc, .int iv it, .ref rt, .int bv bt, .str cs ct⟩ w N [p0, p1, p2, p3, p4] 5 (.ref r)) Z h)
    (hR : ∀ h' A' c t tk' Z' iv it rt bv bt cs ct, Bd D A' → tk ≤ tk' → has sRw (chS c) = bitQ m 5 → decide (c < 128) = true → Sg L0 h0 (FmR.L ⟨t0, m, tm, ki, kt, kb, kc, .int iv it, .ref rt, .int bv bt, .str cs ct⟩ w N [p0, p1, p2, p3, p4, .str (chS c) t] 6 (.ref 78)) Z' h' → codeAny (model PG w) A' (fmC N) R ⟨h', g, d, tk', os⟩) :
    codeAny (model PG w) A (fmC N) R ⟨h, g, d, tk, os⟩ := @(fmB_m (w := w)).2.1 D h0 h L0 g d tk t0 os N Z A R m tm ki kt kb kc iv bv it bt ct rt r cs p0 p1 p2 p3 p4 hm hD hA S hR
theorem fm_row6 {D : Nat} {w : World} {h0 h : Heap} {L0 : List (Addr × Obj)} {g : Array GenState} {d : Drawn} {tk t0 : Nat} {os : OsState} {N Z : Nat} {A : Around} {R : Result → Shared → Prop} {m : Int} {tm ki kt kb kc : Tok} {iv bv : Int} {it bt ct : Tok} {rt r : Addr} {cs : Str} {p0 p1 p2 p3 p4 p5 : Value} (hm : 0 ≤ m)
    (hD : D ≤ 780) (hA : Bd D A) (S : Sg L0 h0 (FmR.L ⟨t0, m, tm, ki, kt, kb, kc, .int iv it, .ref rt, .int bv bt, .str cs ct⟩ w N [p0, p1, p2, p3, p4, p5] 6 (.ref r)) Z h)
    (hR : ∀ h' A' c t tk' Z' iv it rt bv bt cs ct, Bd D A' → tk ≤ tk' → has sRw (chS c) = bitQ m 6 → decide (c < 128) = true → Sg L0 h0 (FmR.L ⟨t0, m, tm, ki, kt, kb, kc, .int iv it, .ref rt, .int bv bt, .str cs ct⟩ w N [p0, p1, p2, p3, p4, p5, .str (chS c) t] 7 (.ref 82)) Z' h' → codeAny (model PG w) A' (fmC N) R ⟨h', g, d, tk', os⟩) :
    codeAny (model PG w) A (fmC N) R ⟨h, g, d, tk, os⟩ := @(fmB_m (w := w)).2.2 D h0 h L0 g d tk t0 os N Z A R m tm ki kt kb kc iv bv it bt ct rt r cs p0 p1 p2 p3 p4 p5 hm hD hA S hR
end Mine
end
section
namespace Mine
set_option maxHeartbeats 8000000
open Builtin (bitAnd)
noncomputable def hFm7_n : List Hm := [.go [.ld 43], .cl none, .go [.ld 43], .ag none, .go [.ld 43, .ld 42], .cl none, .go [.ld 42], .ag none, .go [.ld 42, .ld 42, .ld 7, .ld 42, .up 42], .rt, .go [.ld 43, .ld 43, .fr, .ld 43, .up 43, .ld 43, .up 43, .al, .ld 43, .ld 43, .ld 43, .up 43, .ld 43, .up 43, .ld 43, .up 43], .rt]
noncomputable def hFm7_a : List Hm := [.go [.ld 44, .ld 44, .ld 44], .cl none, .go [.ld 44], .ag none, .go [.al], .rt, .go [.ld 45, .ld 45], .cl none, .go [.ld 45], .ag none, .go [.ld 45, .ld 45, .ld 44, .ld 45, .up 45], .rt, .go [.ld 45], .cl none, .go [.ld 45], .ag none, .go [.ld 45, .ld 45, .ld 44, .ld 45, .up 45], .rt, .go [.ld 45], .cl none, .go [.ld 45], .ag none, .go [.ld 45, .ld 45, .ld 44, .ld 45, .up 45, .al, .al], .hd, .rt, .go [.ld 47, .fr, .ld 40, .up 40, .fr, .ld 40, .up 40]]
noncomputable def hFm7_0 : List Hm := [.go [.ld 40, .ld 15, .ld 15], .cl none, .go [.ld 15], .ag none, .go [.al], .rt, .go [.ld 44], .cl none, .go [.ld 44], .cl none, .go [.ld 44], .ag none, .go [.ld 44, .ld 44, .ld 15, .ld 44, .up 44], .rt, .go [.ld 44, .ld 35, .ld 35, .ld 35], .cl none, .go [.ld 35], .ag none, .go [.al], .rt, .go [.ld 45, .ld 45], .cl none, .go [.ld 45], .ag none, .go [.ld 45, .ld 45, .ld 35, .ld 45, .up 45], .rt, .go [.ld 45], .cl none, .go [.ld 45], .ag none, .go [.ld 45, .ld 45, .ld 35, .ld 45, .up 45], .rt, .go [.ld 45], .cl none, .go [.ld 45], .ag none, .go [.ld 45, .ld 45, .ld 35, .ld 45, .up 45, .al, .al], .hd, .rt, .go [.ld 47, .fr, .ld 40, .up 40, .fr, .ld 40, .up 40, .ld 40, .fr], .cl none, .ag none, .rt, .go [.ld 40, .ld 40], .cl none, .ag none, .go [.fr], .rt, .go [.ld 40], .ct (.bool true) 0 [], .go [.ld 40, .ld 41, .ld 41, .ld 41, .ld 41, .ld 40], .cl none, .go [.ld 41], .ag none, .go [.ld 41, .up 41, .ld 41], .rt, .rt]
noncomputable def hFm7_1 : List Hm := [.go [.ld 40, .ld 15, .ld 15], .cl none, .go [.ld 15], .ag none, .go [.al], .rt, .go [.ld 44], .cl none, .go [.ld 44], .cl none, .go [.ld 44], .ag none, .go [.ld 44, .ld 44, .ld 15, .ld 44, .up 44], .rt, .go [.ld 44, .ld 35, .ld 35, .ld 35], .cl none, .go [.ld 35], .ag none, .go [.al], .rt, .go [.ld 45, .ld 45], .cl none, .go [.ld 45], .ag none, .go [.ld 45, .ld 45, .ld 35, .ld 45, .up 45], .rt, .go [.ld 45], .cl none, .go [.ld 45], .ag none, .go [.ld 45, .ld 45, .ld 35, .ld 45, .up 45], .rt, .go [.ld 45], .cl none, .go [.ld 45], .ag none, .go [.ld 45, .ld 45, .ld 35, .ld 45, .up 45, .al, .al], .hd, .rt, .go [.ld 47, .fr, .ld 40, .up 40, .fr, .ld 40, .up 40, .ld 40, .fr], .cl none, .ag none, .rt, .go [.ld 40, .ld 40], .cl none, .ag none, .go [.fr], .rt, .go [.ld 40], .ct (.bool false) 0 [], .ag none, .go [.ld 44], .cl none, .go [.ld 44], .ag none, .go [.ld 44, .ld 44, .ld 15, .ld 44, .up 44, .al, .al], .hd, .rt, .go [.ld 49], .ag none, .go [.ld 40, .fr], .cl none, .ag none, .rt, .go [.ld 40, .ld 41, .ld 41, .ld 41, .ld 41, .fr], .cl none, .go [.ld 41], .ag none, .go [.ld 41, .up 41, .ld 41], .rt, .rt]
noncomputable def hFm8_n : List Hm := [.go [.ld 43], .cl none, .go [.ld 43], .ag none, .go [.ld 43, .ld 42], .cl none, .go [.ld 42], .ag none, .go [.ld 42, .ld 42, .ld 7, .ld 42, .up 42], .rt, .go [.ld 43, .ld 43, .fr, .ld 43, .up 43, .ld 43, .up 43, .al, .ld 43, .ld 43, .ld 43, .up 43, .ld 43, .up 43, .ld 43, .up 43], .rt]
noncomputable def hFm8_a : List Hm := [.go [.ld 44, .ld 44, .ld 44], .cl none, .go [.ld 44], .ag none, .go [.al], .rt, .go [.ld 45, .ld 45], .cl none, .go [.ld 45], .ag none, .go [.ld 45, .ld 45, .ld 44, .ld 45, .up 45], .rt, .go [.ld 45], .cl none, .go [.ld 45], .ag none, .go [.ld 45, .ld 45, .ld 44, .ld 45, .up 45], .rt, .go [.ld 45], .cl none, .go [.ld 45], .ag none, .go [.ld 45, .ld 45, .ld 44, .ld 45, .up 45, .al, .al], .hd, .rt, .go [.ld 47, .fr, .ld 40, .up 40, .fr, .ld 40, .up 40]]
noncomputable def hFm8_0 : List Hm := [.go [.ld 40, .ld 16, .ld 16], .cl none, .go [.ld 16], .ag none, .go [.al], .rt, .go [.ld 44], .cl none, .go [.ld 44], .cl none, .go [.ld 44], .ag none, .go [.ld 44, .ld 44, .ld 16, .ld 44, .up 44], .rt, .go [.ld 44, .ld 36, .ld 36, .ld 36], .cl none, .go [.ld 36], .ag none, .go [.al], .rt, .go [.ld 45, .ld 45], .cl none, .go [.ld 45], .ag none, .go [.ld 45, .ld 45, .ld 36, .ld 45, .up 45], .rt, .go [.ld 45], .cl none, .go [.ld 45], .ag none, .go [.ld 45, .ld 45, .ld 36, .ld 45, .up 45], .rt, .go [.ld 45], .cl none, .go [.ld 45], .ag none, .go [.ld 45, .ld 45, .ld 36, .ld 45, .up 45, .al, .al], .hd, .rt, .go [.ld 47, .fr, .ld 40, .up 40, .fr, .ld 40, .up 40, .ld 40, .fr], .cl none, .ag none, .rt, .go [.ld 40, .ld 40], .cl none, .ag none, .go [.fr], .rt, .go [.ld 40], .ct (.bool true) 0 [], .go [.ld 40, .ld 41, .ld 41, .ld 41, .ld 41, .ld 40], .cl none, .go [.ld 41], .ag none, .go [.ld 41, .up 41, .ld 41], .rt, .rt]
noncomputable def hFm8_1 : List Hm := [.go [.ld 40, .ld 16, .ld 16], .cl none, .go [.ld 16], .ag none, .go [.al], .rt, .go [.ld 44], .cl none, .go [.ld 44], .cl none, .go [.ld 44], .ag none, .go [.ld 44, .ld 44, .ld 16, .ld 44, .up 44], .rt, .go [.ld 44, .ld 36, .ld 36, .ld 36], .cl none, .go [.ld 36], .ag none, .go [.al], .rt, .go [.ld 45, .ld 45], .cl none, .go [.ld 45], .ag none, .go [.ld 45, .ld 45, .ld 36, .ld 45, .up 45], .rt, .go [.ld 45], .cl none, .go [.ld 45], .ag none, .go [.ld 45, .ld 45, .ld 36, .ld 45, .up 45], .rt, .go [.ld 45], .cl none, .go [.ld 45], .ag none, .go [.ld 45, .ld 45, .ld 36, .ld 45, .up 45, .al, .al], .hd, .rt, .go [.ld 47, .fr, .ld 40, .up 40, .fr, .ld 40, .up 40, .ld 40, .fr], .cl none, .ag none, .rt, .go [.ld 40, .ld 40], .cl none, .ag none, .go [.fr], .rt, .go [.ld 40], .ct (.bool false) 0 [], .ag none, .go [.ld 44], .cl none, .go [.ld 44], .ag none, .go [.ld 44, .ld 44, .ld 16, .ld 44, .up 44, .al, .al], .hd, .rt, .go [.ld 49], .ag none, .go [.ld 40, .fr], .cl none, .ag none, .rt, .go [.ld 40, .ld 41, .ld 41, .ld 41, .ld 41, .fr], .cl none, .go [.ld 41], .ag none, .go [.ld 41, .up 41, .ld 41], .rt, .rt]
noncomputable def hFm9_n : List Hm := [.go [.ld 43], .cl none, .go [.ld 43], .ag none, .go [.ld 43, .ld 42], .cl none, .go [.ld 42], .ag none, .go [.ld 42, .ld 42, .ld 7, .ld 42, .up 42], .rt, .go [.ld 43, .ld 43, .fr, .ld 43, .up 43, .ld 43, .up 43, .al, .ld 43, .ld 43, .ld 43, .up 43, .ld 43, .up 43, .ld 43, .up 43], .rt]
noncomputable def hFm9_a : List Hm := [.go [.ld 44, .ld 44, .ld 44], .cl none, .go [.ld 44], .ag none, .go [.al], .rt, .go [.ld 45, .ld 45], .cl none, .go [.ld 45], .ag none, .go [.ld 45, .ld 45, .ld 44, .ld 45, .up 45], .rt, .go [.ld 45], .cl none, .go [.ld 45], .ag none, .go [.ld 45, .ld 45, .ld 44, .ld 45, .up 45], .rt, .go [.ld 45], .cl none, .go [.ld 45], .ag none, .go [.ld 45, .ld 45, .ld 44, .ld 45, .up 45, .al, .al], .hd, .rt, .go [.ld 47, .fr, .ld 40, .up 40, .fr, .ld 40, .up 40]]
noncomputable def hFm9_0 : List Hm := [.go [.ld 40, .ld 17, .ld 17], .cl none, .go [.ld 17], .ag none, .go [.al], .rt, .go [.ld 44], .cl none, .go [.ld 44], .cl none, .go [.ld 44], .ag none, .go [.ld 44, .ld 44, .ld 17, .ld 44, .up 44], .rt, .go [.ld 44, .ld 37, .ld 37, .ld 37], .cl none, .go [.ld 37], .ag none, .go [.al], .rt, .go [.ld 45, .ld 45], .cl none, .go [.ld 45], .ag none, .go [.ld 45, .ld 45, .ld 37, .ld 45, .up 45], .rt, .go [.ld 45], .cl none, .go [.ld 45], .ag none, .go [.ld 45, .ld 45, .ld 37, .ld 45, .up 45], .rt, .go [.ld 45], .cl none, .go [.ld 45], .ag none, .go [.ld 45, .ld 45, .ld 37, .ld 45, .up 45, .al, .al], .hd, .rt, .go [.ld 47, .fr, .ld 40, .up 40, .fr, .ld 40, .up 40, .ld 40, .fr], .cl none, .ag none, .rt, .go [.ld 40, .ld 40], .cl none, .ag none, .go [.fr], .rt, .go [.ld 40], .ct (.bool true) 0 [], .go [.ld 40, .ld 41, .ld 41, .ld 41, .ld 41, .ld 40], .cl none, .go [.ld 41], .ag none, .go [.ld 41, .up 41, .ld 41], .rt, .rt]
noncomputable def hFm9_1 : List Hm := [.go [.ld 40, .ld 17, .ld 17], .cl none, .go [.ld 17], .ag none, .go [.al], .rt, .go [.ld 44], .cl none, .go [.ld 44], .cl none, .go [.ld 44], .ag none, .go [.ld 44, .ld 44, .ld 17, .ld 44, .up 44], .rt, .go [.ld 44, .ld 37, .ld 37, .ld 37], .cl none, .go [.ld 37], .ag none, .go [.al], .rt, .go [.ld 45, .ld 45], .cl none, .go [.ld 45], .ag none, .go [.ld 45, .ld 45, .ld 37, .ld 45, .up 45], .rt, .go [.ld 45], .cl none, .go [.ld 45], .ag none, .go [.ld 45, .ld 45, .ld 37, .ld 45, .up 45], .rt, .go [.ld 45], .cl none, .go [.ld 45], .ag none, .go [.ld 45, .ld 45, .ld 37, .ld 45, .up 45, .al, .al], .hd, .rt, .go [.ld 47, .fr, .ld 40, .up 40, .fr, .ld 40, .up 40, .ld 40, .fr], .cl none, .ag none, .rt, .go [.ld 40, .ld 40], .cl none, .ag none, .go [.fr], .rt, .go [.ld 40], .ct (.bool false) 0 [], .ag none, .go [.ld 44], .cl none, .go [.ld 44], .ag none, .go [.ld 44, .ld 44, .ld 17, .ld 44, .up 44], .rt, .go [.ld 44, .ld 38, .ld 38, .ld 38], .cl none, .go [.ld 38], .ag none, .go [.al], .rt, .go [.ld 48, .ld 48], .cl none, .go [.ld 48], .ag none, .go [.ld 48, .ld 48, .ld 38, .ld 48, .up 48], .rt, .go [.ld 48], .cl none, .go [.ld 48], .ag none, .go [.ld 48, .ld 48, .ld 38, .ld 48, .up 48], .rt, .go [.ld 48], .cl none, .go [.ld 48], .ag none, .go [.ld 48, .ld 48, .ld 38, .ld 48, .up 48, .al, .al], .hd, .rt, .go [.ld 50, .fr, .ld 40, .up 40, .fr, .ld 40, .up 40, .ld 40, .fr], .cl none, .ag none, .rt, .go [.ld 40, .ld 40], .cl none, .ag none, .go [.fr], .rt, .go [.ld 40], .ct (.bool true) 0 [], .go [.ld 40, .ld 41, .ld 41, .ld 41, .ld 41, .ld 40], .cl none, .go [.ld 41], .ag none, .go [.ld 41, .up 41, .ld 41], .rt, .rt]
noncomputable def hFm9_2 : List Hm := [.go [.ld 40, .ld 17, .ld 17], .cl none, .go [.ld 17], .ag none, .go [.al], .rt, .go [.ld 44], .cl none, .go [.ld 44], .cl none, .go [.ld 44], .ag none, .go [.ld 44, .ld 44, .ld 17, .ld 44, .up 44], .rt, .go [.ld 44, .ld 37, .ld 37, .ld 37], .cl none, .go [.ld 37], .ag none, .go [.al], .rt, .go [.ld 45, .ld 45], .cl none, .go [.ld 45], .ag none, .go [.ld 45, .ld 45, .ld 37, .ld 45, .up 45], .rt, .go [.ld 45], .cl none, .go [.ld 45], .ag none, .go [.ld 45, .ld 45, .ld 37, .ld 45, .up 45], .rt, .go [.ld 45], .cl none, .go [.ld 45], .ag none, .go [.ld 45, .ld 45, .ld 37, .ld 45, .up 45, .al, .al], .hd, .rt, .go [.ld 47, .fr, .ld 40, .up 40, .fr, .ld 40, .up 40, .ld 40, .fr], .cl none, .ag none, .rt, .go [.ld 40, .ld 40], .cl none, .ag none, .go [.fr], .rt, .go [.ld 40], .ct (.bool false) 0 [], .ag none, .go [.ld 44], .cl none, .go [.ld 44], .ag none, .go [.ld 44, .ld 44, .ld 17, .ld 44, .up 44], .rt, .go [.ld 44, .ld 38, .ld 38, .ld 38], .cl none, .go [.ld 38], .ag none, .go [.al], .rt, .go [.ld 48, .ld 48], .cl none, .go [.ld 48], .ag none, .go [.ld 48, .ld 48, .ld 38, .ld 48, .up 48], .rt, .go [.ld 48], .cl none, .go [.ld 48], .ag none, .go [.ld 48, .ld 48, .ld 38, .ld 48, .up 48], .rt, .go [.ld 48], .cl none, .go [.ld 48], .ag none, .go [.ld 48, .ld 48, .ld 38, .ld 48, .up 48, .al, .al], .hd, .rt, .go [.ld 50, .fr, .ld 40, .up 40, .fr, .ld 40, .up 40, .ld 40, .fr], .cl none, .ag none, .rt, .go [.ld 40, .ld 40], .cl none, .ag none, .go [.fr], .rt, .go [.ld 40], .ct (.bool false) 0 [], .ag none, .go [.ld 44], .cl none, .go [.ld 44], .ag none, .go [.ld 44, .ld 44, .ld 17, .ld 44, .up 44], .rt, .go [.ld 44, .ld 39, .ld 39, .ld 39], .cl none, .go [.ld 39], .ag none, .go [.al], .rt, .go [.ld 51, .ld 51], .cl none, .go [.ld 51], .ag none, .go [.ld 51, .ld 51, .ld 39, .ld 51, .up 51], .rt, .go [.ld 51], .cl none, .go [.ld 51], .ag none, .go [.ld 51, .ld 51, .ld 39, .ld 51, .up 51], .rt, .go [.ld 51], .cl none, .go [.ld 51], .ag none, .go [.ld 51, .ld 51, .ld 39, .ld 51, .up 51, .al, .al], .hd, .rt, .go [.ld 53, .fr, .ld 40, .up 40, .fr, .ld 40, .up 40, .ld 40, .fr], .cl none, .ag none, .rt, .go [.ld 40, .ld 40], .cl none, .ag none, .go [.fr], .rt, .go [.ld 40], .ct (.bool true) 0 [], .go [.ld 40, .ld 41, .ld 41, .ld 41, .ld 41, .ld 40], .cl none, .go [.ld 41], .ag none, .go [.ld 41, .up 41, .ld 41], .rt, .rt]
noncomputable def hFm9_3 : List Hm := [.go [.ld 40, .ld 17, .ld 17], .cl none, .go [.ld 17], .ag none, .go [.al], .rt, .go [.ld 44], .cl none, .go [.ld 44], .cl none, .go [.ld 44], .ag none, .go [.ld 44, .ld 44, .ld 17, .ld 44, .up 44], .rt, .go [.ld 44, .ld 37, .ld 37, .ld 37], .cl none, .go [.ld 37], .ag none, .go [.al], .rt, .go [.ld 45, .ld 45], .cl none, .go [.ld 45], .ag none, .go [.ld 45, .ld 45, .ld 37, .ld 45, .up 45], .rt, .go [.ld 45], .cl none, .go [.ld 45], .ag none, .go [.ld 45, .ld 45, .ld 37, .ld 45, .up 45], .rt, .go [.ld 45], .cl none, .go [.ld 45], .ag none, .go [.ld 45, .ld 45, .ld 37, .ld 45, .up 45, .al, .al], .hd, .rt, .go [.ld 47, .fr, .ld 40, .up 40, .fr, .ld 40, .up 40, .ld 40, .fr], .cl none, .ag none, .rt, .go [.ld 40, .ld 40], .cl none, .ag none, .go [.fr], .rt, .go [.ld 40], .ct (.bool false) 0 [], .ag none, .go [.ld 44], .cl none, .go [.ld 44], .ag none, .go [.ld 44, .ld 44, .ld 17, .ld 44, .up 44], .rt, .go [.ld 44, .ld 38, .ld 38, .ld 38], .cl none, .go [.ld 38], .ag none, .go [.al], .rt, .go [.ld 48, .ld 48], .cl none, .go [.ld 48], .ag none, .go [.ld 48, .ld 48, .ld 38, .ld 48, .up 48], .rt, .go [.ld 48], .cl none, .go [.ld 48], .ag none, .go [.ld 48, .ld 48, .ld 38, .ld 48, .up 48], .rt, .go [.ld 48], .cl none, .go [.ld 48], .ag none, .go [.ld 48, .ld 48, .ld 38, .ld 48, .up 48, .al, .al], .hd, .rt, .go [.ld 50, .fr, .ld 40, .up 40, .fr, .ld 40, .up 40, .ld 40, .fr], .cl none, .ag none, .rt, .go [.ld 40, .ld 40], .cl none, .ag none, .go [.fr], .rt, .go [.ld 40], .ct (.bool false) 0 [], .ag none, .go [.ld 44], .cl none, .go [.ld 44], .ag none, .go [.ld 44, .ld 44, .ld 17, .ld 44, .up 44], .rt, .go [.ld 44, .ld 39, .ld 39, .ld 39], .cl none, .go [.ld 39], .ag none, .go [.al], .rt, .go [.ld 51, .ld 51], .cl none, .go [.ld 51], .ag none, .go [.ld 51, .ld 51, .ld 39, .ld 51, .up 51], .rt, .go [.ld 51], .cl none, .go [.ld 51], .ag none, .go [.ld 51, .ld 51, .ld 39, .ld 51, .up 51], .rt, .go [.ld 51], .cl none, .go [.ld 51], .ag none, .go [.ld 51, .ld 51, .ld 39, .ld 51, .up 51, .al, .al], .hd, .rt, .go [.ld 53, .fr, .ld 40, .up 40, .fr, .ld 40, .up 40, .ld 40, .fr], .cl none, .ag none, .rt, .go [.ld 40, .ld 40], .cl none, .ag none, .go [.fr], .rt, .go [.ld 40], .ct (.bool false) 0 [], .ag none, .go [.ld 44], .cl none, .go [.ld 44], .ag none, .go [.ld 44, .ld 44, .ld 17, .ld 44, .up 44, .al, .al], .hd, .rt, .go [.ld 55], .ag none, .go [.ld 40, .fr], .cl none, .ag none, .rt, .go [.ld 40, .ld 41, .ld 41, .ld 41, .ld 41, .fr], .cl none, .go [.ld 41], .ag none, .go [.ld 41, .up 41, .ld 41], .rt, .rt]
theorem fmC_m {w : World} : (∀ {D : Nat} {h0 h : Heap} {L0 : List (Addr × Obj)} {g : Array GenState} {d : Drawn} {tk t0 : Nat} {os : OsState} {N Z : Nat} {A : Around} {R : Result → Shared → Prop} {m : Int} {tm ki kt kb kc : Tok} {iv bv : Int} {it bt ct : Tok} {rt r : Addr} {cs : Str} {p0 p1 p2 p3 p4 p5 p6 : Value} (hm : 0 ≤ m) (hD : D ≤ 780) (hA : Bd D A) (S : Sg L0 h0 (FmR.L ⟨t0, m, tm, ki, kt, kb, kc, .int iv it, .ref rt, .int bv bt, .str cs ct⟩ w N [p0, p1, p2, p3, p4, p5, p6] 7 (.ref r)) Z h) (hR : ∀ h' A' c t tk' Z' iv it rt bv bt cs ct, Bd D A' → tk ≤ tk' → has sRw (chS c) = bitQ m 7 → decide (c < 128) = true → Sg L0 h0 (FmR.L ⟨t0, m, tm, ki, kt, kb, kc, .int iv it, .ref rt, .int bv bt, .str cs ct⟩ w N [p0, p1, p2, p3, p4, p5, p6, .str (chS c) t] 8 (.ref 84)) Z' h' → codeAny (model PG w) A' (fmC N) R ⟨h', g, d, tk', os⟩), codeAny (model PG w) A (fmC N) R ⟨h, g, d, tk, os⟩) ∧
    (∀ {D : Nat} {h0 h : Heap} {L0 : List (Addr × Obj)} {g : Array GenState} {d : Drawn} {tk t0 : Nat} {os : OsState} {N Z : Nat} {A : Around} {R : Result → Shared → Prop} {m : Int} {tm ki kt kb kc : Tok} {iv bv : Int} {it bt ct : Tok} {rt r : Addr} {cs : Str} {p0 p1 p2 p3 p4 p5 p6 p7 : Value} (hm : 0 ≤ m) (hD : D ≤ 780) (hA : Bd D A) (S : Sg L0 h0 (FmR.L ⟨t0, m, tm, ki, kt, kb, kc, .int iv it, .ref rt, .int bv bt, .str cs ct⟩ w N [p0, p1, p2, p3, p4, p5, p6, p7] 8 (.ref r)) Z h) (hR : ∀ h' A' c t tk' Z' iv it rt bv bt cs ct, Bd D A' → tk ≤ tk' → has sRw (chS c) = bitQ m 8 → decide (c < 128) = true → Sg L0 h0 (FmR.L ⟨t0, m, tm, ki, kt, kb, kc, .int iv it, .ref rt, .int bv bt, .str cs ct⟩ w N [p0, p1, p2, p3, p4, p5, p6, p7, .str (chS c) t] 9 (.ref 86)) Z' h' → codeAny (model PG w) A' (fmC N) R ⟨h', g, d, tk', os⟩), codeAny (model PG w) A (fmC N) R ⟨h, g, d, tk, os⟩) ∧
    (∀ {D : Nat} {h0 h : Heap} {L0 : List (Addr × Obj)} {g : Array GenState} {d : Drawn} {tk t0 : Nat} {os : OsState} {N Z : Nat} {A : Around} {R : Result → Shared → Prop} {m : Int} {tm ki kt kb kc : Tok} {iv bv : Int} {it bt ct : Tok} {rt r : Addr} {cs : Str} {p0 p1 p2 p3 p4 p5 p6 p7 p8 : Value} (hm : 0 ≤ m) (hD : D ≤ 780) (hA : Bd D A) (S : Sg L0 h0 (FmR.L ⟨t0, m, tm, ki, kt, kb, kc, .int iv it, .ref rt, .int bv bt, .str cs ct⟩ w N [p0, p1, p2, p3, p4, p5, p6, p7, p8] 9 (.ref r)) Z h) (hR : ∀ h' A' c t tk' Z' iv it rt bv bt cs ct, Bd D A' → tk ≤ tk' → has sRw (chS c) = bitQ m 9 → decide (c < 128) = true → Sg L0 h0 (FmR.L ⟨t0, m, tm, ki, kt, kb, kc, .int iv it, .ref rt, .int bv bt, .str cs ct⟩ w N [p0, p1, p2, p3, p4, p5, p6, p7, p8, .str (chS c) t] 10 (.ref 90)) Z' h' → codeAny (model PG w) A' (fmC N) R ⟨h', g, d, tk', os⟩), codeAny (model PG w) A (fmC N) R ⟨h, g, d, tk, os⟩) := by
  refine ⟨?_, ?_, ?_⟩
  · intro D h0 h L0 g d tk t0 os N Z A R m tm ki kt kb kc iv bv it bt ct rt r cs p0 p1 p2 p3 p4 p5 p6 hm hD hA S hR
    refine forStep ?_
    refine opTop (D := D) fun W hW => ?_
    refine opX hW hD hA S 0 hFm7_n (List.range 45) [] (some (.ref Z)) (FmN (frO (FmR.es ⟨t0, m, tm, ki, kt, kb, kc, .int iv it, .ref rt, .int bv bt, .str cs ct⟩ w N) 6) w N [p0, p1, p2, p3, p4, p5, p6] 7 84 Z tk) (Z + 1) (tk + 1) (fun b => by cases b <;> kernel_rfl) (by decide) .nil fun h1 S1 => ?_
    refine owned ⟨_, _, _, rfl⟩ S1 (n := 43) (e := N + 3) (it := N + 2) (a := Z) (i := 8) (r := .ref 84) rfl fun h2 S2 => ?_
    refine opTop (D := D) fun W2 hW2 => ?_
    refine opX hW2 hD hA S2 0 hFm7_a (List.range 44) [] () (FmA (frO (FmR.es ⟨t0, m, tm, ki, kt, kb, kc, .int 7 tk, .ref 84, .int bv bt, .str cs ct⟩ w N) 6) w N [p0, p1, p2, p3, p4, p5, p6] 7 84) (Z + 4) (tk + 3) (fun b => by cases b <;> kernel_rfl) (by decide) .nil fun h3 S3 => ?_
    refine opTop (D := D) fun W3 hW3 => ?_
    have hb := bit_one hm 7
    cases q0 : (bitAnd m 4 == 4) with
    | true =>
      have hq : bitQ m 7 = true := hb.symm.trans q0
      exact opX hW3 hD hA S3 0 hFm7_0 (List.range 44) _ .next (FmR.L ⟨t0, m, tm, ki, kt, kb, kc, .int 7 tk, .ref 84, (.int 4 275), (.str (chS 114) 300)⟩ w N [p0, p1, p2, p3, p4, p5, p6, .str (chS 114) 300] 8 (.ref 84)) (Z + 8) (tk + 7) (fun b => by cases b <;> kernel_rfl) (by decide) (.cons (oIe (bitAnd m 4) (tk + 6) 4 275 (tk + 7) q0) <| .nil) fun h' S' => hR h' A _ _ _ _ _ _ _ _ _ _ _ hA (by omega) (by rw [hq]; kernel_rfl) (by decide) S'
    | false =>
      have hq : bitQ m 7 = false := hb.symm.trans q0
      exact opX hW3 hD hA S3 0 hFm7_1 (List.range 44) _ .next (FmR.L ⟨t0, m, tm, ki, kt, kb, kc, .int 7 tk, .ref 84, (.int 4 275), (.str (chS 114) 300)⟩ w N [p0, p1, p2, p3, p4, p5, p6, .str (chS 45) (tk + 8)] 8 (.ref 84)) (Z + 10) (tk + 9) (fun b => by cases b <;> kernel_rfl) (by decide) (.cons (oIe (bitAnd m 4) (tk + 6) 4 275 (tk + 7) q0) <| .nil) fun h' S' => hR h' A _ _ _ _ _ _ _ _ _ _ _ hA (by omega) (by rw [hq]; kernel_rfl) (by decide) S'
  · intro D h0 h L0 g d tk t0 os N Z A R m tm ki kt kb kc iv bv it bt ct rt r cs p0 p1 p2 p3 p4 p5 p6 p7 hm hD hA S hR
    refine forStep ?_
    refine opTop (D := D) fun W hW => ?_
    refine opX hW hD hA S 0 hFm8_n (List.range 45) [] (some (.ref Z)) (FmN (frO (FmR.es ⟨t0, m, tm, ki, kt, kb, kc, .int iv it, .ref rt, .int bv bt, .str cs ct⟩ w N) 6) w N [p0, p1, p2, p3, p4, p5, p6, p7] 8 86 Z tk) (Z + 1) (tk + 1) (fun b => by cases b <;> kernel_rfl) (by decide) .nil fun h1 S1 => ?_
    refine owned ⟨_, _, _, rfl⟩ S1 (n := 43) (e := N + 3) (it := N + 2) (a := Z) (i := 9) (r := .ref 86) rfl fun h2 S2 => ?_
    refine opTop (D := D) fun W2 hW2 => ?_
    refine opX hW2 hD hA S2 0 hFm8_a (List.range 44) [] () (FmA (frO (FmR.es ⟨t0, m, tm, ki, kt, kb, kc, .int 8 tk, .ref 86, .int bv bt, .str cs ct⟩ w N) 6) w N [p0, p1, p2, p3, p4, p5, p6, p7] 8 86) (Z + 4) (tk + 3) (fun b => by cases b <;> kernel_rfl) (by decide) .nil fun h3 S3 => ?_
    refine opTop (D := D) fun W3 hW3 => ?_
    have hb := bit_one hm 8
    cases q0 : (bitAnd m 2 == 2) with
    | true =>
      have hq : bitQ m 8 = true := hb.symm.trans q0
      exact opX hW3 hD hA S3 0 hFm8_0 (List.range 44) _ .next (FmR.L ⟨t0, m, tm, ki, kt, kb, kc, .int 8 tk, .ref 86, (.int 2 277), (.str (chS 119) 301)⟩ w N [p0, p1, p2, p3, p4, p5, p6, p7, .str (chS 119) 301] 9 (.ref 86)) (Z + 8) (tk + 7) (fun b => by cases b <;> kernel_rfl) (by decide) (.cons (oIe (bitAnd m 2) (tk + 6) 2 277 (tk + 7) q0) <| .nil) fun h' S' => hR h' A _ _ _ _ _ _ _ _ _ _ _ hA (by omega) (by rw [hq]; kernel_rfl) (by decide) S'
    | false =>
      have hq : bitQ m 8 = false := hb.symm.trans q0
      exact opX hW3 hD hA S3 0 hFm8_1 (List.range 44) _ .next (FmR.L ⟨t0, m, tm, ki, kt, kb, kc, .int 8 tk, .ref 86, (.int 2 277), (.str (chS 119) 301)⟩ w N [p0, p1, p2, p3, p4, p5, p6, p7, .str (chS 45) (tk + 8)] 9 (.ref 86)) (Z + 10) (tk + 9) (fun b => by cases b <;> kernel_rfl) (by decide) (.cons (oIe (bitAnd m 2) (tk + 6) 2 277 (tk + 7) q0) <| .nil) fun h' S' => hR h' A _ _ _ _ _ _ _ _ _ _ _ hA (by omega) (by rw [hq]; kernel_rfl) (by decide) S'
  · intro D h0 h L0 g d tk t0 os N Z A R m tm ki kt kb kc iv bv it bt ct rt r cs p0 p1 p2 p3 p4 p5 p6 p7 p8 hm hD hA S hR
    refine forStep ?_
    refine opTop (D := D) fun W hW => ?_
    refine opX hW hD hA S 0 hFm9_n (List.range 45) [] (some (.ref Z)) (FmN (frO (FmR.es ⟨t0, m, tm, ki, kt, kb, kc, .int iv it, .ref rt, .int bv bt, .str cs ct⟩ w N) 6) w N [p0, p1, p2, p3, p4, p5, p6, p7, p8] 9 90 Z tk) (Z + 1) (tk + 1) (fun b => by cases b <;> kernel_rfl) (by decide) .nil fun h1 S1 => ?_
    refine owned ⟨_, _, _, rfl⟩ S1 (n := 43) (e := N + 3) (it := N + 2) (a := Z) (i := 10) (r := .ref 90) rfl fun h2 S2 => ?_
    refine opTop (D := D) fun W2 hW2 => ?_
    refine opX hW2 hD hA S2 0 hFm9_a (List.range 44) [] () (FmA (frO (FmR.es ⟨t0, m, tm, ki, kt, kb, kc, .int 9 tk, .ref 90, .int bv bt, .str cs ct⟩ w N) 6) w N [p0, p1, p2, p3, p4, p5, p6, p7, p8] 9 90) (Z + 4) (tk + 3) (fun b => by cases b <;> kernel_rfl) (by decide) .nil fun h3 S3 => ?_
    refine opTop (D := D) fun W3 hW3 => ?_
    have hb := bit_one hm 9
    have ht := bit_two hm 9 0 513 (by decide) (by decide) (by decide)
    cases q0 : (bitAnd m 513 == 513) with
    | true =>
      have hq : bitQ m 9 = true := hb.symm.trans (ht.1 q0)
      exact opX hW3 hD hA S3 0 hFm9_0 (List.range 44) _ .next (FmR.L ⟨t0, m, tm, ki, kt, kb, kc, .int 9 tk, .ref 90, (.int 513 302), (.str (chS 116) 303)⟩ w N [p0, p1, p2, p3, p4, p5, p6, p7, p8, .str (chS 116) 303] 10 (.ref 90)) (Z + 8) (tk + 7) (fun b => by cases b <;> kernel_rfl) (by decide) (.cons (oIe (bitAnd m 513) (tk + 6) 513 302 (tk + 7) q0) <| .nil) fun h' S' => hR h' A _ _ _ _ _ _ _ _ _ _ _ hA (by omega) (by rw [hq]; kernel_rfl) (by decide) S'
    | false =>
      cases q1 : (bitAnd m 512 == 512) with
      | true =>
        have hq : bitQ m 9 = false := hb.symm.trans (ht.2 q0 q1)
        exact opX hW3 hD hA S3 0 hFm9_1 (List.range 44) _ .next (FmR.L ⟨t0, m, tm, ki, kt, kb, kc, .int 9 tk, .ref 90, (.int 512 261), (.str (chS 84) 304)⟩ w N [p0, p1, p2, p3, p4, p5, p6, p7, p8, .str (chS 84) 304] 10 (.ref 90)) (Z + 11) (tk + 11) (fun b => by cases b <;> kernel_rfl) (by decide) (.cons (oIe (bitAnd m 513) (tk + 6) 513 302 (tk + 7) q0) <| .cons (oIe (bitAnd m 512) (tk + 10) 512 261 (tk + 11) q1) <| .nil) fun h' S' => hR h' A _ _ _ _ _ _ _ _ _ _ _ hA (by omega) (by rw [hq]; kernel_rfl) (by decide) S'
      | false =>
        cases q2 : (bitAnd m 1 == 1) with
        | true =>
          have hq : bitQ m 9 = true := hb.symm.trans q2
          exact opX hW3 hD hA S3 0 hFm9_2 (List.range 44) _ .next (FmR.L ⟨t0, m, tm, ki, kt, kb, kc, .int 9 tk, .ref 90, (.int 1 279), (.str (chS 120) 305)⟩ w N [p0, p1, p2, p3, p4, p5, p6, p7, p8, .str (chS 120) 305] 10 (.ref 90)) (Z + 14) (tk + 15) (fun b => by cases b <;> kernel_rfl) (by decide) (.cons (oIe (bitAnd m 513) (tk + 6) 513 302 (tk + 7) q0) <| .cons (oIe (bitAnd m 512) (tk + 10) 512 261 (tk + 11) q1) <| .cons (oIe (bitAnd m 1) (tk + 14) 1 279 (tk + 15) q2) <| .nil) fun h' S' => hR h' A _ _ _ _ _ _ _ _ _ _ _ hA (by omega) (by rw [hq]; kernel_rfl) (by decide) S'
        | false =>
          have hq : bitQ m 9 = false := hb.symm.trans q2
          exact opX hW3 hD hA S3 0 hFm9_3 (List.range 44) _ .next (FmR.L ⟨t0, m, tm, ki, kt, kb, kc, .int 9 tk, .ref 90, (.int 1 279), (.str (chS 120) 305)⟩ w N [p0, p1, p2, p3, p4, p5, p6, p7, p8, .str (chS 45) (tk + 16)] 10 (.ref 90)) (Z + 16) (tk + 17) (fun b => by cases b <;> kernel_rfl) (by decide) (.cons (oIe (bitAnd m 513) (tk + 6) 513 302 (tk + 7) q0) <| .cons (oIe (bitAnd m 512) (tk + 10) 512 261 (tk + 11) q1) <| .cons (oIe (bitAnd m 1) (tk + 14) 1 279 (tk + 15) q2) <| .nil) fun h' S' => hR h' A _ _ _ _ _ _ _ _ _ _ _ hA (by omega) (by rw [hq]; kernel_rfl) (by decide) S'
theorem fm_row7 {D : Nat} {w : World} {h0 h : Heap} {L0 : List (Addr × Obj)} {g : Array GenState} {d : Drawn} {tk t0 : Nat} {os : OsState} {N Z : Nat} {A : Around} {R : Result → Shared → Prop} {m : Int} {tm ki kt kb kc : Tok} {iv bv : Int} {it bt ct : Tok} {rt r : Addr} {cs : Str} {p0 p1 p2 p3 p4 p5 p6 : Value} (hm : 0 ≤ m)
    (hD : D ≤ 780) (hA : Bd D A) (S : Sg L0 h0 (FmR.L ⟨t0, m, tm, ki, kt, kb, kc, .int iv it, .ref rt, .int bv bt, .str cs ct⟩ w N [p0, p1, p2, p3, p4, p5, p6] 7 (.ref r)) Z h)
    (hR : ∀ h' A' c t tk' Z' iv it rt bv bt cs ct, Bd D A' → tk ≤ tk' → has sRw (chS c) = bitQ m 7 → decide (c < 128) = true → Sg L0 h0 (FmR.L ⟨t0, m, tm, ki, kt, kb, kc, .int iv it, .ref rt, .int bv bt, .str cs ct⟩ w N [p0, p1, p2, p3, p4, p5, p6, .str (chS c) t] 8 (.ref 84)) Z' h' → codeAny (model PG w) A' (fmC N) R ⟨h', g, d, tk', os⟩) :
    codeAny (model PG w) A (fmC N) R ⟨h, g, d, tk, os⟩ := @(fmC_m (w := w)).1 D h0 h L0 g d tk t0 os N Z A R m tm ki kt kb kc iv bv it bt ct rt r cs p0 p1 p2 p3 p4 p5 p6 hm hD hA S hR
theorem fm_row8 {D : Nat} {w : World} {h0 h : Heap} {L0 : List (Addr × Obj)} {g : Array GenState} {d : Drawn} {tk t0 : Nat} {os : OsState} {N Z : Nat} {A : Around} {R : Result → Shared → Prop} {m : Int} {tm ki kt kb kc : Tok} {iv bv : Int} {it bt ct : Tok} {rt r : Addr} {cs : Str} {p0 p1 p2 p3 p4 p5 p6 p7 : Value} (hm : 0 ≤ m)
    (hD : D ≤ 780) (hA : Bd D A) (S : Sg L0 h0 (FmR.L ⟨t0, m, tm, ki, kt, kb, kc, .int iv it, .ref rt, .int bv bt, .str cs ct⟩ w N [p0, p1, p2, p3, p4, p5, p6, p7] 8 (.ref r)) Z h)
    (hR : ∀ h' A' c t tk' Z' iv it rt bv bt cs ct, Bd D A' → tk ≤ tk' → has sRw (chS c) = bitQ m 8 → decide (c < 128) = true → Sg L0 h0 (FmR.L ⟨t0, m, tm, ki, kt, kb, kc, .int iv it, .ref rt, .int bv bt, .str cs ct⟩ w N [p0, p1, p2, p3, p4, p5, p6, p7, .str (chS c) t] 9 (.ref 86)) Z' h' → codeAny (model PG w) A' (fmC N) R ⟨h', g, d, tk', os⟩) :
    codeAny (model PG w) A (fmC N) R ⟨h, g, d, tk, os⟩ := @(fmC_m (w := w)).2.1 D h0 h L0 g d tk t0 os N Z A R m tm ki kt kb kc iv bv it bt ct rt r cs p0 p1 p2 p3 p4 p5 p6 p7 hm hD hA S hR
theorem fm_row9 {D : Nat} {w : World} {h0 h : Heap} {L0 : List (Addr × Obj)} {g : Array GenState} {d : Drawn} {tk t0 : Nat} {os : OsState} {N Z : Nat} {A : Around} {R : Result → Shared → Prop} {m : Int} {tm ki kt kb kc : Tok} {iv bv : Int} {it bt ct : Tok} {rt r : Addr} {cs : Str} {p0 p1 p2 p3 p4 p5 p6 p7 p8 : Value} (hm : 0 ≤ m)
    (hD : D ≤ 780) (hA : Bd D A) (S : Sg L0 h0 (FmR.L ⟨t0, m, tm, ki, kt, kb, kc, .int iv it, .ref rt, .int bv bt, .str cs ct⟩ w N [p0, p1, p2, p3, p4, p5, p6, p7, p8] 9 (.ref r)) Z h)
    (hR : ∀ h' A' c t tk' Z' iv it rt bv bt cs ct, Bd D A' → tk ≤ tk' → has sRw (chS c) = bitQ m 9 → decide (c < 128) = true → Sg L0 h0 (FmR.L ⟨t0, m, tm, ki, kt, kb, kc, .int iv it, .ref rt, .int bv bt, .str cs ct⟩ w N [p0, p1, p2, p3, p4, p5, p6, p7, p8, .str (chS c) t] 10 (.ref 90)) Z' h' → codeAny (model PG w) A' (fmC N) R ⟨h', g, d, tk', os⟩) :
    codeAny (model PG w) A (fmC N) R ⟨h, g, d, tk, os⟩ := @(fmC_m (w := w)).2.2 D h0 h L0 g d tk t0 os N Z A R m tm ki kt kb kc iv bv it bt ct rt r cs p0 p1 p2 p3 p4 p5 p6 p7 p8 hm hD hA S hR
end Mine
end
section
namespace Mine
set_option maxHeartbeats 8000000
noncomputable def hEnum : List Hm := [.go [.ld 7, .ld 7], .cl none, .go [.ld 7], .ag none, .go [.al], .rt, .go [.ld 42, .al]]
noncomputable def hFmE : List Hm := [.go [.ld 43], .cl none, .go [.ld 43], .ag none, .go [.ld 43, .ld 42], .cl none, .go [.ld 42], .ag none, .go [.ld 42, .ld 42, .ld 7, .ld 42, .up 42, .al, .al], .hd, .rt, .rt, .go [.ld 45], .ag none, .rt]
theorem fme_m {w : World} : (∀ {D : Nat} {h0 h : Heap} {L0 : List (Addr × Obj)} {g : Array GenState} {d : Drawn} {tk : Nat} {os : OsState} {N Z : Nat} {A : Around} {R : Result → Shared → Prop} {f p : Obj} (hD : D ≤ 770) (hA : Bd D A) (S : Sg L0 h0 (LF w ++ [(N, f), (N + 1, p)]) Z h) (hR : ∀ h', Sg L0 h0 (LF w ++ [(N, f), (N + 1, p), (Z, tupItO (.ref 91) 0), (Z + 1, enumO Z 0 .none)]) (Z + 2) h' → R (.ok (.ret (.ref (Z + 1)))) ⟨h', g, d, tk, os⟩), codeAny (model PG w) A (.call (.builtin "enumerate.__new__") ⟨[.type "enumerate", .ref 91], []⟩) R ⟨h, g, d, tk, os⟩) ∧
    (∀ {D : Nat} {h0 h : Heap} {L0 : List (Addr × Obj)} {g : Array GenState} {d : Drawn} {tk : Nat} {os : OsState} {N Z : Nat} {A : Around} {R : Result → Shared → Prop} {x : FmR} {p0 p1 p2 p3 p4 p5 p6 p7 p8 p9 : Value} {r : Addr} (hD : D ≤ 780) (hA : Bd D A) (S : Sg L0 h0 (FmR.L x w N [p0, p1, p2, p3, p4, p5, p6, p7, p8, p9] 10 (.ref r)) Z h) (hR : ∀ h', Sg L0 h0 (LF w ++ [(N, frO (x.es w N) 6), (N + 1, seqO "list" [p0, p1, p2, p3, p4, p5, p6, p7, p8, p9] 10)]) (Z + 2) h' → R (.ok .next) ⟨h', g, d, tk, os⟩), codeAny (model PG w) A (fmC N) R ⟨h, g, d, tk, os⟩) := by
  refine ⟨?_, ?_⟩
  · intro D h0 h L0 g d tk os N Z A R f p hD hA S hR
    refine codeAny_of_tree ?_
    refine opP (.again (.builtin "enumerate.__new__" ⟨[.type "enumerate", .ref 91], []⟩)) (by kernel_rfl) ?_
    refine ⟨by kernel_rfl, codeAny_builtin F.entry_enumerate_new ?_⟩
    have hA' : Bd (D + 1) (A.under (Code.builtin "enumerate.__new__" ⟨[.type "enumerate", .ref 91], []⟩)) := hA.under _
    unfold Builtin.«enumerate.__new__»
    refine wpAny_bind (opP (.type "enumerate", [.ref 91]) (by kernel_rfl) ?_)
    dsimp only
    refine wpAny_bind ?_
    unfold Builtin.SmallTypes.calledThroughType
    refine wpAny_bind (wpAny_stack_any fun st => ?_)
    refine wpAny_pure ?_
    have key : ∀ q : Bool, ∀ t : Bool → Sem PySem.Fin, (∀ q, wpAny (model PG w) (A.under (Code.builtin "enumerate.__new__" ⟨[.type "enumerate", .ref 91], []⟩)) (t q) (fun fin s' => match fin with | .done f => R (.ok f) s' | .again c' => c'.quiet = true ∧ codeAny (model PG w) A c' R s') (fun e s' => R (.error e) s') ⟨h, g, d, tk, os⟩) → wpAny (model PG w) (A.under (Code.builtin "enumerate.__new__" ⟨[.type "enumerate", .ref 91], []⟩)) (t q) (fun fin s' => match fin with | .done f => R (.ok f) s' | .again c' => c'.quiet = true ∧ codeAny (model PG w) A c' R s') (fun e s' => R (.error e) s') ⟨h, g, d, tk, os⟩ := fun q t h => h q
    refine key _ (fun q => if q = true then _ else _) fun q => ?_
    cases q with
    | true =>
      refine opTop (D := D + 1) fun W hW => ?_
      exact opX hW (by first | exact dD hD rfl | exact dD0 hD rfl | omega) hA' S 0 hEnum (List.range 44) [] (.done (.ret (.ref (Z + 1)))) (LF w ++ [(N, f), (N + 1, p), (Z, tupItO (.ref 91) 0), (Z + 1, enumO Z 0 .none)]) (Z + 2) tk (fun b => by cases b <;> kernel_rfl) (by decide) .nil hR
    | false =>
      refine opTop (D := D + 1) fun W hW => ?_
      exact opX hW (by first | exact dD hD rfl | exact dD0 hD rfl | omega) hA' S 0 hEnum (List.range 44) [] (.done (.ret (.ref (Z + 1)))) (LF w ++ [(N, f), (N + 1, p), (Z, tupItO (.ref 91) 0), (Z + 1, enumO Z 0 .none)]) (Z + 2) tk (fun b => by cases b <;> kernel_rfl) (by decide) .nil hR
  · intro D h0 h L0 g d tk os N Z A R x p0 p1 p2 p3 p4 p5 p6 p7 p8 p9 r hD hA S hR
    refine opCode none (denF (fmC N)) 0 [] hD hA S (by kernel_rfl) fun A1 a1 W hW => ?_
    exact opX hW hD a1 S 0 hFmE (List.range 42) [] (.ok .next) (LF w ++ [(N, frO (x.es w N) 6), (N + 1, seqO "list" [p0, p1, p2, p3, p4, p5, p6, p7, p8, p9] 10)]) (Z + 2) tk (fun b => by cases b <;> kernel_rfl) (by decide) .nil hR
theorem enum_new {D : Nat} {w : World} {h0 h : Heap} {L0 : List (Addr × Obj)} {g : Array GenState} {d : Drawn} {tk : Nat} {os : OsState} {N Z : Nat} {A : Around} {R : Result → Shared → Prop} {f p : Obj}
    (hD : D ≤ 770) (hA : Bd D A) (S : Sg L0 h0 (LF w ++ [(N, f), (N + 1, p)]) Z h)
    (hR : ∀ h', Sg L0 h0 (LF w ++ [(N, f), (N + 1, p), (Z, tupItO (.ref 91) 0), (Z + 1, enumO Z 0 .none)]) (Z + 2) h' → R (.ok (.ret (.ref (Z + 1)))) ⟨h', g, d, tk, os⟩) :
    codeAny (model PG w) A (.call (.builtin "enumerate.__new__") ⟨[.type "enumerate", .ref 91], []⟩) R ⟨h, g, d, tk, os⟩ := @(fme_m (w := w)).1 D h0 h L0 g d tk os N Z A R f p hD hA S hR
theorem fm_end {D : Nat} {w : World} {h0 h : Heap} {L0 : List (Addr × Obj)} {g : Array GenState} {d : Drawn} {tk : Nat} {os : OsState} {N Z : Nat} {A : Around} {R : Result → Shared → Prop} {x : FmR} {p0 p1 p2 p3 p4 p5 p6 p7 p8 p9 : Value} {r : Addr}
    (hD : D ≤ 780) (hA : Bd D A) (S : Sg L0 h0 (FmR.L x w N [p0, p1, p2, p3, p4, p5, p6, p7, p8, p9] 10 (.ref r)) Z h)
    (hR : ∀ h', Sg L0 h0 (LF w ++ [(N, frO (x.es w N) 6), (N + 1, seqO "list" [p0, p1, p2, p3, p4, p5, p6, p7, p8, p9] 10)]) (Z + 2) h' → R (.ok .next) ⟨h', g, d, tk, os⟩) :
    codeAny (model PG w) A (fmC N) R ⟨h, g, d, tk, os⟩ := @(fme_m (w := w)).2 D h0 h L0 g d tk os N Z A R x p0 p1 p2 p3 p4 p5 p6 p7 p8 p9 r hD hA S hR
noncomputable def signs (cs : List Nat) : Str := ⟨cs.toArray⟩
noncomputable def hFp : List Hm := [.go [.al, .fr, .ld 40, .up 40], .ag none, .go [.al, .fr, .ld 40, .up 40, .ld 3, .ld 4, .ld 3], .cl none, .ag none]
noncomputable def hFq (N : Nat) : List Hm := [.go [.ld 43, .ld 43], .cl none, .go [.ld 43], .ag none, .go [.ld 43], .rt, .rt, .go [.ld 43, .ld 43], .ct (.ref (N + 3)) 0 [43], .go [.ld 43]]
noncomputable def hFr : List Hm := [.go [.fr, .ld 40], .cl none, .ag none, .go [.ld 41, .ld 41, .fr], .rt, .rt]
theorem ob_enumIter {w : World} {a : Addr} {o : Obj} {tk : Nat} (ho : ∃ it i r, o = enumO it i r) : ObOK PG w ⟨.call (.builtin "enumerate.__iter__") ⟨[.ref a], []⟩, [(a, o)], tk, .ref a, 0⟩ := by
  obtain ⟨it, i, r, rfl⟩ := ho
  intro A R h g d os _ H hR
  have S : Sg [(a, enumO it i r)] h [(a, enumO it i r)] h.objs.size h := Sg.start H rfl
  refine codeAny_of_tree ?_
  refine op0 S [0] (.again (.builtin "enumerate.__iter__" ⟨[.ref a], []⟩)) (by kernel_rfl) (by kernel_rfl) ?_
  refine ⟨by kernel_rfl, codeAny_builtin (b := Builtin.«dict_keyiterator.__iter__») (entryFor_alias (id' := "dict_keyiterator.__iter__") (by kernel_rfl) rfl (by decide +kernel) (by kernel_rfl)) ?_⟩
  exact opP (.done (.ret (.ref a))) (by kernel_rfl) hR
theorem fm_call {D : Nat} {w : World} {h : Heap} {g : Array GenState} {d : Drawn} {tk : Nat} {os : OsState} {N : Nat} {A : Around} {R : Result → Shared → Prop} {m : Int} {tm : Tok} (hm : 0 ≤ m)
    (hD : D ≤ 700) (hA : Bd D A) (H : Lg (LF w) h) (hN : h.objs.size = N)
    (hR : ∀ h' N' tk' t c0 c1 c2 c3 c4 c5 c6 c7 c8 c9, Sg (LF w) h (LF w) N' h' → tk ≤ tk' → has sRw (chS c1) = bitQ m 1 → has sRw (chS c2) = bitQ m 2 → has sRw (chS c3) = bitQ m 3 → has sRw (chS c4) = bitQ m 4 → has sRw (chS c5) = bitQ m 5 → has sRw (chS c6) = bitQ m 6 → has sRw (chS c7) = bitQ m 7 → has sRw (chS c8) = bitQ m 8 → has sRw (chS c9) = bitQ m 9 → [c1, c2, c3, c4, c5, c6, c7, c8, c9].all (fun c => decide (c < 128)) = true → R (.ok (.ret (.str ⟨#[c0, c1, c2, c3, c4, c5, c6, c7, c8, c9]⟩ t))) ⟨h', g, d, tk', os⟩) :
    codeAny (model PG w) A (.call (.ref 98) ⟨[.int m tm], []⟩) R ⟨h, g, d, tk, os⟩ := by
  have S : Sg (LF w) h (LF w) N h := Sg.start H hN
  refine opCode (some (1, 2)) (fnT w 98 [.int m tm]) 1 [98, 97] (by first | exact dD hD rfl | exact dD0 hD rfl | omega) hA S (by kernel_rfl) fun A1 a1 W hW => ?_
  refine opM hW (by first | exact dD hD rfl | exact dD0 hD rfl | omega) a1 S 0 hFp (List.range 42) [] (.call (.builtin "enumerate.__new__") ⟨[.type "enumerate", .ref 91], []⟩) (LF w ++ [(N, frO (FmR.e0 w N tk m tm) 2), (N + 1, seqO "list" [] 0)]) (N + 2) (tk + 2) (fun b => by cases b <;> kernel_rfl) (by decide) .nil fun W1 hW1 h1 S1 A2 a2 => ?_
  refine enum_new (D := D + 60) (by first | exact dD hD rfl | exact dD0 hD rfl | omega) a2 S1 fun h2 S2 => ?_
  refine opM (hW1 _) (by first | exact dD hD rfl | exact dD0 hD rfl | omega) a1 S2 0 (hFq N) (List.range 44) [⟨.call (.builtin "enumerate.__iter__") ⟨[.ref (N + 3)], []⟩, [(N + 3, enumO (N + 2) 0 .none)], tk + 2, .ref (N + 3), 0⟩] (fmC N) (FmL0 w N tk m tm) (N + 4) (tk + 2) (fun b => by cases b <;> kernel_rfl) (by decide) (.cons (ob_enumIter ⟨_, _, _, rfl⟩) .nil) fun W2 hW2 h3 S3 A3 a3 => ?_
  refine fm_row0 (D := D + 60) (by first | exact dD hD rfl | exact dD0 hD rfl | omega) a3 S3 fun k0 B0 c0 t0 tk0 Z0 iv0 it0 rt0 bv0 bt0 cs0 ct0 b0 l0 q0 T0 => ?_
  refine fm_row1 hm (D := D + 60) (by first | exact dD hD rfl | exact dD0 hD rfl | omega) b0 T0 fun k1 B1 c1 t1 tk1 Z1 iv1 it1 rt1 bv1 bt1 cs1 ct1 b1 l1 r1 q1 T1 => ?_
  refine fm_row2 hm (D := D + 60) (by first | exact dD hD rfl | exact dD0 hD rfl | omega) b1 T1 fun k2 B2 c2 t2 tk2 Z2 iv2 it2 rt2 bv2 bt2 cs2 ct2 b2 l2 r2 q2 T2 => ?_
  refine fm_row3 hm (D := D + 60) (by first | exact dD hD rfl | exact dD0 hD rfl | omega) b2 T2 fun k3 B3 c3 t3 tk3 Z3 iv3 it3 rt3 bv3 bt3 cs3 ct3 b3 l3 r3 q3 T3 => ?_
  refine fm_row4 hm (D := D + 60) (by first | exact dD hD rfl | exact dD0 hD rfl | omega) b3 T3 fun k4 B4 c4 t4 tk4 Z4 iv4 it4 rt4 bv4 bt4 cs4 ct4 b4 l4 r4 q4 T4 => ?_
  refine fm_row5 hm (D := D + 60) (by first | exact dD hD rfl | exact dD0 hD rfl | omega) b4 T4 fun k5 B5 c5 t5 tk5 Z5 iv5 it5 rt5 bv5 bt5 cs5 ct5 b5 l5 r5 q5 T5 => ?_
  refine fm_row6 hm (D := D + 60) (by first | exact dD hD rfl | exact dD0 hD rfl | omega) b5 T5 fun k6 B6 c6 t6 tk6 Z6 iv6 it6 rt6 bv6 bt6 cs6 ct6 b6 l6 r6 q6 T6 => ?_
  refine fm_row7 hm (D := D + 60) (by first | exact dD hD rfl | exact dD0 hD rfl | omega) b6 T6 fun k7 B7 c7 t7 tk7 Z7 iv7 it7 rt7 bv7 bt7 cs7 ct7 b7 l7 r7 q7 T7 => ?_
  refine fm_row8 hm (D := D + 60) (by first | exact dD hD rfl | exact dD0 hD rfl | omega) b7 T7 fun k8 B8 c8 t8 tk8 Z8 iv8 it8 rt8 bv8 bt8 cs8 ct8 b8 l8 r8 q8 T8 => ?_
  refine fm_row9 hm (D := D + 60) (by first | exact dD hD rfl | exact dD0 hD rfl | omega) b8 T8 fun k9 B9 c9 t9 tk9 Z9 iv9 it9 rt9 bv9 bt9 cs9 ct9 b9 l9 r9 q9 T9 => ?_
  refine fm_end (D := D + 60) (by first | exact dD hD rfl | exact dD0 hD rfl | omega) b9 T9 fun k10 T10 => ?_
  refine opX (hW2 _) (by first | exact dD hD rfl | exact dD0 hD rfl | omega) a1 T10 0 hFr (List.range 40) [] (.ok (.ret (.str ⟨#[c0, c1, c2, c3, c4, c5, c6, c7, c8, c9]⟩ (tk9 + 1)))) (LF w) (Z9 + 2) (tk9 + 2) (fun b => by cases b <;> kernel_rfl) (by decide) .nil fun h' S' => ?_
  refine hR h' _ _ _ _ _ _ _ _ _ _ _ _ _ S' (by omega) r1 r2 r3 r4 r5 r6 r7 r8 r9 ?_
  simp only [List.all_cons, List.all_nil, Bool.and_true, Bool.and_eq_true]
  exact ⟨q1, q2, q3, q4, q5, q6, q7, q8, q9⟩
end Mine
end
section
namespace Mine
set_option maxHeartbeats 8000000
noncomputable def cmS : Stmt := (bodyOf (topSt 34)).getD 2 (.Pass default)
noncomputable def cmQ : Str := Str.ofString "_law_comparer.<locals>._law_compared"
noncomputable def sSz : Str := Str.ofString "size"
noncomputable def sTw : Str := Str.ofString "twice"
/-- the function that _law_comparer makes -/
noncomputable def cmFD (cs ct cd tp : Addr) : FuncData := { name := nameOfS cmS, qualname := cmQ, params := paramsOf cmS, body := .stmts (bodyOf cmS), scope := scopeOf cmS, globals := 3, closure := [(sTw, ct), (sSz, cs)], defaults := .none, kwdefaults := .none, pyModule := .str (Str.ofString "law_op0083_01") 319, code := .ref cd, closureTuple := .ref tp, builtins := 0 }
noncomputable def cmCode (N u : Nat) : Obj := ⟨.type "code", none, .fields #[.str (Str.ofString "_law_compared") (u + 4), .str cmQ (u + 5), fileV (u + 6), .int 123 0, .int 2 0, .int 0 0, .int 0 0, .int 19 0, .ref (N + 4), .bool true, .int 181 0, .ref (N + 5), .none, .ref (N + 6), .ref (N + 7), .ref (N + 8), .int ((u + 13 : Nat) : Int) 0, .int 123 0, fileV (u + 14)], #[]⟩
structure Cm where
  F : Addr
  cs : Addr
  ct : Addr
  tp : Addr
  N : Nat
  u : Nat
  n : Int
  tn : Tok
  x : Str
  tx : Tok
noncomputable def Cm.L (c : Cm) : List (Addr × Obj) := [(c.F, fnO (cmFD c.cs c.ct (c.N + 9) c.tp)), (c.N + 9, cmCode c.N c.u), (c.cs, cellO (some (.int c.n c.tn))), (c.ct, cellO (some (.str c.x c.tx)))]
/-- the turn of a doubled text that begins at a place -/
noncomputable def rot (x : Str) (n i : Int) : Str := ⟨((slicePicked x (some (i, 0)) (some (i + n, 0)) none).filterMap (x.cps[·]?)).toArray⟩
noncomputable def okS (x : Str) (n i : Int) : Bool := !((slicePicked x (some (i, 0)) (some (i + n, 0)) none).length == x.length) && Nat.ble (rot x n i).length 100000
theorem sp_tok (x : Str) (i j : Int) (t u : Tok) : slicePicked x (some (i, t)) (some (j, u)) none = slicePicked x (some (i, 0)) (some (j, 0)) none := rfl
theorem oSl {w : World} (x : Str) (n i : Int) (t u v : Tok) (a : Addr) (tk : Nat) (h : okS x n i = true) : ObOK PG w ⟨.call (.builtin "str.__getitem__") ⟨[.str x t, .ref a], []⟩, [(a, sliceO (.int i u) (.int (i + n) v) .none)], tk, .str (rot x n i) tk, 1⟩ := by
  unfold okS at h
  simp only [Bool.and_eq_true, Bool.not_eq_true'] at h
  obtain ⟨h1, h2⟩ := h
  refine ob_slice (l := some (i, u)) (u := some (i + n, v)) (st := none) rfl ?_ rfl (Nat.le_trans (Nat.ble_eq.mp h2) (by rw [sizeLine_eq]; omega))
  rw [sp_tok, h1]
  rfl
theorem ent_md_get : entryFor table "member_descriptor.__get__" = some Builtin.«member_descriptor.__get__» := entryFor_of_tree (by kernel_rfl)
theorem ent_slot_get : entryFor table "proto.slot" = some Builtin.«proto.slot» := entryFor_of_tree (by kernel_rfl)
theorem oGet {w : World} (k : Kl) (o d : Addr) (i : Int) (u : Tok) (tk : Nat) : ObOK PG w ⟨.call (.builtin "member_descriptor.__get__") ⟨[.ref k.md, .ref o, .ref k.c], []⟩, [(k.md, mdO k.c k.tm), (k.c, k.clsO), (o, instO k.c d [some (.int i u)])], tk, .int i u, 0⟩ := by
  intro A R h g dr os _ H hR
  have S : Sg [(k.md, mdO k.c k.tm), (k.c, k.clsO), (o, instO k.c d [some (.int i u)])] h [(k.md, mdO k.c k.tm), (k.c, k.clsO), (o, instO k.c d [some (.int i u)])] h.objs.size h := Sg.start H rfl
  refine codeAny_of_tree ?_
  refine op0 S [0] (.again (.builtin "member_descriptor.__get__" ⟨[.ref k.md, .ref o, .ref k.c], []⟩)) (by kernel_rfl) (by kernel_rfl) ?_
  refine ⟨by kernel_rfl, codeAny_builtin ent_md_get ?_⟩
  unfold Builtin.«member_descriptor.__get__» Builtin.Getset_descriptor.descrGet
  refine wpAny_bind (opP (.ref k.md, some (.ref o), some (.ref k.c)) (by kernel_rfl) ?_)
  unfold Builtin.Getset_descriptor.descrGetter Builtin.Getset_descriptor.descrCheckInstance
  dsimp only
  refine wpAny_bind ?_
  refine wpAny_bind (op0 S [0, 0] (Str.ofString "obj", .ref k.c) (by kernel_rfl) (by kernel_rfl) ?_)
  have HI : Lg [(k.c, k.clsO), (o, instO k.c d [some (.int i u)])] h := H.pick (is := [1, 2]) (by decide)
  refine wpAny_bind (isInst (k := k) (d := d) (sl := [some (.int i u)]) HI ?_)
  refine wp_f (by kernel_rfl) ?_
  refine wpAny_pure ?_
  refine op0 S [0, 0] (.again (.builtin "proto.slot" ⟨[.ref o, .ref k.md], []⟩)) (by kernel_rfl) (by kernel_rfl) ?_
  refine ⟨by kernel_rfl, codeAny_builtin ent_slot_get ?_⟩
  exact op0 S [0, 0, 2, 1, 2] (.done (.ret (.int i u))) (by kernel_rfl) (by kernel_rfl) hR
noncomputable def Lt (w : World) (k : Kl) (c : Cm) (a da b db : Addr) (i j : Int) (u v : Tok) : List (Addr × Obj) := k.L w ++ [(a, instO k.c da [some (.int i u)]), (b, instO k.c db [some (.int j v)])] ++ c.L
noncomputable def lessR (x : Str) (n i j : Int) : Bool := !((rot x n i).cps.toList == (rot x n j).cps.toList) && decide ((rot x n i).cps.toList < (rot x n j).cps.toList)
noncomputable def hLt_eq (c : Cm) (i j : Int) (u v : Tok) (tk : Nat) : List Hm := [.go [.ld 9, .ld 1, .ld 1, .ld 2, .ld 6], .cl (some (6, 7)), .go [.al, .fr, .ld 15, .up 15, .fr, .ld 15, .up 15], .ag none, .go [.ld 8, .ld 15, .fr, .ld 9, .ld 1, .ld 1, .ld 2], .cl none, .go [.ld 9, .ld 1, .ld 1, .ld 2, .ld 5, .ld 5, .ld 1, .ld 1, .ld 2], .ct (.int i u) 0 [5, 1, 9], .rt, .go [.ld 15, .fr, .ld 10, .ld 1, .ld 1, .ld 2], .cl none, .go [.ld 10, .ld 1, .ld 1, .ld 2, .ld 5, .ld 5, .ld 1, .ld 1, .ld 2], .ct (.int j v) 0 [5, 1, 10], .rt, .go [.ld 11], .cl (some (11, 12)), .go [.al, .fr, .ld 16, .up 16, .fr, .ld 16, .up 16], .ag none, .go [.ld 14, .ld 16, .ld 16, .ld 13], .cl none, .ag none, .go [.fr], .rt, .go [.al], .ct (.str (rot c.x c.n i) (tk + 7)) 1 [17], .go [.fr, .ld 16, .up 16, .ld 14, .ld 16, .ld 16, .ld 13], .cl none, .ag none, .go [.fr], .rt, .go [.al], .ct (.str (rot c.x c.n j) (tk + 10)) 1 [18], .go [.fr, .ld 16, .up 16, .ld 16, .ld 16], .ct (.bool true) 0 [], .go [.fr], .rt, .go [.fr], .cl none, .ag none, .rt, .rt]
noncomputable def hLt_lt (c : Cm) (i j : Int) (u v : Tok) (tk : Nat) : List Hm := [.go [.ld 9, .ld 1, .ld 1, .ld 2, .ld 6], .cl (some (6, 7)), .go [.al, .fr, .ld 15, .up 15, .fr, .ld 15, .up 15], .ag none, .go [.ld 8, .ld 15, .fr, .ld 9, .ld 1, .ld 1, .ld 2], .cl none, .go [.ld 9, .ld 1, .ld 1, .ld 2, .ld 5, .ld 5, .ld 1, .ld 1, .ld 2], .ct (.int i u) 0 [5, 1, 9], .rt, .go [.ld 15, .fr, .ld 10, .ld 1, .ld 1, .ld 2], .cl none, .go [.ld 10, .ld 1, .ld 1, .ld 2, .ld 5, .ld 5, .ld 1, .ld 1, .ld 2], .ct (.int j v) 0 [5, 1, 10], .rt, .go [.ld 11], .cl (some (11, 12)), .go [.al, .fr, .ld 16, .up 16, .fr, .ld 16, .up 16], .ag none, .go [.ld 14, .ld 16, .ld 16, .ld 13], .cl none, .ag none, .go [.fr], .rt, .go [.al], .ct (.str (rot c.x c.n i) (tk + 7)) 1 [17], .go [.fr, .ld 16, .up 16, .ld 14, .ld 16, .ld 16, .ld 13], .cl none, .ag none, .go [.fr], .rt, .go [.al], .ct (.str (rot c.x c.n j) (tk + 10)) 1 [18], .go [.fr, .ld 16, .up 16, .ld 16, .ld 16], .ct (.bool false) 0 [], .go [.ld 16, .ld 16], .ct (.bool true) 0 [], .go [.fr], .cl none, .ag none, .go [.fr], .rt, .rt, .go [.fr], .cl none, .ag none, .rt, .rt]
noncomputable def hLt_gt (c : Cm) (i j : Int) (u v : Tok) (tk : Nat) : List Hm := [.go [.ld 9, .ld 1, .ld 1, .ld 2, .ld 6], .cl (some (6, 7)), .go [.al, .fr, .ld 15, .up 15, .fr, .ld 15, .up 15], .ag none, .go [.ld 8, .ld 15, .fr, .ld 9, .ld 1, .ld 1, .ld 2], .cl none, .go [.ld 9, .ld 1, .ld 1, .ld 2, .ld 5, .ld 5, .ld 1, .ld 1, .ld 2], .ct (.int i u) 0 [5, 1, 9], .rt, .go [.ld 15, .fr, .ld 10, .ld 1, .ld 1, .ld 2], .cl none, .go [.ld 10, .ld 1, .ld 1, .ld 2, .ld 5, .ld 5, .ld 1, .ld 1, .ld 2], .ct (.int j v) 0 [5, 1, 10], .rt, .go [.ld 11], .cl (some (11, 12)), .go [.al, .fr, .ld 16, .up 16, .fr, .ld 16, .up 16], .ag none, .go [.ld 14, .ld 16, .ld 16, .ld 13], .cl none, .ag none, .go [.fr], .rt, .go [.al], .ct (.str (rot c.x c.n i) (tk + 7)) 1 [17], .go [.fr, .ld 16, .up 16, .ld 14, .ld 16, .ld 16, .ld 13], .cl none, .ag none, .go [.fr], .rt, .go [.al], .ct (.str (rot c.x c.n j) (tk + 10)) 1 [18], .go [.fr, .ld 16, .up 16, .ld 16, .ld 16], .ct (.bool false) 0 [], .go [.ld 16, .ld 16], .ct (.bool false) 0 [], .go [.fr], .rt, .go [.fr], .cl none, .ag none, .rt, .rt]
theorem k_lt {D : Nat} {w : World} {h : Heap} {g : Array GenState} {d : Drawn} {tk : Nat} {os : OsState} {N : Nat} {A : Around} {Q : Bool → Shared → Prop} {E : Value → Shared → Prop} {k : Kl} {c : Cm} {a da b db : Addr} {i j : Int} {u v : Tok}
    (hD : D ≤ 780) (hA : Bd D A) (hF : k.f = c.F) (H : Lg (Lt w k c a da b db i j u v) h) (hN : h.objs.size = N) (h1 : okS c.x c.n i = true) (h2 : okS c.x c.n j = true)
    (hQ : ∀ h' N' tk', Sg (Lt w k c a da b db i j u v) h (Lt w k c a da b db i j u v) N' h' → tk ≤ tk' → Q (lessR c.x c.n i j) ⟨h', g, d, tk', os⟩) :
    wpAny (model PG w) A (keyLt' oneType' (.ref a) (.ref b)) Q E ⟨h, g, d, tk, os⟩ := by
  have S : Sg (Lt w k c a da b db i j u v) h (Lt w k c a da b db i j u v) N h := Sg.start H hN
  obtain ⟨x1, x2, x3, x4, x5, x6, x7, x8, x9, x10, x11, x12⟩ := k
  dsimp only at hF
  subst hF
  generalize hk : (⟨x1, x2, x3, x4, x5, x6, x7, x8, x9, x10, x11, c.F⟩ : Kl) = k at *
  have hF : k.f = c.F := by rw [← hk]
  rw [keyLt'_oneType, oneLt'_eq]
  show wpAny _ _ (cRoomFor "comparison" [.ref a, .ref b] >>= fun _ => _) _ _ _
  refine wpAny_bind (wpAny_cRoomFor (Nat.lt_of_le_of_lt (Nat.le_trans hA.2.1 hD) (by decide)) ?_)
  subst hk
  have fin : ∀ (r : Bool) tk' h' N', lessR c.x c.n i j = r → tk ≤ tk' → Sg (Lt w ⟨x1, x2, x3, x4, x5, x6, x7, x8, x9, x10, x11, c.F⟩ c a da b db i j u v) h (Lt w ⟨x1, x2, x3, x4, x5, x6, x7, x8, x9, x10, x11, c.F⟩ c a da b db i j u v) N' h' → Q r ⟨h', g, d, tk', os⟩ := fun r tk' h' N' e l S' => e ▸ hQ h' N' tk' S' l
  have o0 := oGet (w := w) ⟨x1, x2, x3, x4, x5, x6, x7, x8, x9, x10, x11, c.F⟩ a da i u
  have o1 := oGet (w := w) ⟨x1, x2, x3, x4, x5, x6, x7, x8, x9, x10, x11, c.F⟩ b db j v
  have o2 := oSl (w := w) c.x c.n i c.tx u
  have o3 := oSl (w := w) c.x c.n j c.tx v
  refine opTop (D := D) fun W hW => ?_
  cases q1 : ((rot c.x c.n i).cps.toList == (rot c.x c.n j).cps.toList) with
  | true =>
    refine opX hW hD hA S 0 (hLt_eq c i j u v tk) (List.range 15) _ false _ (N + 4) (tk + 14) (fun b => by cases b <;> kernel_rfl) (by decide)
      (.cons (o0 (tk + 3)) <| .cons (o1 (tk + 4)) <| .cons (o2 (tk + 6) (N + 2) (tk + 7) h1) <| .cons (o3 (tk + 9) (N + 3) (tk + 10) h2) <| .cons (ob_eq (P := []) (tk := tk + 12) (t := tk + 7) (u := tk + 10) q1) .nil) fun h' S' => fin false _ _ _ (by unfold lessR; rw [q1]; rfl) (Nat.le_add_right ..) S'
  | false =>
    cases q2 : decide ((rot c.x c.n i).cps.toList < (rot c.x c.n j).cps.toList) with
    | true =>
      refine opX hW hD hA S 0 (hLt_lt c i j u v tk) (List.range 15) _ true _ (N + 4) (tk + 15) (fun b => by cases b <;> kernel_rfl) (by decide)
        (.cons (o0 (tk + 3)) <| .cons (o1 (tk + 4)) <| .cons (o2 (tk + 6) (N + 2) (tk + 7) h1) <| .cons (o3 (tk + 9) (N + 3) (tk + 10) h2) <| .cons (ob_eq (P := []) (tk := tk + 12) (t := tk + 7) (u := tk + 10) q1) <| .cons (ob_lt (P := []) (tk := tk + 12) (t := tk + 7) (u := tk + 10) q2) .nil) fun h' S' => fin true _ _ _ (by unfold lessR; rw [q1, q2]; rfl) (Nat.le_add_right ..) S'
    | false =>
      refine opX hW hD hA S 0 (hLt_gt c i j u v tk) (List.range 15) _ false _ (N + 4) (tk + 14) (fun b => by cases b <;> kernel_rfl) (by decide)
        (.cons (o0 (tk + 3)) <| .cons (o1 (tk + 4)) <| .cons (o2 (tk + 6) (N + 2) (tk + 7) h1) <| .cons (o3 (tk + 9) (N + 3) (tk + 10) h2) <| .cons (ob_eq (P := []) (tk := tk + 12) (t := tk + 7) (u := tk + 10) q1) <| .cons (ob_lt (P := []) (tk := tk + 12) (t := tk + 7) (u := tk + 10) q2) .nil) fun h' S' => fin false _ _ _ (by unfold lessR; rw [q1, q2]; rfl) (Nat.le_add_right ..) S'
end Mine
end
section
namespace Mine
set_option maxHeartbeats 8000000
noncomputable def Gr (h h' : Heap) : Prop := ∀ b o, h.get? b = some o → h'.get? b = some o
theorem Gr.trans {a b c : Heap} (x : Gr a b) (y : Gr b c) : Gr a c := fun k o e => y k o (x k o e)
theorem Sg.gr {P X : List (Addr × Obj)} {h h' : Heap} {N' : Nat} (H : Lg P h) (T : Sg P h (P ++ X) N' h') : Gr h h' := fun b o e => by
  by_cases hb : b ∈ P.map (·.1)
  · obtain ⟨p, hp, rfl⟩ := List.mem_map.mp hb
    have e1 := H.at_ p hp
    rw [e1] at e
    cases e
    exact T.lg.at_ p (List.mem_append_left _ hp)
  · exact T.kp b o e hb
theorem Lg.gr {L : List (Addr × Obj)} {h h' : Heap} (H : Lg L h) (G : Gr h h') : Lg L h' := ⟨fun p hp => G _ _ (H.at_ p hp), H.nd⟩
theorem Sg.grow {L0 L : List (Addr × Obj)} {h0 h h' : Heap} {N : Nat} (S : Sg L0 h0 L N h) (G : Gr h h') (le : N ≤ h'.objs.size) : Sg L0 h0 L h'.objs.size h' :=
  ⟨S.lg.gr G, rfl, fun b o e n => G b o (S.kp b o e n), Nat.le_trans S.le le, S.cv⟩
theorem collect_range {w : World} {A : Around} {s : Shared} {Q : List Value → Shared → Prop} {E : Value → Shared → Prop} {r : Addr} {t u v : Tok} {n : Nat} (hh : A.handled = none) (hr : IsRange s.heap r 0 n 1 t u v)
    (hsmall : Builtin.Range.small 0 n 1 = true) (hn : Builtin.Range.rangeSize 0 n 1 = (n : Int)) (hlen : n ≤ 2 ^ 24)
    (hQ : ∀ h' tk acc', Gr s.heap h' → s.heap.objs.size < h'.objs.size → ItemsOf (fun i v => ∃ t, v = .int (0 + i * 1) t) acc' n → Q acc'.toList { s with heap := h', toks := tk }) :
    wpAny (model PG w) A (collect (.ref r)) Q E s := by
  have step : ∀ R : Result → Shared → Prop, (∀ h' tk acc', Gr s.heap h' → s.heap.objs.size < h'.objs.size → ItemsOf (fun i v => ∃ t, v = .int (0 + i * 1) t) acc' n → (∃ c', h'.get? s.heap.objs.size = some { cls := .type "list", dict := none, data := .seq acc' c', slots := #[] }) → R (.ok (.ret (.ref s.heap.objs.size))) { s with heap := h', toks := tk }) →
      codeAny (model PG w) A (.builtin "proto.collect" ⟨[.ref r], []⟩) R s := fun R hR => by
    refine codeAny_builtin F.entry_proto_collect ?_
    rw [Around.under_plainId F.plain_proto_collect _]
    show wpAny _ A.in1 (newList [] >>= fun l => again (.builtin "list.__iadd__" ⟨[l, .ref r], []⟩)) _ _ s
    refine wpAny_bind (wpAny_newObj_type ?_)
    refine wpAny_pure ⟨plainId_quiet F.plain_list_iadd _, codeAny_builtin F.entry_list_iadd ?_⟩
    rw [Around.under_plainId F.plain_list_iadd _]
    have hS : (s.heap.push { cls := .type "list", data := .seq ([] : List Value).toArray }).get? s.heap.objs.size = some { cls := .type "list", data := .seq #[] } := Heap.get?_push_size _ rfl
    exact wpAny_extend_range (s := { s with heap := s.heap.push { cls := .type "list", data := .seq ([] : List Value).toArray } }) hh (Heap.get?_push_of_some _ hr) hsmall hn hlen _ _ _ hS fun h' tk acc' c' hk hS' hacc =>
      hR h' tk acc' (fun b o e => hk b o (Nat.ne_of_lt (Heap.lt_size e)) (Heap.get?_push_of_some _ e)) (Heap.lt_size hS') hacc ⟨c', hS'⟩
  unfold collect
  refine wpAny_bind (wpAny_runValue (step _ fun h' tk acc' g1 g2 g3 g4 => ?_))
  obtain ⟨c', hS'⟩ := g4
  show wpAny _ A (load s.heap.objs.size >>= _) _ _ _
  refine wpAny_bind (wpAny_load hS' ?_)
  exact wpAny_pure (hQ h' tk acc' g1 g2 g3)
/-- a program of comparisons, run with a table of answers for distinct places below n -/
noncomputable def askRun {α : Type} (n : Nat) (f : Nat → Nat → Bool) : KasT α → Option α
  | .ret a => some a
  | .ask i j k => if decide (i < n) && (decide (j < n) && !(Nat.beq i j)) then askRun n f (k (f i j)) else none
theorem askRun_ok {α : Type} {n : Nat} {f : Nat → Nat → Bool} {cmp : Nat → Nat → (Bool → Shared → Prop) → Shared → Prop} {Inv : Shared → Prop}
    (hc : ∀ i j (C : Bool → Shared → Prop) s, i < n → j < n → i ≠ j → Inv s → (∀ s', Inv s' → C (f i j) s') → cmp i j C s) :
    ∀ (t : KasT α) (a : α) (Q : α → Shared → Prop) (s : Shared), askRun n f t = some a → Inv s → (∀ s', Inv s' → Q a s') → t.kasWp cmp Q s
  | .ret b, a, Q, s, h, hI, hQ => by
    have e : b = a := Option.some.inj h
    subst e
    exact hQ s hI
  | .ask i j k, a, Q, s, h, hI, hQ => by
    unfold askRun at h
    split at h
    · rename_i hb
      simp only [Bool.and_eq_true, decide_eq_true_eq, Bool.not_eq_true'] at hb
      obtain ⟨h1, h2, h3⟩ := hb
      refine hc i j _ s h1 h2 (fun e => ?_) hI fun s' hI' => askRun_ok hc (k (f i j)) a Q s' h hI' hQ
      subst e
      rw [Nat.beq_refl] at h3
      cases h3
    · cases h
noncomputable def BL (w : World) (k : Kl) (c : Cm) : List (Addr × Obj) := k.L w ++ c.L
/-- the value is one made of the class, that holds an int -/
noncomputable def KeyAt (h : Heap) (k : Kl) (v : Value) (i : Nat) : Prop := ∃ a d u, v = .ref a ∧ h.get? a = some (instO k.c d [some (.int i u)])
theorem KeyAt.gr {h h' : Heap} {k : Kl} {v : Value} {i : Nat} (x : KeyAt h k v i) (G : Gr h h') : KeyAt h' k v i := by
  obtain ⟨a, d, u, e, g⟩ := x
  exact ⟨a, d, u, e, G _ _ g⟩
theorem BL_cls {w : World} {k : Kl} {c : Cm} : ∀ p ∈ BL w k c, ∀ a d sl, p.2 ≠ instO a d sl := by
  intro p hp a d sl e
  simp only [BL, Kl.L, Cm.L, List.cons_append, List.nil_append, List.mem_cons, List.not_mem_nil, or_false] at hp
  rcases hp with rfl | rfl | rfl | rfl | rfl | rfl | rfl | rfl | rfl | rfl | rfl | rfl | rfl <;>
    (have e1 := congrArg Obj.cls e; cases e1)
theorem lt_ledger {w : World} {h : Heap} {k : Kl} {c : Cm} {a da b db : Addr} {i j : Int} {u v : Tok} (H : Lg (BL w k c) h) (ha : h.get? a = some (instO k.c da [some (.int i u)])) (hb : h.get? b = some (instO k.c db [some (.int j v)])) (hab : a ≠ b) :
    Lg (Lt w k c a da b db i j u v) h := by
  have n1 : ∀ x o sl d, h.get? x = some o → o = instO k.c d sl → x ∉ (BL w k c).map (·.1) := fun x o sl d e eo hm => by
    obtain ⟨p, hp, rfl⟩ := List.mem_map.mp hm
    have e1 := H.at_ p hp
    rw [e] at e1
    exact BL_cls p hp _ _ _ ((Option.some.inj e1).symm.trans eo)
  refine ⟨fun p hp => ?_, ?_⟩
  · rcases List.mem_append.mp hp with hp | hp
    · rcases List.mem_append.mp hp with hp | hp
      · exact H.at_ p (List.mem_append_left _ hp)
      · rcases List.mem_cons.mp hp with rfl | hp
        · exact ha
        · rw [List.mem_singleton.mp hp]; exact hb
    · exact H.at_ p (List.mem_append_right _ hp)
  · have pm : ((Lt w k c a da b db i j u v).map (·.1)).Perm (a :: b :: (BL w k c).map (·.1)) := by
      unfold Lt BL
      rw [List.map_append, List.map_append, List.map_append]
      show ((k.L w).map (·.1) ++ [a, b] ++ c.L.map (·.1)).Perm ([a, b] ++ ((k.L w).map (·.1) ++ c.L.map (·.1)))
      rw [← List.append_assoc]
      exact List.Perm.append_right _ List.perm_append_comm
    refine pm.nodup_iff.mpr (List.nodup_cons.mpr ⟨fun hm => ?_, List.nodup_cons.mpr ⟨n1 _ _ _ _ hb rfl, H.nd⟩⟩)
    rcases List.mem_cons.mp hm with e | hm
    · exact hab e
    · exact n1 _ _ _ _ ha rfl hm
end Mine
end
section
namespace Mine
set_option maxHeartbeats 8000000
/-- all but one object stand as they stood -/
noncomputable def GrB (x : Addr) (h h' : Heap) : Prop := ∀ b o, b ≠ x → h.get? b = some o → h'.get? b = some o
noncomputable def KeysAt (h : Heap) (k : Kl) (ks : Array Value) (n : Nat) : Prop := ks.size = n ∧ ∀ i v, ks[i]? = some v → KeyAt h k v i
theorem KeyAt.grB {h h' : Heap} {k : Kl} {v : Value} {i : Nat} {x : Addr} {xs : Array Value} {e : Nat} (y : KeyAt h k v i) (hx : h.get? x = some (seqObj "list" xs e)) (G : GrB x h h') : KeyAt h' k v i := by
  obtain ⟨a, d, u, e1, g⟩ := y
  refine ⟨a, d, u, e1, G _ _ (fun q => ?_) g⟩
  rw [q, hx] at g
  have e2 := congrArg Obj.cls (Option.some.inj g)
  cases e2
theorem KeysAt.grB {h h' : Heap} {k : Kl} {ks : Array Value} {n : Nat} {x : Addr} {xs : Array Value} {e : Nat} (y : KeysAt h k ks n) (hx : h.get? x = some (seqObj "list" xs e)) (G : GrB x h h') : KeysAt h' k ks n :=
  ⟨y.1, fun i v e => (y.2 i v e).grB hx G⟩
theorem KeysAt.gr {h h' : Heap} {k : Kl} {ks : Array Value} {n : Nat} (y : KeysAt h k ks n) (G : Gr h h') : KeysAt h' k ks n := ⟨y.1, fun i v e => (y.2 i v e).gr G⟩
theorem Lg.grB {L : List (Addr × Obj)} {h h' : Heap} {x : Addr} (H : Lg L h) (hx : x ∉ L.map (·.1)) (G : GrB x h h') : Lg L h' := ⟨fun p hp => G _ _ (fun q => hx (q ▸ List.mem_map_of_mem hp)) (H.at_ p hp), H.nd⟩
theorem upd_grB (h : Heap) (x : Addr) (f : Obj → Obj) : GrB x h (h.update x f) := fun b o hb e => (Heap.get?_update_ne _ _ _ _ hb).trans e
theorem upd_size (h : Heap) (x : Addr) (f : Obj → Obj) : (h.update x f).objs.size = h.objs.size := Heap.size_update ..
section
variable {D : Nat} {w : World} {A : Around} {s : Shared} {k : Kl} {c : Cm} {n : Nat}
/-- a comparison of two keys -/
theorem cmp_ok {i j : Nat} {ks : Array Value} {vi vj : Value} {C : Bool → Shared → Prop} {E : Value → Shared → Prop} (hD : D ≤ 780) (hA : Bd D A) (hF : k.f = c.F) (H : Lg (BL w k c) s.heap) (K : KeysAt s.heap k ks n) (hi : ks[i]? = some vi) (hj : ks[j]? = some vj) (hij : i ≠ j)
    (h1 : okS c.x c.n i = true) (h2 : okS c.x c.n j = true) (hC : ∀ h' tk', Gr s.heap h' → s.heap.objs.size ≤ h'.objs.size → C (lessR c.x c.n i j) { s with heap := h', toks := tk' }) :
    wpAny (model PG w) A (keyLt' oneType' vi vj) C E s := by
  obtain ⟨a, da, u, rfl, ga⟩ := K.2 i vi hi
  obtain ⟨b, db, v, rfl, gb⟩ := K.2 j vj hj
  have hab : a ≠ b := fun e => by
    rw [e, gb] at ga
    have e2 := congrArg Obj.slots (Option.some.inj ga)
    have e3 : (j : Int) = i := by
      have e4 := congrArg Array.toList e2
      have e5 := (List.cons.inj e4).1
      have e6 := Option.some.inj e5
      injection e6
    omega
  have HL := lt_ledger H ga gb hab
  obtain ⟨h, g, d, tk, os⟩ := s
  refine k_lt hD hA hF HL rfl h1 h2 fun h' N' tk' S' l => hC h' tk' (Sg.gr HL (X := []) (by rw [List.append_nil]; exact S')) ?_
  rw [S'.sz]
  exact S'.le
noncomputable def shOf (s : Shared) (h : Heap) (tk : Nat) : Shared := { s with heap := h, toks := tk }
theorem upd_seq_ex {h : Heap} {a : Addr} {xs : Array Value} {n : Nat} (ho : h.get? a = some (seqObj "list" xs n)) (ys : Array Value) : ∃ c, (h.update a (Obj.mapSeq fun _ => ys)).get? a = some (seqObj "list" ys c) := ⟨_, get?_update_seq ho fun _ => ys⟩
theorem srt_tail {st : SortSt} {a kS : Addr} {e1 e : Nat} {keys : Array Value} {P : PySem.Fin → Shared → Prop} {E : Value → Shared → Prop} (hk : s.heap.get? kS = some (seqObj "list" keys e)) (ha : s.heap.get? a = some (seqObj "list" #[] e1)) (hka : kS ≠ a)
    (hks : keys.size < 64) (hst : (arrOf st).size < 64) (hf : failedOf st = none)
    (hP : ∀ h' c2, h'.get? a = some (seqObj "list" ((arrOf st).map (·.2)) c2) → (∀ b o, b ≠ kS → b ≠ a → s.heap.get? b = some o → h'.get? b = some o) → h'.objs.size = s.heap.objs.size → P (.done (.ret .none)) { s with heap := h' }) :
    wpAny (model PG w) A (ksk_tail a false e1 (.ref kS) st) P E s := by
  have hs := sizeLine_eq
  have g1 := upd_grB s.heap kS (Obj.mapSeq fun _ => (#[] : Array Value))
  have na1 : (s.heap.update kS (Obj.mapSeq fun _ => (#[] : Array Value))).get? a = some (seqObj "list" #[] e1) := g1 _ _ hka.symm ha
  have g2 := upd_grB (s.heap.update kS (Obj.mapSeq fun _ => (#[] : Array Value))) a (Obj.mapSeq fun _ => (arrOf st).map (·.2))
  obtain ⟨c2, hc2⟩ : ∃ c2, ((s.heap.update kS (Obj.mapSeq fun _ => (#[] : Array Value))).update a (Obj.mapSeq fun _ => (arrOf st).map (·.2))).get? a = some (seqObj "list" ((arrOf st).map (·.2)) c2) := upd_seq_ex na1 _
  unfold ksk_tail
  try dsimp only
  refine wpAny_bind (listUpdate_at hk rfl ?_ (by omega) (Nat.zero_le _))
  refine wpAny_bind (wpAny_letGo ?_)
  refine wpAny_bind (seqEpoch_at na1 rfl ?_)
  refine wpAny_bind (listUpdate_at na1 rfl ?_ (Nat.zero_le _) (by simp only [Bool.false_eq_true, if_false, Array.size_map]; omega))
  rw [hf]
  simp only [bne_self_eq_false, Bool.false_eq_true, if_false]
  refine wpAny_pure (hP _ c2 hc2 (fun b o h1 h2 e => g2 _ _ h2 (g1 _ _ h1 e)) ?_)
  rw [upd_size, upd_size]
theorem item_key {keys : Array Value} {vs : List Value} {i : Nat} (h : keys.size = vs.length) (hi : i < vs.length) : ∃ v, keys[i]? = some v ∧ kas_item (keys.zip vs.toArray) i = (v, vs.getD i .none) := by
  have h1 : i < keys.size := by omega
  have hz : i < (keys.zip vs.toArray).size := by rw [Array.size_zip, h, List.size_toArray, Nat.min_self]; exact hi
  refine ⟨keys[i], Array.getElem?_eq_getElem h1, ?_⟩
  unfold kas_item
  have e : (keys.zip vs.toArray).getD i (Value.none, Value.none) = (keys.zip vs.toArray)[i] := by unfold Array.getD; rw [dif_pos hz]; rfl
  rw [e, Array.getElem_zip]
  have e3 : vs.getD i Value.none = vs[i] := by simp [hi]
  rw [e3]
  simp
theorem srt_end {a kS : Addr} {e1 e : Nat} {keys : Array Value} {vs : List Value} {p0 : Array Nat} {P : PySem.Fin → Shared → Prop} (hD : D ≤ 780) (hA : Bd D A) (hF : k.f = c.F) (H : Lg (BL w k c) s.heap)
    (hk : s.heap.get? kS = some (seqObj "list" keys e)) (ha : s.heap.get? a = some (seqObj "list" #[] e1)) (hka : kS ≠ a) (hn : vs.length = n) (K : KeysAt s.heap k keys n) (h2 : 2 ≤ n) (h64 : n < 64)
    (hok : ∀ i, i < n → okS c.x c.n i = true) (hrun : askRun n (fun i j => lessR c.x c.n i j) (kas_sort n) = some p0)
    (hP : ∀ h' tk' c2, p0.size = n → h'.get? a = some (seqObj "list" ((p0.map (kas_item (keys.zip vs.toArray))).map (·.2)) c2) → (∀ b o, b ≠ kS → b ≠ a → s.heap.get? b = some o → h'.get? b = some o) → s.heap.objs.size ≤ h'.objs.size → P (.done (.ret .none)) { s with heap := h', toks := tk' }) :
    wpAny (model PG w) A (ksk_end a false vs.toArray e1 (.ref kS) keys) P (fun _ _ => False) s := by
  have hsz : keys.size = vs.length := K.1.trans hn.symm
  have hzs : (keys.zip vs.toArray).size = n := by rw [Array.size_zip, hsz, List.size_toArray, Nat.min_self, hn]
  unfold ksk_end
  try dsimp only
  rw [if_neg Bool.false_ne_true]
  have hn2 : ¬ vs.toArray.size < 2 := by rw [List.size_toArray]; omega
  rw [if_neg hn2, if_neg hn2]
  have ek : keys = keys.toList.toArray := by simp
  refine wpAny_bind ?_
  rw [ek]
  refine kas_kind (T := .ref k.c) (by rw [Array.length_toList]; omega) (fun v hv => ?_) (by rfl) (by simp) ?_
  · obtain ⟨i, hi⟩ := List.getElem?_of_mem hv
    obtain ⟨b, d, u, rfl, g⟩ := K.2 i v (by simpa using hi)
    exact fun A' Q' E' s' kk q => wpAny_typeOf_ref (kk _ _ g) q
  rw [← ek]
  have est : SortSt.mk' oneType' (keys.zip vs.toArray) #[] 7 none = kas_st oneType' (keys.zip vs.toArray) (List.toArray (List.range n)) := by
    have e := kas_range (keys.zip vs.toArray)
    rw [hzs] at e
    show _ = SortSt.mk' oneType' ((List.toArray (List.range n)).map (kas_item (keys.zip vs.toArray))) #[] 7 none
    rw [e]
  have ask := askRun_ok (n := n) (f := fun i j => lessR c.x c.n i j) (cmp := kas_cmp PG w A oneType' (keys.zip vs.toArray)) (Inv := fun s' => ∃ h' tk', s' = shOf s h' tk' ∧ Gr s.heap h' ∧ s.heap.objs.size ≤ h'.objs.size)
    (fun i j C s' hi hj hij hI hC => by
      obtain ⟨h', tk', rfl, G, le⟩ := hI
      obtain ⟨vi, hvi, ei⟩ := item_key (i := i) hsz (by omega)
      obtain ⟨vj, hvj, ej⟩ := item_key (i := j) hsz (by omega)
      unfold kas_cmp
      rw [ei, ej]
      exact cmp_ok (s := shOf s h' tk') (n := n) hD hA hF (H.gr G) (K.gr G) hvi hvj hij (hok i hi) (hok j hj) fun h'' tk'' G' le' => hC _ ⟨h'', tk'', rfl, G.trans G', Nat.le_trans le le'⟩)
    (kas_sort n) p0 (fun p s' => p = p0 ∧ ∃ h' tk', s' = shOf s h' tk' ∧ Gr s.heap h' ∧ s.heap.objs.size ≤ h'.objs.size) s hrun ⟨s.heap, s.toks, rfl, fun _ _ e => e, Nat.le_refl _⟩ (fun s' h => ⟨rfl, h⟩)
  have run := kas_runs (E := fun _ _ => False) (Q := fun _ st' s' => p0.size = n ∧ arrOf st' = p0.map (kas_item (keys.zip vs.toArray)) ∧ failedOf st' = none ∧ ∃ h' tk', s' = shOf s h' tk' ∧ Gr s.heap h' ∧ s.heap.objs.size ≤ h'.objs.size)
    h2 h64 (fun p' st' s' a1 a2 a3 a4 => by obtain ⟨rfl, a4⟩ := a4; exact ⟨a1, a2, a3, a4⟩) ask
  rw [← est] at run
  refine wpAny_bind (wpAny_mono run ?_ fun _ _ e => e)
  rintro ⟨⟨⟩, st'⟩ s' ⟨hp, har, hf, h', tk', rfl, G, le⟩
  try dsimp only
  refine srt_tail (s := shOf s h' tk') (G _ _ hk) (G _ _ ha) hka (by rw [hsz]; omega) (by rw [har, Array.size_map]; omega) hf fun h'' c2 g1 g2 g3 => ?_
  rw [har] at g1
  exact hP h'' tk' c2 hp g1 (fun b o b1 b2 e => g2 b o b1 b2 (G _ _ e)) (Nat.le_trans le (Nat.le_of_eq g3.symm))
theorem srt_rest {a kS : Addr} {e1 : Nat} {vs : List Value} {p0 : Array Nat} {P : PySem.Fin → Shared → Prop} (hD : D ≤ 770) (hA : Bd D A) (hF : k.f = c.F) (H : Lg (BL w k c) s.heap)
    (hk : s.heap.get? kS = some (seqObj "list" #[] 0)) (ha : s.heap.get? a = some (seqObj "list" #[] e1)) (hka : kS ≠ a) (hkB : kS ∉ (BL w k c).map (·.1)) (hn : vs.length = n) (hvs : ∀ (i : Nat) (v : Value), vs[i]? = some v → ∃ t, v = .int i t) (hlt : ∀ j, j < n → p0.getD j 0 < n) (h2 : 2 ≤ n) (h64 : n < 64)
    (hok : ∀ i, i < n → okS c.x c.n i = true) (hrun : askRun n (fun i j => lessR c.x c.n i j) (kas_sort n) = some p0)
    (hP : ∀ h' tk' c2 out, out.size = n → (∀ (j : Nat) (v : Value), out[j]? = some v → ∃ t, v = .int ((p0.getD j 0 : Nat) : Int) t) → h'.get? a = some (seqObj "list" out c2) → (∀ b o, b ≠ kS → b ≠ a → s.heap.get? b = some o → h'.get? b = some o) → s.heap.objs.size ≤ h'.objs.size → P (.done (.ret .none)) { s with heap := h', toks := tk' }) :
    wpAny (model PG w) A (ksk_rest a (.ref k.c) false vs.toArray e1 (.ref kS)) P (fun _ _ => False) s := by
  have hs := sizeLine_eq
  unfold ksk_rest
  refine wpAny_bind (wpAny_rule ?_)
  rw [List.forIn_toArray]
  refine wpAny_bind (ksk_fold (fun i s' => ∃ h' tk kA e, s' = shOf s h' tk ∧ GrB kS s.heap h' ∧ s.heap.objs.size ≤ h'.objs.size ∧ h'.get? kS = some (seqObj "list" kA e) ∧ KeysAt h' k kA i) vs 0 s
    ⟨s.heap, s.toks, #[], 0, rfl, fun _ _ _ e => e, Nat.le_refl _, hk, rfl, fun i v h => by simp at h⟩ ?step ?done)
  case step =>
    rintro j x s' hx ⟨h', tk, kA, e, rfl, G, le, hk', K⟩
    simp only [Nat.zero_add] at K ⊢
    have hj : j < vs.length := (List.getElem?_eq_some_iff.mp hx).1
    obtain ⟨t, rfl⟩ := hvs j x hx
    have HB : Lg (BL w k c) h' := H.grB hkB G
    have HK : Lg (k.L w) h' := ⟨fun p hp => HB.at_ p (List.mem_append_left _ hp), by have := HB.nd; rw [BL, List.map_append, List.nodup_append] at this; exact this.1⟩
    refine wpAny_bind (wpAny_attempt (k_call hD hA (Sg.start HK rfl) fun h'' S'' => ?_))
    have G2 : Gr h' h'' := Sg.gr (X := [(h'.objs.size, dO [] 0), (h'.objs.size + 1, instO k.c h'.objs.size [some (.int j t)])] ++ [(h'.objs.size + 2, frI w tk h'.objs.size (.int j t))]) HK (by rw [← List.append_assoc]; exact S'')
    have gi : h''.get? (h'.objs.size + 1) = some (instO k.c h'.objs.size [some (.int j t)]) := S''.lg.at_ (h'.objs.size + 1, instO k.c h'.objs.size [some (.int j t)]) (by unfold Kl.L1; simp)
    have hk2 := G2 _ _ hk'
    have g3 := upd_grB h'' kS (Obj.mapSeq (·.push (.ref (h'.objs.size + 1))))
    obtain ⟨c2, hc2⟩ : ∃ c2, (h''.update kS (Obj.mapSeq (·.push (.ref (h'.objs.size + 1))))).get? kS = some (seqObj "list" (kA.push (.ref (h'.objs.size + 1))) c2) := ⟨_, get?_update_seq hk2 (·.push (.ref (h'.objs.size + 1)))⟩
    have hz := K.1
    refine wpAny_bind (listUpdate_at hk2 rfl ?_ (by omega) (by rw [Array.size_push]; omega))
    refine wpAny_pure ⟨rfl, h''.update kS (Obj.mapSeq (·.push (.ref (h'.objs.size + 1)))), tk + 3, kA.push (.ref (h'.objs.size + 1)), c2, rfl, fun b o hb e => g3 _ _ hb (G2 _ _ (G _ _ hb e)), ?_, hc2, by rw [Array.size_push, hz], fun i v hv => ?_⟩
    · rw [upd_size, S''.sz]; omega
    · rw [Array.getElem?_push] at hv
      split at hv
      · rename_i hi
        cases hv
        have : i = j := by omega
        subst this
        exact KeyAt.grB ⟨_, _, _, rfl, gi⟩ hk2 g3
      · exact ((K.2 i v hv).gr G2).grB hk2 g3
  case done =>
    rintro s' ⟨h', tk, kA, e, rfl, G, le, hk', K⟩
    rw [Nat.zero_add, hn] at K
    try dsimp only
    refine wpAny_bind (listItems_at hk' rfl ?_)
    refine srt_end (s := shOf s h' tk) (by omega) hA hF (H.grB hkB G) hk' (G _ _ hka.symm ha) hka hn K h2 h64 hok hrun fun h'' tk' c2 z g1 g2 g3 => ?_
    refine hP h'' tk' c2 _ ?_ (fun j v hv => ?_) g1 (fun b o b1 b2 e => g2 b o b1 b2 (G _ _ b1 e)) (Nat.le_trans le g3)
    · rw [Array.size_map, Array.size_map, z]
    · have hv : ((p0.map (kas_item (kA.zip vs.toArray))).map (fun x => x.2))[j]? = some v := hv
      rw [Array.getElem?_map, Array.getElem?_map] at hv
      cases hp : p0[j]? with
      | none => rw [hp] at hv; cases hv
      | some m =>
        rw [hp] at hv
        have hj : j < p0.size := (Array.getElem?_eq_some_iff.mp hp).1
        have em : p0.getD j 0 = m := by
          unfold Array.getD
          rw [dif_pos hj]
          exact (Array.getElem?_eq_some_iff.mp hp).2
        have hm : m < n := em ▸ hlt j (z ▸ hj)
        obtain ⟨x, _, ei⟩ := item_key (i := m) (K.1.trans hn.symm) (by omega)
        have hv' : (kas_item (kA.zip vs.toArray) m).2 = v := Option.some.inj hv
        rw [ei] at hv'
        have hm' : m < vs.length := by omega
        obtain ⟨t, ht⟩ := hvs m vs[m] (List.getElem?_eq_getElem hm')
        refine ⟨t, ?_⟩
        rw [em, ← hv', ← ht]
        show vs.getD m .none = vs[m]
        simp [hm']
theorem srt_sort {a : Addr} {n0 : Nat} {vs : List Value} {p0 : Array Nat} {P : PySem.Fin → Shared → Prop} (hD : D ≤ 770) (hA : Bd D A) (hF : k.f = c.F) (H : Lg (BL w k c) s.heap)
    (ha : s.heap.get? a = some (seqObj "list" vs.toArray n0)) (haB : a ∉ (BL w k c).map (·.1)) (hn : vs.length = n) (hvs : ∀ (i : Nat) (v : Value), vs[i]? = some v → ∃ t, v = .int i t) (hlt : ∀ j, j < n → p0.getD j 0 < n) (h2 : 2 ≤ n) (h64 : n < 64)
    (hok : ∀ i, i < n → okS c.x c.n i = true) (hrun : askRun n (fun i j => lessR c.x c.n i j) (kas_sort n) = some p0)
    (hP : ∀ h' tk' c2 out, out.size = n → (∀ (j : Nat) (v : Value), out[j]? = some v → ∃ t, v = .int ((p0.getD j 0 : Nat) : Int) t) → h'.get? a = some (seqObj "list" out c2) → GrB a s.heap h' → s.heap.objs.size ≤ h'.objs.size → P (.done (.ret .none)) { s with heap := h', toks := tk' }) :
    wpAny (model PG w) A (ksk_tree a (.ref k.c) false) P (fun _ _ => False) s := by
  have hs := sizeLine_eq
  have hlt' : a < s.heap.objs.size := Heap.lt_size ha
  have g1 := upd_grB s.heap a (Obj.mapSeq fun _ => (#[] : Array Value))
  obtain ⟨e1, ho1⟩ : ∃ e1, (s.heap.update a (Obj.mapSeq fun _ => (#[] : Array Value))).get? a = some (seqObj "list" #[] e1) := upd_seq_ex ha _
  have hz1 := upd_size s.heap a (Obj.mapSeq fun _ => (#[] : Array Value))
  have hkS : ((s.heap.update a (Obj.mapSeq fun _ => (#[] : Array Value))).push (seqObj "tuple" vs.toArray 0)).objs.size = s.heap.objs.size + 1 := by rw [size_push', hz1]
  unfold ksk_tree
  refine wpAny_bind (listItems_at ha rfl ?_)
  refine wpAny_bind (listUpdate_at ha rfl ?_ (by rw [List.size_toArray]; omega) (Nat.zero_le _))
  refine wpAny_bind (seqEpoch_at ho1 rfl ?_)
  refine wpAny_bind (wpAny_newTuple ?_ (by show vs.length ≤ _; omega))
  refine wpAny_bind (wpAny_newList ?_ (Nat.zero_le _))
  refine wpAny_holding ?_
  have up : ∀ b o, (s.heap.update a (Obj.mapSeq fun _ => (#[] : Array Value))).get? b = some o → (((s.heap.update a (Obj.mapSeq fun _ => (#[] : Array Value))).push (seqObj "tuple" vs.toArray 0)).push (seqObj "list" #[] 0)).get? b = some o := fun b o e => Heap.get?_push_of_some _ (Heap.get?_push_of_some _ e)
  have up2 : GrB a s.heap (((s.heap.update a (Obj.mapSeq fun _ => (#[] : Array Value))).push (seqObj "tuple" vs.toArray 0)).push (seqObj "list" #[] 0)) := fun b o hb e => up _ _ (g1 _ _ hb e)
  refine srt_rest (s := { s with heap := ((s.heap.update a (Obj.mapSeq fun _ => (#[] : Array Value))).push (seqObj "tuple" vs.toArray 0)).push (seqObj "list" #[] 0) }) (kS := ((s.heap.update a (Obj.mapSeq fun _ => (#[] : Array Value))).push (seqObj "tuple" vs.toArray 0)).objs.size)
    hD hA hF (H.grB haB up2) (Heap.get?_push_size _ rfl) (up _ _ ho1) (by rw [hkS]; exact Nat.ne_of_gt (Nat.lt_succ_of_lt hlt')) (fun hm => ?_) hn hvs hlt h2 h64 hok hrun fun h' tk' c2 out z g2 g3 g4 g5 => ?_
  · obtain ⟨p, hp, e⟩ := List.mem_map.mp hm
    have := Heap.lt_size (H.at_ p hp)
    rw [hkS] at e
    have e' : p.1 = s.heap.objs.size + 1 := e
    rw [e'] at this
    exact absurd this (Nat.not_lt.mpr (Nat.le_succ _))
  · refine hP h' tk' c2 out z g2 g3 (fun b o hb e => g4 b o (fun q => ?_) hb (up2 _ _ hb e)) (Nat.le_trans ?_ g5)
    · have := Heap.lt_size e
      rw [q, hkS] at this
      exact absurd this (Nat.not_lt.mpr (Nat.le_succ _))
    · rw [size_push', hkS]; omega
theorem srt_sorted {r : Addr} {t u v : Tok} {p0 : Array Nat} {R : Result → Shared → Prop} (hD : D ≤ 760) (hA : Bd D A) (hF : k.f = c.F) (H : Lg (BL w k c) s.heap)
    (hr : IsRange s.heap r 0 n 1 t u v) (hsmall : Builtin.Range.small 0 n 1 = true) (hnr : Builtin.Range.rangeSize 0 n 1 = (n : Int)) (hlt : ∀ j, j < n → p0.getD j 0 < n) (h2 : 2 ≤ n) (h64 : n < 64)
    (hok : ∀ i, i < n → okS c.x c.n i = true) (hrun : askRun n (fun i j => lessR c.x c.n i j) (kas_sort n) = some p0)
    (hQ : ∀ h' tk' c2 out a, out.size = n → (∀ (j : Nat) (v : Value), out[j]? = some v → ∃ t, v = .int ((p0.getD j 0 : Nat) : Int) t) → h'.get? a = some (seqObj "list" out c2) → Gr s.heap h' → s.heap.objs.size ≤ a → R (.ok (.ret (.ref a))) { s with heap := h', toks := tk' }) :
    codeAny (model PG w) A (.call (.builtin "sorted") ⟨[.ref r], [(Str.ofString "key", .ref k.c)]⟩) R s := by
  have hs := sizeLine_eq
  refine codeAny_of_tree ?_
  refine opP (.again (.builtin "sorted" ⟨[.ref r], [(Str.ofString "key", .ref k.c)]⟩)) (by kernel_rfl) ?_
  refine ⟨by kernel_rfl, codeAny_builtin entry_sorted ?_⟩
  have hA' : Bd (D + 1) (A.under (Code.builtin "sorted" ⟨[.ref r], [(Str.ofString "key", .ref k.c)]⟩)) := hA.under _
  generalize A.under (Code.builtin "sorted" ⟨[.ref r], [(Str.ofString "key", .ref k.c)]⟩) = B at hA'
  unfold Builtin.«sorted»
  refine wpAny_bind (m := checkCount "sorted" 1 1 _) (wpAny_pure ?_)
  refine wpAny_bind (collect_range (A := B) hA'.2.2 hr hsmall hnr (by omega) fun h1 tk1 acc G1 le1 I1 => ?_)
  have hal : acc.toList.length = n := by rw [Array.length_toList]; exact I1.1
  refine wpAny_bind (wpAny_newList ?_ (by rw [hal]; omega))
  show wpAny _ _ _ _ _ { s with heap := h1.push (seqObj "list" acc.toList.toArray 0), toks := tk1 }
  have hoL : (h1.push (seqObj "list" acc.toList.toArray 0)).get? h1.objs.size = some (seqObj "list" acc.toList.toArray 0) := Heap.get?_push_size _ rfl
  have G2 : Gr s.heap (h1.push (seqObj "list" acc.toList.toArray 0)) := fun b o e => Heap.get?_push_of_some _ (G1 _ _ e)
  refine wpAny_bind (wpAny_holding (wpAny_call_entry_kw slot_list_sort ⟨_, hoL, rfl⟩ entry_list_sort ?body (ksk_l1 _ _)))
  case body =>
    show wpAny (model PG w) B.in1 (Builtin.«list.sort» ⟨[.ref h1.objs.size], [(Str.ofString "key", .ref k.c)]⟩) _ _ _
    rw [ksk_t1]
    refine wpAny_mono (E := fun _ _ => False) ?_ (fun _ _ q => q) (fun _ _ q => q.elim)
    refine srt_sort (D := D + 1 + 1) (s := { s with heap := h1.push (seqObj "list" acc.toList.toArray 0), toks := tk1 }) (by omega) hA'.in1 hF (H.gr G2) hoL (fun hm => ?_) hal (fun i v hv => ?_) hlt h2 h64 hok hrun fun h' tk' c2 out z g2 g3 g4 g5 => ?_
    · obtain ⟨p, hp, e⟩ := List.mem_map.mp hm
      have := Heap.lt_size (H.at_ p hp)
      have e' : p.1 = h1.objs.size := e
      rw [e'] at this
      exact absurd this (Nat.not_lt.mpr (Nat.le_of_lt le1))
    · obtain ⟨q, e⟩ := I1.2 i v (by simpa using hv)
      refine ⟨q, ?_⟩
      rw [e]
      show Value.int (0 + (i : Int) * 1) q = _
      rw [Int.mul_one, Int.zero_add]
    · refine ⟨_, rfl, wpAny_pure (hQ h' tk' c2 out _ z g2 g3 (fun b o e => g4 b o (fun q => ?_) (G2 _ _ e)) (Nat.le_of_lt le1))⟩
      have := Heap.lt_size e
      rw [q] at this
      exact absurd this (Nat.not_lt.mpr (Nat.le_of_lt le1))
end
end Mine
end
section
namespace Mine
set_option maxHeartbeats 8000000
noncomputable def lawS : Stmt := topSt 35
noncomputable def lawF : Stmt := stAt (bodyOf lawS) 0
noncomputable def lawB : List Stmt := forBd lawF
/-- the top's objects that the law reaches and that never turn -/
noncomputable def LS (w : World) : List (Addr × Obj) := [(2, ob w 2), (124, ob w 124), (123, ob w 123), (3, ob w 3), (0, ob w 0), (4, ob w 4), (112, ob w 112), (111, ob w 111), (51, ob w 51), (50, ob w 50), (44, ob w 44), (105, ob w 105), (104, ob w 104), (35, ob w 35), (34, ob w 34), (28, ob w 28), (27, ob w 27), (119, ob w 119), (118, ob w 118), (42, ob w 42), (41, ob w 41),
  (98, ob w 98), (97, ob w 97), (58, ob w 58), (57, ob w 57), (91, ob w 91), (66, ob w 66), (68, ob w 68), (70, ob w 70), (74, ob w 74), (76, ob w 76), (78, ob w 78), (82, ob w 82), (84, ob w 84), (86, ob w 86), (90, ob w 90), (59, ob w 59), (60, ob w 60), (61, ob w 61), (62, ob w 62), (63, ob w 63), (64, ob w 64), (65, ob w 65), (67, ob w 67), (69, ob w 69), (71, ob w 71), (72, ob w 72), (73, ob w 73), (75, ob w 75), (77, ob w 77), (79, ob w 79), (80, ob w 80), (81, ob w 81), (83, ob w 83), (85, ob w 85), (87, ob w 87), (88, ob w 88), (89, ob w 89)]
noncomputable def scO (vs : List Value) (e : Nat) : Obj := seqObj "list" vs.toArray e
/-- the ledger ahead of the call -/
noncomputable def LW (w : World) (t114 t37 : Obj) (sc : Addr) (so : Obj) : List (Addr × Obj) := LS w ++ [(114, t114), (37, t37), (sc, so)]
noncomputable def hLawA : List Hm := [.go [.al, .al, .al, .al, .al, .al, .ld 62, .up 62], .ag none, .go [.ld 3, .ld 4, .fr], .cl none, .ag none, .cl none, .ag none, .go [.fr, .fr, .al], .rt, .go [.ld 67, .ld 67], .cl none, .go [.ld 67], .ag none, .go [.ld 67], .rt, .rt, .go [.ld 67, .ld 67], .cl none, .go [.ld 67], .ag none, .go [.ld 67, .ld 67, .ld 67, .al], .rt, .go [.ld 68]]
end Mine
end
section
namespace Mine
set_option maxHeartbeats 8000000
noncomputable def lawEnv (N : Nat) : Env := { scope := scopeOf lawS, locals := N, globals := 3, cells := [(Str.ofString "stride", N + 5), (Str.ofString "both", N + 4), (Str.ofString "second", N + 3), (Str.ofString "first", N + 2), (Str.ofString "script", N + 1)], qual := Str.ofString "law.<locals>.", func := some 124, code := .ref 123, frame := some N, builtins := 0 }
noncomputable def rgO (a : Int) (t : Tok) (b : Int) (u : Tok) (c : Int) (v : Tok) : Obj := ⟨.type "range", none, .fields #[.int a t, .int b u, .int c v], #[]⟩
noncomputable def LD (w : World) (t114 t37 : Obj) (sc : Addr) (so : Obj) (N : Nat) (fr : Obj) (c1 c2 c3 c4 c5 : Option Value) (rg it : Obj) : List (Addr × Obj) := LW w t114 t37 sc so ++ [(N, fr), (N + 1, cellO c1), (N + 2, cellO c2), (N + 3, cellO c3), (N + 4, cellO c4), (N + 5, cellO c5), (N + 6, rg), (N + 7, it)]
noncomputable def stmtN (i : Nat) : Stmt := stAt lawB i
noncomputable def asgV : Stmt → Expr
  | .Assign _ v _ => v
  | _ => .Constant .none 0 default
noncomputable def ifT : Stmt → Expr
  | .If t _ _ _ => t
  | _ => .Constant .none 0 default
noncomputable def argN : Expr → Nat → Expr
  | .Call _ as _ _, i => as.getD i (.Constant .none 0 default)
  | e, _ => e
noncomputable def cmpR : Expr → Expr
  | .Compare _ _ rs _ => rs.getD 0 (.Constant .none 0 default)
  | e => e
noncomputable def subV : Expr → Expr
  | .Subscript v _ _ => v
  | e => e
noncomputable def scE : Expr → Scope
  | .ListComp _ _ s _ => s
  | _ => default
noncomputable def E0 : Expr := argN (asgV (stmtN 0)) 0
noncomputable def E1 : Expr := argN (cmpR (ifT (stmtN 6))) 0
noncomputable def E2 : Expr := subV (asgV (stmtN 7))
noncomputable def E3 : Expr := cmpR (ifT (stmtN 8))
/-- a comprehension's env in law's frame -/
noncomputable def cEnv (e : Expr) (N D : Nat) (cells : List (Str × Addr)) : Env :=
  { scope := { scE e with names := (scE e).names.map fun (n, k) => if (k == .free && (lawEnv N).scope.kind == .function && (lawEnv N).kindOf n == some .cell) = true then (n, .cell) else (n, k) }, locals := D, globals := 3, cells := cells, qual := Str.ofString "law.<locals>.", func := none, code := .ref 123, frame := some N, builtins := 0 }
noncomputable def lcC (e : Expr) (it acc : Addr) (env : Env) : Code := .compLoop e 0 (.ref it) (.ref acc) env
noncomputable def scC (e : Expr) (it acc : Addr) (env : Env) : Code := .compStart e 0 (.ref it) (.ref acc) env
noncomputable def jD (w : World) (o : Option (Tok × Int × Tok)) : Obj := match o with
  | none => dO [] 0
  | some (k, x, t) => dO [en w "j" k (.int x t)] 1
noncomputable def jK (o : Option (Tok × Int × Tok)) (tk : Nat) : Tok := match o with
  | none => tk + 1
  | some (k, _, _) => k
/-- list.append on a list of the ledger -/
theorem append_call {w : World} {h0 h : Heap} {L0 L : List (Addr × Obj)} {g : Array GenState} {d : Drawn} {tk : Nat} {os : OsState} {N i e : Nat} {A : Around} {R : Result → Shared → Prop} {a : Addr} {xs : Array Value} {v : Value}
    (S : Sg L0 h0 L N h) (hi : L[i]? = some (a, seqObj "list" xs e)) (hz : xs.size ≤ 1000) (hR : ∀ h' e', Sg L0 h0 (L.set i (a, seqObj "list" (xs.push v) e')) N h' → R (.ok (.ret .none)) ⟨h', g, d, tk, os⟩) :
    codeAny (model PG w) A (.call (.builtin "list.append") ⟨[.ref a, v], []⟩) R ⟨h, g, d, tk, os⟩ := by
  have hs := sizeLine_eq
  have ho := S.lg.get hi
  refine codeAny_call_builtin slot_list_append.plain entry_list_append (slot_list_append.check _ _ _ _ _ _ _ _ ⟨_, ho, rfl⟩ (args_list_append _ _) ?_)
  show wpAny _ _ (updateSeq a (·.push v) >>= fun _ => ret .none) _ _ _
  refine wpAny_bind ?_
  refine wpAny_updateSeq ho rfl (wpAny_pure ?_) (by omega) (by rw [Array.size_push]; omega)
  have u := S.upd (f := Obj.mapSeq (·.push v)) hi rfl
  obtain ⟨e', he⟩ : ∃ e', Obj.mapSeq (·.push v) (seqObj "list" xs e) = seqObj "list" (xs.push v) e' := ⟨_, rfl⟩
  exact hR _ e' (by rw [← he]; exact u)
noncomputable def hNx : List Hm := [.go [.ld 70], .cl none, .go [.ld 70], .ag none, .go [.ld 70, .ld 70, .ld 70, .ld 70, .up 70, .ld 70, .up 70, .fr], .rt]
noncomputable def hC0 (v : Value) : List Hm := hNx ++ [.go [.fr, .ld 72, .up 72, .ld 62, .ld 72, .ld 60, .ld 60, .ld 60], .ct v 0 [60]]
noncomputable def hC1 (jq r : Int) (b : Bool) (tk : Nat) : List Hm := hNx ++ [.go [.fr, .ld 72, .up 72, .ld 72, .ld 64], .ct (.int jq (tk + 2)) 1 [], .go [.ld 65], .ct (.int r (tk + 3)) 1 [], .go [.ld 63], .ct (.bool b) 0 [], .go [.fr]]
noncomputable def hC2 (jq r : Int) (b : Bool) (tk : Nat) : List Hm := hNx ++ [.go [.fr, .ld 72, .up 72, .ld 72, .ld 64], .ct (.int jq (tk + 2)) 1 [], .go [.ld 65], .ct (.int r (tk + 3)) 1 [], .go [.fr], .ct (.bool b) 0 []]
noncomputable def hC3 (jq r : Int) (tk : Nat) : List Hm := hNx ++ [.go [.fr, .ld 72, .up 72, .ld 72, .ld 66], .ct (.int jq (tk + 2)) 1 [], .go [.ld 65], .ct (.int r (tk + 3)) 1 []]
end Mine
end
section
namespace Mine
set_option maxHeartbeats 8000000
noncomputable def cl0 (N : Nat) : List (Str × Addr) := [(Str.ofString "script", N + 1)]
noncomputable def cl1 (N : Nat) : List (Str × Addr) := [(Str.ofString "second", N + 3), (Str.ofString "first", N + 2), (Str.ofString "both", N + 4)]
noncomputable def cl2 (N : Nat) : List (Str × Addr) := [(Str.ofString "second", N + 3), (Str.ofString "both", N + 4)]
noncomputable def cl3 (N : Nat) : List (Str × Addr) := [(Str.ofString "stride", N + 5), (Str.ofString "both", N + 4)]
structure Lx where
  t114 : Obj
  t37 : Obj
  sc : Addr
  so : Obj
  N : Nat
  fr : Obj
  rg : Obj
  it : Obj
  B : Addr
  rgo : Obj
noncomputable def LX (x : Lx) (w : World) (c1 c2 c3 c4 c5 : Option Value) (io ao jo : Obj) : List (Addr × Obj) := LD w x.t114 x.t37 x.sc x.so x.N x.fr c1 c2 c3 c4 c5 x.rg x.it ++ [(x.B, x.rgo), (x.B + 1, io), (x.B + 2, ao), (x.B + 3, jo)]
theorem ct_m {w : World} : (∀ {D : Nat} {h0 h : Heap} {L0 : List (Addr × Obj)} {g : Array GenState} {d : Drawn} {tk : Nat} {os : OsState} {Z : Nat} {A : Around} {R : Result → Shared → Prop} {x : Lx} {xs : Array Value} {e m : Nat} {j : Int} {o : Option (Tok × Int × Tok)} {c1 c5 : Option Value} {f q n : Int} {tf tq tn : Tok} {b : Bool} (hD : D ≤ 780) (hA : Bd D A) (hz : xs.size ≤ 1000) (S : Sg L0 h0 (LX x w c1 (some (.int f tf)) (some (.int q tq)) (some (.int n tn)) c5 (rgItO j ((m : Int) + 1) 1) (seqObj "list" xs e) (jD w o)) Z h) (hm : IntMulOk j q) (hn : (n == 0) = false) (hb : decide ((j * q).fmod n < f) = b) (hR : ∀ h' A' e', Bd D A' → Sg L0 h0 (LX x w c1 (some (.int f tf)) (some (.int q tq)) (some (.int n tn)) c5 (rgItO (j + 1) m 1) (seqObj "list" (xs.push (.str (if b then sA else sLt) (tk + 4))) e') (jD w (some (jK o tk, j, tk)))) Z h' → codeAny (model PG w) A' (lcC E1 (x.B + 1) (x.B + 2) (cEnv E1 x.N (x.B + 3) (cl1 x.N))) R ⟨h', g, d, tk + 5, os⟩), codeAny (model PG w) A (lcC E1 (x.B + 1) (x.B + 2) (cEnv E1 x.N (x.B + 3) (cl1 x.N))) R ⟨h, g, d, tk, os⟩) ∧
    (∀ {D : Nat} {h0 h : Heap} {L0 : List (Addr × Obj)} {g : Array GenState} {d : Drawn} {tk : Nat} {os : OsState} {Z : Nat} {A : Around} {R : Result → Shared → Prop} {x : Lx} {xs : Array Value} {e m : Nat} {j : Int} {o : Option (Tok × Int × Tok)} {c1 c2 c5 : Option Value} {q n : Int} {tq tn : Tok} {b : Bool} (hD : D ≤ 780) (hA : Bd D A) (hz : xs.size ≤ 1000) (S : Sg L0 h0 (LX x w c1 c2 (some (.int q tq)) (some (.int n tn)) c5 (rgItO j ((m : Int) + 1) 1) (seqObj "list" xs e) (jD w o)) Z h) (hm : IntMulOk j q) (hn : (n == 0) = false) (hb : ((j * q).fmod n == 1) = b) (hR : ∀ h' A' e', Bd D A' → Sg L0 h0 (LX x w c1 c2 (some (.int q tq)) (some (.int n tn)) c5 (rgItO (j + 1) m 1) (seqObj "list" (if b then xs.push (.int j tk) else xs) e') (jD w (some (jK o tk, j, tk)))) Z h' → codeAny (model PG w) A' (lcC E2 (x.B + 1) (x.B + 2) (cEnv E2 x.N (x.B + 3) (cl2 x.N))) R ⟨h', g, d, tk + 5, os⟩), codeAny (model PG w) A (lcC E2 (x.B + 1) (x.B + 2) (cEnv E2 x.N (x.B + 3) (cl2 x.N))) R ⟨h, g, d, tk, os⟩) ∧
    (∀ {D : Nat} {h0 h : Heap} {L0 : List (Addr × Obj)} {g : Array GenState} {d : Drawn} {tk : Nat} {os : OsState} {Z : Nat} {A : Around} {R : Result → Shared → Prop} {x : Lx} {xs : Array Value} {e m : Nat} {j : Int} {o : Option (Tok × Int × Tok)} {c1 c2 c3 : Option Value} {s n : Int} {ts tn : Tok} (hD : D ≤ 780) (hA : Bd D A) (hz : xs.size ≤ 1000) (S : Sg L0 h0 (LX x w c1 c2 c3 (some (.int n tn)) (some (.int s ts)) (rgItO j ((m : Int) + 1) 1) (seqObj "list" xs e) (jD w o)) Z h) (hm : IntMulOk j s) (hn : (n == 0) = false) (hR : ∀ h' A' e', Bd D A' → Sg L0 h0 (LX x w c1 c2 c3 (some (.int n tn)) (some (.int s ts)) (rgItO (j + 1) m 1) (seqObj "list" (xs.push (.int ((j * s).fmod n) (tk + 3))) e') (jD w (some (jK o tk, j, tk)))) Z h' → codeAny (model PG w) A' (lcC E3 (x.B + 1) (x.B + 2) (cEnv E3 x.N (x.B + 3) (cl3 x.N))) R ⟨h', g, d, tk + 4, os⟩), codeAny (model PG w) A (lcC E3 (x.B + 1) (x.B + 2) (cEnv E3 x.N (x.B + 3) (cl3 x.N))) R ⟨h, g, d, tk, os⟩) ∧
    (∀ {D : Nat} {h0 h : Heap} {L0 : List (Addr × Obj)} {g : Array GenState} {d : Drawn} {tk : Nat} {os : OsState} {Z : Nat} {A : Around} {R : Result → Shared → Prop} {x : Lx} {xs : Array Value} {e m : Nat} {j : Int} {o : Option (Tok × Int × Tok)} {c2 c3 c4 c5 : Option Value} {v : Value} (hD : D ≤ 780) (hA : Bd D A) (hz : xs.size ≤ 1000) (S : Sg L0 h0 (LX x w (some (.ref x.sc)) c2 c3 c4 c5 (rgItO j ((m : Int) + 1) 2) (seqObj "list" xs e) (jD w o)) Z h) (hv : ∀ tk, ObOK PG w ⟨.call (.builtin "list.__getitem__") ⟨[.ref x.sc, .int j tk], []⟩, [(x.sc, x.so)], tk + 2, v, 0⟩) (hso : ∃ vs e, x.so = scO vs e) (hR : ∀ h' A' e', Bd D A' → Sg L0 h0 (LX x w (some (.ref x.sc)) c2 c3 c4 c5 (rgItO (j + 2) m 2) (seqObj "list" (xs.push v) e') (jD w (some (jK o tk, j, tk)))) Z h' → codeAny (model PG w) A' (lcC E0 (x.B + 1) (x.B + 2) (cEnv E0 x.N (x.B + 3) (cl0 x.N))) R ⟨h', g, d, tk + 2, os⟩), codeAny (model PG w) A (lcC E0 (x.B + 1) (x.B + 2) (cEnv E0 x.N (x.B + 3) (cl0 x.N))) R ⟨h, g, d, tk, os⟩) := by
  refine ⟨?_, ?_, ?_, ?_⟩
  · intro D h0 h L0 g d tk os Z A R x xs e m j o c1 c5 f q n tf tq tn b hD hA hz S hm hn hb hR
    have e1 : ((m : Int) + 1 - 1) = m := by omega
    obtain ⟨t114, t37, sc, so, N, fr, rg, it, B, rgo⟩ := x
    refine opCode none (denF (lcC E1 (B + 1) (B + 2) (cEnv E1 N (B + 3) (cl1 N)))) 0 [] hD hA S (by kernel_rfl) fun A1 a1 W hW => ?_
    cases o with
    | none =>
      cases b with
      | true =>
        refine opM hW hD a1 S 0 (hC1 (j * q) ((j * q).fmod n) true tk) (List.range 73) _ (.call (.builtin "list.append") ⟨[.ref (B + 2), .str sA (tk + 4)], []⟩) (LX ⟨t114, t37, sc, so, N, fr, rg, it, B, rgo⟩ w c1 (some (.int f tf)) (some (.int q tq)) (some (.int n tn)) c5 (rgItO (j + 1) ((m : Int) + 1 - 1) 1) (seqObj "list" xs e) (jD w (some (tk + 1, j, tk)))) Z (tk + 5) (fun b => by cases b <;> kernel_rfl) (by decide) (.cons (ob_imul (x := j) (y := q) (t := tk) (u := tq) (P := []) (tk := tk + 2) hm rfl) <| .cons (ob_imod (x := j * q) (y := n) (t := tk + 2) (u := tn) (P := []) (tk := tk + 3) hn rfl) <| .cons (ob_ilt (x := (j * q).fmod n) (y := f) (t := tk + 3) (u := tf) (P := []) (tk := tk + 4) hb) .nil) fun W1 hW1 h1 S1 A2 a2 => ?_
        refine append_call S1 (i := 71) (a := B + 2) (xs := xs) (e := e) rfl hz fun h2 e2 S2 => ?_
        refine opAg (hW1 _) hD a1 S2 0 [] (List.range 73) [] (lcC E1 (B + 1) (B + 2) (cEnv E1 N (B + 3) (cl1 N))) (LX ⟨t114, t37, sc, so, N, fr, rg, it, B, rgo⟩ w c1 (some (.int f tf)) (some (.int q tq)) (some (.int n tn)) c5 (rgItO (j + 1) ((m : Int) + 1 - 1) 1) (seqObj "list" (xs.push (.str sA (tk + 4))) e2) (jD w (some (tk + 1, j, tk)))) Z (tk + 5) (fun b => by cases b <;> kernel_rfl) (by decide) .nil fun h' S' A' b' => hR h' A' e2 b' (by rw [e1] at S'; exact S')
      | false =>
        refine opM hW hD a1 S 0 (hC1 (j * q) ((j * q).fmod n) false tk) (List.range 73) _ (.call (.builtin "list.append") ⟨[.ref (B + 2), .str sLt (tk + 4)], []⟩) (LX ⟨t114, t37, sc, so, N, fr, rg, it, B, rgo⟩ w c1 (some (.int f tf)) (some (.int q tq)) (some (.int n tn)) c5 (rgItO (j + 1) ((m : Int) + 1 - 1) 1) (seqObj "list" xs e) (jD w (some (tk + 1, j, tk)))) Z (tk + 5) (fun b => by cases b <;> kernel_rfl) (by decide) (.cons (ob_imul (x := j) (y := q) (t := tk) (u := tq) (P := []) (tk := tk + 2) hm rfl) <| .cons (ob_imod (x := j * q) (y := n) (t := tk + 2) (u := tn) (P := []) (tk := tk + 3) hn rfl) <| .cons (ob_ilt (x := (j * q).fmod n) (y := f) (t := tk + 3) (u := tf) (P := []) (tk := tk + 4) hb) .nil) fun W1 hW1 h1 S1 A2 a2 => ?_
        refine append_call S1 (i := 71) (a := B + 2) (xs := xs) (e := e) rfl hz fun h2 e2 S2 => ?_
        refine opAg (hW1 _) hD a1 S2 0 [] (List.range 73) [] (lcC E1 (B + 1) (B + 2) (cEnv E1 N (B + 3) (cl1 N))) (LX ⟨t114, t37, sc, so, N, fr, rg, it, B, rgo⟩ w c1 (some (.int f tf)) (some (.int q tq)) (some (.int n tn)) c5 (rgItO (j + 1) ((m : Int) + 1 - 1) 1) (seqObj "list" (xs.push (.str sLt (tk + 4))) e2) (jD w (some (tk + 1, j, tk)))) Z (tk + 5) (fun b => by cases b <;> kernel_rfl) (by decide) .nil fun h' S' A' b' => hR h' A' e2 b' (by rw [e1] at S'; exact S')
    | some o =>
      obtain ⟨k1, x1, t1⟩ := o
      cases b with
      | true =>
        refine opM hW hD a1 S 0 (hC1 (j * q) ((j * q).fmod n) true tk) (List.range 73) _ (.call (.builtin "list.append") ⟨[.ref (B + 2), .str sA (tk + 4)], []⟩) (LX ⟨t114, t37, sc, so, N, fr, rg, it, B, rgo⟩ w c1 (some (.int f tf)) (some (.int q tq)) (some (.int n tn)) c5 (rgItO (j + 1) ((m : Int) + 1 - 1) 1) (seqObj "list" xs e) (jD w (some (k1, j, tk)))) Z (tk + 5) (fun b => by cases b <;> kernel_rfl) (by decide) (.cons (ob_imul (x := j) (y := q) (t := tk) (u := tq) (P := []) (tk := tk + 2) hm rfl) <| .cons (ob_imod (x := j * q) (y := n) (t := tk + 2) (u := tn) (P := []) (tk := tk + 3) hn rfl) <| .cons (ob_ilt (x := (j * q).fmod n) (y := f) (t := tk + 3) (u := tf) (P := []) (tk := tk + 4) hb) .nil) fun W1 hW1 h1 S1 A2 a2 => ?_
        refine append_call S1 (i := 71) (a := B + 2) (xs := xs) (e := e) rfl hz fun h2 e2 S2 => ?_
        refine opAg (hW1 _) hD a1 S2 0 [] (List.range 73) [] (lcC E1 (B + 1) (B + 2) (cEnv E1 N (B + 3) (cl1 N))) (LX ⟨t114, t37, sc, so, N, fr, rg, it, B, rgo⟩ w c1 (some (.int f tf)) (some (.int q tq)) (some (.int n tn)) c5 (rgItO (j + 1) ((m : Int) + 1 - 1) 1) (seqObj "list" (xs.push (.str sA (tk + 4))) e2) (jD w (some (k1, j, tk)))) Z (tk + 5) (fun b => by cases b <;> kernel_rfl) (by decide) .nil fun h' S' A' b' => hR h' A' e2 b' (by rw [e1] at S'; exact S')
      | false =>
        refine opM hW hD a1 S 0 (hC1 (j * q) ((j * q).fmod n) false tk) (List.range 73) _ (.call (.builtin "list.append") ⟨[.ref (B + 2), .str sLt (tk + 4)], []⟩) (LX ⟨t114, t37, sc, so, N, fr, rg, it, B, rgo⟩ w c1 (some (.int f tf)) (some (.int q tq)) (some (.int n tn)) c5 (rgItO (j + 1) ((m : Int) + 1 - 1) 1) (seqObj "list" xs e) (jD w (some (k1, j, tk)))) Z (tk + 5) (fun b => by cases b <;> kernel_rfl) (by decide) (.cons (ob_imul (x := j) (y := q) (t := tk) (u := tq) (P := []) (tk := tk + 2) hm rfl) <| .cons (ob_imod (x := j * q) (y := n) (t := tk + 2) (u := tn) (P := []) (tk := tk + 3) hn rfl) <| .cons (ob_ilt (x := (j * q).fmod n) (y := f) (t := tk + 3) (u := tf) (P := []) (tk := tk + 4) hb) .nil) fun W1 hW1 h1 S1 A2 a2 => ?_
        refine append_call S1 (i := 71) (a := B + 2) (xs := xs) (e := e) rfl hz fun h2 e2 S2 => ?_
        refine opAg (hW1 _) hD a1 S2 0 [] (List.range 73) [] (lcC E1 (B + 1) (B + 2) (cEnv E1 N (B + 3) (cl1 N))) (LX ⟨t114, t37, sc, so, N, fr, rg, it, B, rgo⟩ w c1 (some (.int f tf)) (some (.int q tq)) (some (.int n tn)) c5 (rgItO (j + 1) ((m : Int) + 1 - 1) 1) (seqObj "list" (xs.push (.str sLt (tk + 4))) e2) (jD w (some (k1, j, tk)))) Z (tk + 5) (fun b => by cases b <;> kernel_rfl) (by decide) .nil fun h' S' A' b' => hR h' A' e2 b' (by rw [e1] at S'; exact S')
  · intro D h0 h L0 g d tk os Z A R x xs e m j o c1 c2 c5 q n tq tn b hD hA hz S hm hn hb hR
    have e1 : ((m : Int) + 1 - 1) = m := by omega
    obtain ⟨t114, t37, sc, so, N, fr, rg, it, B, rgo⟩ := x
    refine opCode none (denF (lcC E2 (B + 1) (B + 2) (cEnv E2 N (B + 3) (cl2 N)))) 0 [] hD hA S (by kernel_rfl) fun A1 a1 W hW => ?_
    cases o with
    | none =>
      cases b with
      | true =>
        refine opM hW hD a1 S 0 (hC2 (j * q) ((j * q).fmod n) true tk ++ [.go [.ld 72]]) (List.range 73) _ (.call (.builtin "list.append") ⟨[.ref (B + 2), .int j tk], []⟩) (LX ⟨t114, t37, sc, so, N, fr, rg, it, B, rgo⟩ w c1 c2 (some (.int q tq)) (some (.int n tn)) c5 (rgItO (j + 1) ((m : Int) + 1 - 1) 1) (seqObj "list" xs e) (jD w (some (tk + 1, j, tk)))) Z (tk + 5) (fun b => by cases b <;> kernel_rfl) (by decide) (.cons (ob_imul (x := j) (y := q) (t := tk) (u := tq) (P := []) (tk := tk + 2) hm rfl) <| .cons (ob_imod (x := j * q) (y := n) (t := tk + 2) (u := tn) (P := []) (tk := tk + 3) hn rfl) <| .cons (ob_ieq (x := (j * q).fmod n) (y := 1) (t := tk + 3) (u := tk + 4) (P := []) (tk := tk + 5) hb) .nil) fun W1 hW1 h1 S1 A2 a2 => ?_
        refine append_call S1 (i := 71) (a := B + 2) (xs := xs) (e := e) rfl hz fun h2 e2 S2 => ?_
        refine opAg (hW1 _) hD a1 S2 0 [] (List.range 73) [] (lcC E2 (B + 1) (B + 2) (cEnv E2 N (B + 3) (cl2 N))) (LX ⟨t114, t37, sc, so, N, fr, rg, it, B, rgo⟩ w c1 c2 (some (.int q tq)) (some (.int n tn)) c5 (rgItO (j + 1) ((m : Int) + 1 - 1) 1) (seqObj "list" (xs.push (.int j tk)) e2) (jD w (some (tk + 1, j, tk)))) Z (tk + 5) (fun b => by cases b <;> kernel_rfl) (by decide) .nil fun h' S' A' b' => hR h' A' e2 b' (by rw [e1] at S'; exact S')
      | false =>
        refine opAg hW hD a1 S 0 (hC2 (j * q) ((j * q).fmod n) false tk) (List.range 73) _ (lcC E2 (B + 1) (B + 2) (cEnv E2 N (B + 3) (cl2 N))) (LX ⟨t114, t37, sc, so, N, fr, rg, it, B, rgo⟩ w c1 c2 (some (.int q tq)) (some (.int n tn)) c5 (rgItO (j + 1) ((m : Int) + 1 - 1) 1) (seqObj "list" xs e) (jD w (some (tk + 1, j, tk)))) Z (tk + 5) (fun b => by cases b <;> kernel_rfl) (by decide) (.cons (ob_imul (x := j) (y := q) (t := tk) (u := tq) (P := []) (tk := tk + 2) hm rfl) <| .cons (ob_imod (x := j * q) (y := n) (t := tk + 2) (u := tn) (P := []) (tk := tk + 3) hn rfl) <| .cons (ob_ieq (x := (j * q).fmod n) (y := 1) (t := tk + 3) (u := tk + 4) (P := []) (tk := tk + 5) hb) .nil) fun h' S' A' b' => hR h' A' e b' (by rw [e1] at S'; exact S')
    | some o =>
      obtain ⟨k1, x1, t1⟩ := o
      cases b with
      | true =>
        refine opM hW hD a1 S 0 (hC2 (j * q) ((j * q).fmod n) true tk ++ [.go [.ld 72]]) (List.range 73) _ (.call (.builtin "list.append") ⟨[.ref (B + 2), .int j tk], []⟩) (LX ⟨t114, t37, sc, so, N, fr, rg, it, B, rgo⟩ w c1 c2 (some (.int q tq)) (some (.int n tn)) c5 (rgItO (j + 1) ((m : Int) + 1 - 1) 1) (seqObj "list" xs e) (jD w (some (k1, j, tk)))) Z (tk + 5) (fun b => by cases b <;> kernel_rfl) (by decide) (.cons (ob_imul (x := j) (y := q) (t := tk) (u := tq) (P := []) (tk := tk + 2) hm rfl) <| .cons (ob_imod (x := j * q) (y := n) (t := tk + 2) (u := tn) (P := []) (tk := tk + 3) hn rfl) <| .cons (ob_ieq (x := (j * q).fmod n) (y := 1) (t := tk + 3) (u := tk + 4) (P := []) (tk := tk + 5) hb) .nil) fun W1 hW1 h1 S1 A2 a2 => ?_
        refine append_call S1 (i := 71) (a := B + 2) (xs := xs) (e := e) rfl hz fun h2 e2 S2 => ?_
        refine opAg (hW1 _) hD a1 S2 0 [] (List.range 73) [] (lcC E2 (B + 1) (B + 2) (cEnv E2 N (B + 3) (cl2 N))) (LX ⟨t114, t37, sc, so, N, fr, rg, it, B, rgo⟩ w c1 c2 (some (.int q tq)) (some (.int n tn)) c5 (rgItO (j + 1) ((m : Int) + 1 - 1) 1) (seqObj "list" (xs.push (.int j tk)) e2) (jD w (some (k1, j, tk)))) Z (tk + 5) (fun b => by cases b <;> kernel_rfl) (by decide) .nil fun h' S' A' b' => hR h' A' e2 b' (by rw [e1] at S'; exact S')
      | false =>
        refine opAg hW hD a1 S 0 (hC2 (j * q) ((j * q).fmod n) false tk) (List.range 73) _ (lcC E2 (B + 1) (B + 2) (cEnv E2 N (B + 3) (cl2 N))) (LX ⟨t114, t37, sc, so, N, fr, rg, it, B, rgo⟩ w c1 c2 (some (.int q tq)) (some (.int n tn)) c5 (rgItO (j + 1) ((m : Int) + 1 - 1) 1) (seqObj "list" xs e) (jD w (some (k1, j, tk)))) Z (tk + 5) (fun b => by cases b <;> kernel_rfl) (by decide) (.cons (ob_imul (x := j) (y := q) (t := tk) (u := tq) (P := []) (tk := tk + 2) hm rfl) <| .cons (ob_imod (x := j * q) (y := n) (t := tk + 2) (u := tn) (P := []) (tk := tk + 3) hn rfl) <| .cons (ob_ieq (x := (j * q).fmod n) (y := 1) (t := tk + 3) (u := tk + 4) (P := []) (tk := tk + 5) hb) .nil) fun h' S' A' b' => hR h' A' e b' (by rw [e1] at S'; exact S')
  · intro D h0 h L0 g d tk os Z A R x xs e m j o c1 c2 c3 s n ts tn hD hA hz S hm hn hR
    have e1 : ((m : Int) + 1 - 1) = m := by omega
    obtain ⟨t114, t37, sc, so, N, fr, rg, it, B, rgo⟩ := x
    refine opCode none (denF (lcC E3 (B + 1) (B + 2) (cEnv E3 N (B + 3) (cl3 N)))) 0 [] hD hA S (by kernel_rfl) fun A1 a1 W hW => ?_
    cases o with
    | none =>
      refine opM hW hD a1 S 0 (hC3 (j * s) ((j * s).fmod n) tk) (List.range 73) _ (.call (.builtin "list.append") ⟨[.ref (B + 2), .int ((j * s).fmod n) (tk + 3)], []⟩) (LX ⟨t114, t37, sc, so, N, fr, rg, it, B, rgo⟩ w c1 c2 c3 (some (.int n tn)) (some (.int s ts)) (rgItO (j + 1) ((m : Int) + 1 - 1) 1) (seqObj "list" xs e) (jD w (some (tk + 1, j, tk)))) Z (tk + 4) (fun b => by cases b <;> kernel_rfl) (by decide) (.cons (ob_imul (x := j) (y := s) (t := tk) (u := ts) (P := []) (tk := tk + 2) hm rfl) <| .cons (ob_imod (x := j * s) (y := n) (t := tk + 2) (u := tn) (P := []) (tk := tk + 3) hn rfl) .nil) fun W1 hW1 h1 S1 A2 a2 => ?_
      refine append_call S1 (i := 71) (a := B + 2) (xs := xs) (e := e) rfl hz fun h2 e2 S2 => ?_
      refine opAg (hW1 _) hD a1 S2 0 [] (List.range 73) [] (lcC E3 (B + 1) (B + 2) (cEnv E3 N (B + 3) (cl3 N))) (LX ⟨t114, t37, sc, so, N, fr, rg, it, B, rgo⟩ w c1 c2 c3 (some (.int n tn)) (some (.int s ts)) (rgItO (j + 1) ((m : Int) + 1 - 1) 1) (seqObj "list" (xs.push (.int ((j * s).fmod n) (tk + 3))) e2) (jD w (some (tk + 1, j, tk)))) Z (tk + 4) (fun b => by cases b <;> kernel_rfl) (by decide) .nil fun h' S' A' b' => hR h' A' e2 b' (by rw [e1] at S'; exact S')
    | some o =>
      obtain ⟨k1, x1, t1⟩ := o
      refine opM hW hD a1 S 0 (hC3 (j * s) ((j * s).fmod n) tk) (List.range 73) _ (.call (.builtin "list.append") ⟨[.ref (B + 2), .int ((j * s).fmod n) (tk + 3)], []⟩) (LX ⟨t114, t37, sc, so, N, fr, rg, it, B, rgo⟩ w c1 c2 c3 (some (.int n tn)) (some (.int s ts)) (rgItO (j + 1) ((m : Int) + 1 - 1) 1) (seqObj "list" xs e) (jD w (some (k1, j, tk)))) Z (tk + 4) (fun b => by cases b <;> kernel_rfl) (by decide) (.cons (ob_imul (x := j) (y := s) (t := tk) (u := ts) (P := []) (tk := tk + 2) hm rfl) <| .cons (ob_imod (x := j * s) (y := n) (t := tk + 2) (u := tn) (P := []) (tk := tk + 3) hn rfl) .nil) fun W1 hW1 h1 S1 A2 a2 => ?_
      refine append_call S1 (i := 71) (a := B + 2) (xs := xs) (e := e) rfl hz fun h2 e2 S2 => ?_
      refine opAg (hW1 _) hD a1 S2 0 [] (List.range 73) [] (lcC E3 (B + 1) (B + 2) (cEnv E3 N (B + 3) (cl3 N))) (LX ⟨t114, t37, sc, so, N, fr, rg, it, B, rgo⟩ w c1 c2 c3 (some (.int n tn)) (some (.int s ts)) (rgItO (j + 1) ((m : Int) + 1 - 1) 1) (seqObj "list" (xs.push (.int ((j * s).fmod n) (tk + 3))) e2) (jD w (some (k1, j, tk)))) Z (tk + 4) (fun b => by cases b <;> kernel_rfl) (by decide) .nil fun h' S' A' b' => hR h' A' e2 b' (by rw [e1] at S'; exact S')
  · intro D h0 h L0 g d tk os Z A R x xs e m j o c2 c3 c4 c5 v hD hA hz S hv hso hR
    have e1 : ((m : Int) + 1 - 1) = m := by omega
    obtain ⟨t114, t37, sc, so, N, fr, rg, it, B, rgo⟩ := x
    obtain ⟨vs, e9, hso⟩ := hso
    dsimp only at hso
    subst hso
    refine opCode none (denF (lcC E0 (B + 1) (B + 2) (cEnv E0 N (B + 3) (cl0 N)))) 0 [] hD hA S (by kernel_rfl) fun A1 a1 W hW => ?_
    cases o with
    | none =>
      refine opM hW hD a1 S 0 (hC0 v) (List.range 73) _ (.call (.builtin "list.append") ⟨[.ref (B + 2), v], []⟩) (LX ⟨t114, t37, sc, scO vs e9, N, fr, rg, it, B, rgo⟩ w (some (.ref sc)) c2 c3 c4 c5 (rgItO (j + 2) ((m : Int) + 1 - 1) 2) (seqObj "list" xs e) (jD w (some (tk + 1, j, tk)))) Z (tk + 2) (fun b => by cases b <;> kernel_rfl) (by decide) (.cons (hv tk) .nil) fun W1 hW1 h1 S1 A2 a2 => ?_
      refine append_call S1 (i := 71) (a := B + 2) (xs := xs) (e := e) rfl hz fun h2 e2 S2 => ?_
      refine opAg (hW1 _) hD a1 S2 0 [] (List.range 73) [] (lcC E0 (B + 1) (B + 2) (cEnv E0 N (B + 3) (cl0 N))) (LX ⟨t114, t37, sc, scO vs e9, N, fr, rg, it, B, rgo⟩ w (some (.ref sc)) c2 c3 c4 c5 (rgItO (j + 2) ((m : Int) + 1 - 1) 2) (seqObj "list" (xs.push (v)) e2) (jD w (some (tk + 1, j, tk)))) Z (tk + 2) (fun b => by cases b <;> kernel_rfl) (by decide) .nil fun h' S' A' b' => hR h' A' e2 b' (by rw [e1] at S'; exact S')
    | some o =>
      obtain ⟨k1, x1, t1⟩ := o
      refine opM hW hD a1 S 0 (hC0 v) (List.range 73) _ (.call (.builtin "list.append") ⟨[.ref (B + 2), v], []⟩) (LX ⟨t114, t37, sc, scO vs e9, N, fr, rg, it, B, rgo⟩ w (some (.ref sc)) c2 c3 c4 c5 (rgItO (j + 2) ((m : Int) + 1 - 1) 2) (seqObj "list" xs e) (jD w (some (k1, j, tk)))) Z (tk + 2) (fun b => by cases b <;> kernel_rfl) (by decide) (.cons (hv tk) .nil) fun W1 hW1 h1 S1 A2 a2 => ?_
      refine append_call S1 (i := 71) (a := B + 2) (xs := xs) (e := e) rfl hz fun h2 e2 S2 => ?_
      refine opAg (hW1 _) hD a1 S2 0 [] (List.range 73) [] (lcC E0 (B + 1) (B + 2) (cEnv E0 N (B + 3) (cl0 N))) (LX ⟨t114, t37, sc, scO vs e9, N, fr, rg, it, B, rgo⟩ w (some (.ref sc)) c2 c3 c4 c5 (rgItO (j + 2) ((m : Int) + 1 - 1) 2) (seqObj "list" (xs.push (v)) e2) (jD w (some (k1, j, tk)))) Z (tk + 2) (fun b => by cases b <;> kernel_rfl) (by decide) .nil fun h' S' A' b' => hR h' A' e2 b' (by rw [e1] at S'; exact S')
theorem ct1 {D : Nat} {w : World} {h0 h : Heap} {L0 : List (Addr × Obj)} {g : Array GenState} {d : Drawn} {tk : Nat} {os : OsState} {Z : Nat} {A : Around} {R : Result → Shared → Prop} {x : Lx} {xs : Array Value} {e m : Nat} {j : Int} {o : Option (Tok × Int × Tok)} {c1 c5 : Option Value} {f q n : Int} {tf tq tn : Tok} {b : Bool}
    (hD : D ≤ 780) (hA : Bd D A) (hz : xs.size ≤ 1000) (S : Sg L0 h0 (LX x w c1 (some (.int f tf)) (some (.int q tq)) (some (.int n tn)) c5 (rgItO j ((m : Int) + 1) 1) (seqObj "list" xs e) (jD w o)) Z h) (hm : IntMulOk j q) (hn : (n == 0) = false) (hb : decide ((j * q).fmod n < f) = b)
    (hR : ∀ h' A' e', Bd D A' → Sg L0 h0 (LX x w c1 (some (.int f tf)) (some (.int q tq)) (some (.int n tn)) c5 (rgItO (j + 1) m 1) (seqObj "list" (xs.push (.str (if b then sA else sLt) (tk + 4))) e') (jD w (some (jK o tk, j, tk)))) Z h' → codeAny (model PG w) A' (lcC E1 (x.B + 1) (x.B + 2) (cEnv E1 x.N (x.B + 3) (cl1 x.N))) R ⟨h', g, d, tk + 5, os⟩) :
    codeAny (model PG w) A (lcC E1 (x.B + 1) (x.B + 2) (cEnv E1 x.N (x.B + 3) (cl1 x.N))) R ⟨h, g, d, tk, os⟩ := @(ct_m (w := w)).1 D h0 h L0 g d tk os Z A R x xs e m j o c1 c5 f q n tf tq tn b hD hA hz S hm hn hb hR
theorem ct2 {D : Nat} {w : World} {h0 h : Heap} {L0 : List (Addr × Obj)} {g : Array GenState} {d : Drawn} {tk : Nat} {os : OsState} {Z : Nat} {A : Around} {R : Result → Shared → Prop} {x : Lx} {xs : Array Value} {e m : Nat} {j : Int} {o : Option (Tok × Int × Tok)} {c1 c2 c5 : Option Value} {q n : Int} {tq tn : Tok} {b : Bool}
    (hD : D ≤ 780) (hA : Bd D A) (hz : xs.size ≤ 1000) (S : Sg L0 h0 (LX x w c1 c2 (some (.int q tq)) (some (.int n tn)) c5 (rgItO j ((m : Int) + 1) 1) (seqObj "list" xs e) (jD w o)) Z h) (hm : IntMulOk j q) (hn : (n == 0) = false) (hb : ((j * q).fmod n == 1) = b)
    (hR : ∀ h' A' e', Bd D A' → Sg L0 h0 (LX x w c1 c2 (some (.int q tq)) (some (.int n tn)) c5 (rgItO (j + 1) m 1) (seqObj "list" (if b then xs.push (.int j tk) else xs) e') (jD w (some (jK o tk, j, tk)))) Z h' → codeAny (model PG w) A' (lcC E2 (x.B + 1) (x.B + 2) (cEnv E2 x.N (x.B + 3) (cl2 x.N))) R ⟨h', g, d, tk + 5, os⟩) :
    codeAny (model PG w) A (lcC E2 (x.B + 1) (x.B + 2) (cEnv E2 x.N (x.B + 3) (cl2 x.N))) R ⟨h, g, d, tk, os⟩ := @(ct_m (w := w)).2.1 D h0 h L0 g d tk os Z A R x xs e m j o c1 c2 c5 q n tq tn b hD hA hz S hm hn hb hR
theorem ct3 {D : Nat} {w : World} {h0 h : Heap} {L0 : List (Addr × Obj)} {g : Array GenState} {d : Drawn} {tk : Nat} {os : OsState} {Z : Nat} {A : Around} {R : Result → Shared → Prop} {x : Lx} {xs : Array Value} {e m : Nat} {j : Int} {o : Option (Tok × Int × Tok)} {c1 c2 c3 : Option Value} {s n : Int} {ts tn : Tok}
    (hD : D ≤ 780) (hA : Bd D A) (hz : xs.size ≤ 1000) (S : Sg L0 h0 (LX x w c1 c2 c3 (some (.int n tn)) (some (.int s ts)) (rgItO j ((m : Int) + 1) 1) (seqObj "list" xs e) (jD w o)) Z h) (hm : IntMulOk j s) (hn : (n == 0) = false)
    (hR : ∀ h' A' e', Bd D A' → Sg L0 h0 (LX x w c1 c2 c3 (some (.int n tn)) (some (.int s ts)) (rgItO (j + 1) m 1) (seqObj "list" (xs.push (.int ((j * s).fmod n) (tk + 3))) e') (jD w (some (jK o tk, j, tk)))) Z h' → codeAny (model PG w) A' (lcC E3 (x.B + 1) (x.B + 2) (cEnv E3 x.N (x.B + 3) (cl3 x.N))) R ⟨h', g, d, tk + 4, os⟩) :
    codeAny (model PG w) A (lcC E3 (x.B + 1) (x.B + 2) (cEnv E3 x.N (x.B + 3) (cl3 x.N))) R ⟨h, g, d, tk, os⟩ := @(ct_m (w := w)).2.2.1 D h0 h L0 g d tk os Z A R x xs e m j o c1 c2 c3 s n ts tn hD hA hz S hm hn hR
theorem ct0 {D : Nat} {w : World} {h0 h : Heap} {L0 : List (Addr × Obj)} {g : Array GenState} {d : Drawn} {tk : Nat} {os : OsState} {Z : Nat} {A : Around} {R : Result → Shared → Prop} {x : Lx} {xs : Array Value} {e m : Nat} {j : Int} {o : Option (Tok × Int × Tok)} {c2 c3 c4 c5 : Option Value} {v : Value}
    (hD : D ≤ 780) (hA : Bd D A) (hz : xs.size ≤ 1000) (S : Sg L0 h0 (LX x w (some (.ref x.sc)) c2 c3 c4 c5 (rgItO j ((m : Int) + 1) 2) (seqObj "list" xs e) (jD w o)) Z h) (hv : ∀ tk, ObOK PG w ⟨.call (.builtin "list.__getitem__") ⟨[.ref x.sc, .int j tk], []⟩, [(x.sc, x.so)], tk + 2, v, 0⟩) (hso : ∃ vs e, x.so = scO vs e)
    (hR : ∀ h' A' e', Bd D A' → Sg L0 h0 (LX x w (some (.ref x.sc)) c2 c3 c4 c5 (rgItO (j + 2) m 2) (seqObj "list" (xs.push v) e') (jD w (some (jK o tk, j, tk)))) Z h' → codeAny (model PG w) A' (lcC E0 (x.B + 1) (x.B + 2) (cEnv E0 x.N (x.B + 3) (cl0 x.N))) R ⟨h', g, d, tk + 2, os⟩) :
    codeAny (model PG w) A (lcC E0 (x.B + 1) (x.B + 2) (cEnv E0 x.N (x.B + 3) (cl0 x.N))) R ⟨h, g, d, tk, os⟩ := @(ct_m (w := w)).2.2.2 D h0 h L0 g d tk os Z A R x xs e m j o c2 c3 c4 c5 v hD hA hz S hv hso hR
end Mine
end
section
namespace Mine
set_option maxHeartbeats 8000000
noncomputable def hEnd : List Hm := [.go [.ld 70], .cl none, .go [.ld 70], .ag none, .go [.ld 70, .ld 70, .ld 70, .al, .al], .hd, .rt, .go [.ld 74], .rt]
noncomputable def hIt : List Hm := [.go [.ld 70, .ld 70], .cl none, .go [.ld 70], .ag none, .rt, .go [.ld 70]]
section
variable {D : Nat} {w : World} {h0 : Heap} {L0 : List (Addr × Obj)} {g : Array GenState} {d : Drawn} {os : OsState} {R : Result → Shared → Prop} {x : Lx} {c1 c2 c3 c4 c5 : Option Value} {C : Code} {Z : Nat}
theorem comp_ind (n : Nat) (a st : Int) (P : Nat → Array Value → Prop)
    (T : ∀ (i : Nat) xs e o tk h A, i < n → P i xs → Bd D A → Sg L0 h0 (LX x w c1 c2 c3 c4 c5 (rgItO (a + st * i) (((n - i - 1 : Nat) : Int) + 1) st) (seqObj "list" xs e) (jD w o)) Z h →
      (∀ h' A' e' xs' tk' o', Bd D A' → P (i + 1) xs' → tk ≤ tk' → Sg L0 h0 (LX x w c1 c2 c3 c4 c5 (rgItO (a + st * i + st) ((n - i - 1 : Nat) : Int) st) (seqObj "list" xs' e') (jD w (some o'))) Z h' → codeAny (model PG w) A' C R ⟨h', g, d, tk', os⟩) → codeAny (model PG w) A C R ⟨h, g, d, tk, os⟩)
    (F : ∀ xs e o tk h A, P n xs → Bd D A → (0 < n → ∃ o', o = some o') → Sg L0 h0 (LX x w c1 c2 c3 c4 c5 (rgItO (a + st * n) ((0 : Nat) : Int) st) (seqObj "list" xs e) (jD w o)) Z h → codeAny (model PG w) A C R ⟨h, g, d, tk, os⟩) :
    ∀ (m i : Nat) xs e o tk h A, i + m = n → (0 < i → ∃ o', o = some o') → P i xs → Bd D A → Sg L0 h0 (LX x w c1 c2 c3 c4 c5 (rgItO (a + st * i) ((m : Nat) : Int) st) (seqObj "list" xs e) (jD w o)) Z h → codeAny (model PG w) A C R ⟨h, g, d, tk, os⟩
  | 0, i, xs, e, o, tk, h, A, hm, ho, hP, hA, S => by
    have : i = n := by omega
    subst this
    exact F xs e o tk h A hP hA ho S
  | m + 1, i, xs, e, o, tk, h, A, hm, ho, hP, hA, S => by
    have e1 : ((m + 1 : Nat) : Int) = ((n - i - 1 : Nat) : Int) + 1 := by omega
    have e3 : a + st * i + st = a + st * ((i + 1 : Nat) : Int) := by rw [Int.natCast_succ, Int.mul_add, Int.mul_one, Int.add_assoc]
    have e4 : n - i - 1 = m := by omega
    rw [e1] at S
    refine T i xs e o tk h A (by omega) hP hA S fun h' A' e' xs' tk' o' hA' hP' le S' => ?_
    rw [e3, e4] at S'
    exact comp_ind n a st P T F m (i + 1) xs' e' (some o') tk' h' A' (by omega) (fun _ => ⟨o', rfl⟩) hP' hA' S'
end
theorem cs_m {w : World} : (∀ {D : Nat} {h0 h : Heap} {L0 : List (Addr × Obj)} {g : Array GenState} {d : Drawn} {tk : Nat} {os : OsState} {Z : Nat} {A : Around} {R : Result → Shared → Prop} {x : Lx} {c2 c3 c4 c5 : Option Value} {ao jo : Obj} {j st : Int} (hD : D ≤ 780) (hA : Bd D A) (S : Sg L0 h0 (LX x w (some (.ref x.sc)) c2 c3 c4 c5 (rgItO j ((0 : Nat) : Int) st) ao jo) Z h) (hR : ∀ h', Sg L0 h0 (LX x w (some (.ref x.sc)) c2 c3 c4 c5 (rgItO j ((0 : Nat) : Int) st) ao jo) (Z + 2) h' → R (.ok .next) ⟨h', g, d, tk, os⟩), codeAny (model PG w) A (lcC E0 (x.B + 1) (x.B + 2) (cEnv E0 x.N (x.B + 3) (cl0 x.N))) R ⟨h, g, d, tk, os⟩) ∧
    (∀ {D : Nat} {h0 h : Heap} {L0 : List (Addr × Obj)} {g : Array GenState} {d : Drawn} {tk : Nat} {os : OsState} {Z : Nat} {A : Around} {R : Result → Shared → Prop} {x : Lx} {c2 c3 c4 c5 : Option Value} {ao jo : Obj} {j l st : Int} (hD : D ≤ 780) (hA : Bd D A) (S : Sg L0 h0 (LX x w (some (.ref x.sc)) c2 c3 c4 c5 (rgItO j l st) ao jo) Z h) (hR : ∀ h', Sg L0 h0 (LX x w (some (.ref x.sc)) c2 c3 c4 c5 (rgItO j l st) ao jo) Z h' → codeAny (model PG w) A (lcC E0 (x.B + 1) (x.B + 2) (cEnv E0 x.N (x.B + 3) (cl0 x.N))) R ⟨h', g, d, tk, os⟩), codeAny (model PG w) A (scC E0 (x.B + 1) (x.B + 2) (cEnv E0 x.N (x.B + 3) (cl0 x.N))) R ⟨h, g, d, tk, os⟩) ∧
    (∀ {D : Nat} {h0 h : Heap} {L0 : List (Addr × Obj)} {g : Array GenState} {d : Drawn} {tk : Nat} {os : OsState} {Z : Nat} {A : Around} {R : Result → Shared → Prop} {x : Lx} {c1 c5 : Option Value} {f q n : Int} {tf tq tn : Tok} {ao jo : Obj} {j st : Int} (hD : D ≤ 780) (hA : Bd D A) (S : Sg L0 h0 (LX x w c1 (some (.int f tf)) (some (.int q tq)) (some (.int n tn)) c5 (rgItO j ((0 : Nat) : Int) st) ao jo) Z h) (hR : ∀ h', Sg L0 h0 (LX x w c1 (some (.int f tf)) (some (.int q tq)) (some (.int n tn)) c5 (rgItO j ((0 : Nat) : Int) st) ao jo) (Z + 2) h' → R (.ok .next) ⟨h', g, d, tk, os⟩), codeAny (model PG w) A (lcC E1 (x.B + 1) (x.B + 2) (cEnv E1 x.N (x.B + 3) (cl1 x.N))) R ⟨h, g, d, tk, os⟩) ∧
    (∀ {D : Nat} {h0 h : Heap} {L0 : List (Addr × Obj)} {g : Array GenState} {d : Drawn} {tk : Nat} {os : OsState} {Z : Nat} {A : Around} {R : Result → Shared → Prop} {x : Lx} {c1 c5 : Option Value} {f q n : Int} {tf tq tn : Tok} {ao jo : Obj} {j l st : Int} (hD : D ≤ 780) (hA : Bd D A) (S : Sg L0 h0 (LX x w c1 (some (.int f tf)) (some (.int q tq)) (some (.int n tn)) c5 (rgItO j l st) ao jo) Z h) (hR : ∀ h', Sg L0 h0 (LX x w c1 (some (.int f tf)) (some (.int q tq)) (some (.int n tn)) c5 (rgItO j l st) ao jo) Z h' → codeAny (model PG w) A (lcC E1 (x.B + 1) (x.B + 2) (cEnv E1 x.N (x.B + 3) (cl1 x.N))) R ⟨h', g, d, tk, os⟩), codeAny (model PG w) A (scC E1 (x.B + 1) (x.B + 2) (cEnv E1 x.N (x.B + 3) (cl1 x.N))) R ⟨h, g, d, tk, os⟩) ∧
    (∀ {D : Nat} {h0 h : Heap} {L0 : List (Addr × Obj)} {g : Array GenState} {d : Drawn} {tk : Nat} {os : OsState} {Z : Nat} {A : Around} {R : Result → Shared → Prop} {x : Lx} {c1 c2 c5 : Option Value} {q n : Int} {tq tn : Tok} {ao jo : Obj} {j st : Int} (hD : D ≤ 780) (hA : Bd D A) (S : Sg L0 h0 (LX x w c1 c2 (some (.int q tq)) (some (.int n tn)) c5 (rgItO j ((0 : Nat) : Int) st) ao jo) Z h) (hR : ∀ h', Sg L0 h0 (LX x w c1 c2 (some (.int q tq)) (some (.int n tn)) c5 (rgItO j ((0 : Nat) : Int) st) ao jo) (Z + 2) h' → R (.ok .next) ⟨h', g, d, tk, os⟩), codeAny (model PG w) A (lcC E2 (x.B + 1) (x.B + 2) (cEnv E2 x.N (x.B + 3) (cl2 x.N))) R ⟨h, g, d, tk, os⟩) ∧
    (∀ {D : Nat} {h0 h : Heap} {L0 : List (Addr × Obj)} {g : Array GenState} {d : Drawn} {tk : Nat} {os : OsState} {Z : Nat} {A : Around} {R : Result → Shared → Prop} {x : Lx} {c1 c2 c5 : Option Value} {q n : Int} {tq tn : Tok} {ao jo : Obj} {j l st : Int} (hD : D ≤ 780) (hA : Bd D A) (S : Sg L0 h0 (LX x w c1 c2 (some (.int q tq)) (some (.int n tn)) c5 (rgItO j l st) ao jo) Z h) (hR : ∀ h', Sg L0 h0 (LX x w c1 c2 (some (.int q tq)) (some (.int n tn)) c5 (rgItO j l st) ao jo) Z h' → codeAny (model PG w) A (lcC E2 (x.B + 1) (x.B + 2) (cEnv E2 x.N (x.B + 3) (cl2 x.N))) R ⟨h', g, d, tk, os⟩), codeAny (model PG w) A (scC E2 (x.B + 1) (x.B + 2) (cEnv E2 x.N (x.B + 3) (cl2 x.N))) R ⟨h, g, d, tk, os⟩) ∧
    (∀ {D : Nat} {h0 h : Heap} {L0 : List (Addr × Obj)} {g : Array GenState} {d : Drawn} {tk : Nat} {os : OsState} {Z : Nat} {A : Around} {R : Result → Shared → Prop} {x : Lx} {c1 c2 c3 : Option Value} {s n : Int} {ts tn : Tok} {ao jo : Obj} {j st : Int} (hD : D ≤ 780) (hA : Bd D A) (S : Sg L0 h0 (LX x w c1 c2 c3 (some (.int n tn)) (some (.int s ts)) (rgItO j ((0 : Nat) : Int) st) ao jo) Z h) (hR : ∀ h', Sg L0 h0 (LX x w c1 c2 c3 (some (.int n tn)) (some (.int s ts)) (rgItO j ((0 : Nat) : Int) st) ao jo) (Z + 2) h' → R (.ok .next) ⟨h', g, d, tk, os⟩), codeAny (model PG w) A (lcC E3 (x.B + 1) (x.B + 2) (cEnv E3 x.N (x.B + 3) (cl3 x.N))) R ⟨h, g, d, tk, os⟩) ∧
    (∀ {D : Nat} {h0 h : Heap} {L0 : List (Addr × Obj)} {g : Array GenState} {d : Drawn} {tk : Nat} {os : OsState} {Z : Nat} {A : Around} {R : Result → Shared → Prop} {x : Lx} {c1 c2 c3 : Option Value} {s n : Int} {ts tn : Tok} {ao jo : Obj} {j l st : Int} (hD : D ≤ 780) (hA : Bd D A) (S : Sg L0 h0 (LX x w c1 c2 c3 (some (.int n tn)) (some (.int s ts)) (rgItO j l st) ao jo) Z h) (hR : ∀ h', Sg L0 h0 (LX x w c1 c2 c3 (some (.int n tn)) (some (.int s ts)) (rgItO j l st) ao jo) Z h' → codeAny (model PG w) A (lcC E3 (x.B + 1) (x.B + 2) (cEnv E3 x.N (x.B + 3) (cl3 x.N))) R ⟨h', g, d, tk, os⟩), codeAny (model PG w) A (scC E3 (x.B + 1) (x.B + 2) (cEnv E3 x.N (x.B + 3) (cl3 x.N))) R ⟨h, g, d, tk, os⟩) := by
  refine ⟨?_, ?_, ?_, ?_, ?_, ?_, ?_, ?_⟩
  · intro D h0 h L0 g d tk os Z A R x c2 c3 c4 c5 ao jo j st hD hA S hR
    obtain ⟨t114, t37, sc, so, N, fr, rg, it, B, rgo⟩ := x
    refine opCode none (denF (lcC E0 (B + 1) (B + 2) (cEnv E0 N (B + 3) (cl0 N)))) 0 [] hD hA S (by kernel_rfl) fun A1 a1 W hW => ?_
    exact opX hW hD a1 S 0 hEnd (List.range 73) [] (.ok .next) _ (Z + 2) tk (fun b => by cases b <;> kernel_rfl) (by decide) .nil hR
  · intro D h0 h L0 g d tk os Z A R x c2 c3 c4 c5 ao jo j l st hD hA S hR
    refine codeAny_compStart_list (hR h S) ?_
    obtain ⟨t114, t37, sc, so, N, fr, rg, it, B, rgo⟩ := x
    refine opTop (D := D) fun W hW => ?_
    exact opX hW hD hA S 0 hIt (List.range 73) [] (.ref (B + 1)) _ Z tk (fun b => by cases b <;> kernel_rfl) (by decide) .nil hR
  · intro D h0 h L0 g d tk os Z A R x c1 c5 f q n tf tq tn ao jo j st hD hA S hR
    obtain ⟨t114, t37, sc, so, N, fr, rg, it, B, rgo⟩ := x
    refine opCode none (denF (lcC E1 (B + 1) (B + 2) (cEnv E1 N (B + 3) (cl1 N)))) 0 [] hD hA S (by kernel_rfl) fun A1 a1 W hW => ?_
    exact opX hW hD a1 S 0 hEnd (List.range 73) [] (.ok .next) _ (Z + 2) tk (fun b => by cases b <;> kernel_rfl) (by decide) .nil hR
  · intro D h0 h L0 g d tk os Z A R x c1 c5 f q n tf tq tn ao jo j l st hD hA S hR
    refine codeAny_compStart_list (hR h S) ?_
    obtain ⟨t114, t37, sc, so, N, fr, rg, it, B, rgo⟩ := x
    refine opTop (D := D) fun W hW => ?_
    exact opX hW hD hA S 0 hIt (List.range 73) [] (.ref (B + 1)) _ Z tk (fun b => by cases b <;> kernel_rfl) (by decide) .nil hR
  · intro D h0 h L0 g d tk os Z A R x c1 c2 c5 q n tq tn ao jo j st hD hA S hR
    obtain ⟨t114, t37, sc, so, N, fr, rg, it, B, rgo⟩ := x
    refine opCode none (denF (lcC E2 (B + 1) (B + 2) (cEnv E2 N (B + 3) (cl2 N)))) 0 [] hD hA S (by kernel_rfl) fun A1 a1 W hW => ?_
    exact opX hW hD a1 S 0 hEnd (List.range 73) [] (.ok .next) _ (Z + 2) tk (fun b => by cases b <;> kernel_rfl) (by decide) .nil hR
  · intro D h0 h L0 g d tk os Z A R x c1 c2 c5 q n tq tn ao jo j l st hD hA S hR
    refine codeAny_compStart_list (hR h S) ?_
    obtain ⟨t114, t37, sc, so, N, fr, rg, it, B, rgo⟩ := x
    refine opTop (D := D) fun W hW => ?_
    exact opX hW hD hA S 0 hIt (List.range 73) [] (.ref (B + 1)) _ Z tk (fun b => by cases b <;> kernel_rfl) (by decide) .nil hR
  · intro D h0 h L0 g d tk os Z A R x c1 c2 c3 s n ts tn ao jo j st hD hA S hR
    obtain ⟨t114, t37, sc, so, N, fr, rg, it, B, rgo⟩ := x
    refine opCode none (denF (lcC E3 (B + 1) (B + 2) (cEnv E3 N (B + 3) (cl3 N)))) 0 [] hD hA S (by kernel_rfl) fun A1 a1 W hW => ?_
    exact opX hW hD a1 S 0 hEnd (List.range 73) [] (.ok .next) _ (Z + 2) tk (fun b => by cases b <;> kernel_rfl) (by decide) .nil hR
  · intro D h0 h L0 g d tk os Z A R x c1 c2 c3 s n ts tn ao jo j l st hD hA S hR
    refine codeAny_compStart_list (hR h S) ?_
    obtain ⟨t114, t37, sc, so, N, fr, rg, it, B, rgo⟩ := x
    refine opTop (D := D) fun W hW => ?_
    exact opX hW hD hA S 0 hIt (List.range 73) [] (.ref (B + 1)) _ Z tk (fun b => by cases b <;> kernel_rfl) (by decide) .nil hR
theorem ce0 {D : Nat} {w : World} {h0 h : Heap} {L0 : List (Addr × Obj)} {g : Array GenState} {d : Drawn} {tk : Nat} {os : OsState} {Z : Nat} {A : Around} {R : Result → Shared → Prop} {x : Lx} {c2 c3 c4 c5 : Option Value} {ao jo : Obj} {j st : Int}
    (hD : D ≤ 780) (hA : Bd D A) (S : Sg L0 h0 (LX x w (some (.ref x.sc)) c2 c3 c4 c5 (rgItO j ((0 : Nat) : Int) st) ao jo) Z h)
    (hR : ∀ h', Sg L0 h0 (LX x w (some (.ref x.sc)) c2 c3 c4 c5 (rgItO j ((0 : Nat) : Int) st) ao jo) (Z + 2) h' → R (.ok .next) ⟨h', g, d, tk, os⟩) :
    codeAny (model PG w) A (lcC E0 (x.B + 1) (x.B + 2) (cEnv E0 x.N (x.B + 3) (cl0 x.N))) R ⟨h, g, d, tk, os⟩ := @(cs_m (w := w)).1 D h0 h L0 g d tk os Z A R x c2 c3 c4 c5 ao jo j st hD hA S hR
theorem cs0 {D : Nat} {w : World} {h0 h : Heap} {L0 : List (Addr × Obj)} {g : Array GenState} {d : Drawn} {tk : Nat} {os : OsState} {Z : Nat} {A : Around} {R : Result → Shared → Prop} {x : Lx} {c2 c3 c4 c5 : Option Value} {ao jo : Obj} {j l st : Int}
    (hD : D ≤ 780) (hA : Bd D A) (S : Sg L0 h0 (LX x w (some (.ref x.sc)) c2 c3 c4 c5 (rgItO j l st) ao jo) Z h)
    (hR : ∀ h', Sg L0 h0 (LX x w (some (.ref x.sc)) c2 c3 c4 c5 (rgItO j l st) ao jo) Z h' → codeAny (model PG w) A (lcC E0 (x.B + 1) (x.B + 2) (cEnv E0 x.N (x.B + 3) (cl0 x.N))) R ⟨h', g, d, tk, os⟩) :
    codeAny (model PG w) A (scC E0 (x.B + 1) (x.B + 2) (cEnv E0 x.N (x.B + 3) (cl0 x.N))) R ⟨h, g, d, tk, os⟩ := @(cs_m (w := w)).2.1 D h0 h L0 g d tk os Z A R x c2 c3 c4 c5 ao jo j l st hD hA S hR
theorem ce1 {D : Nat} {w : World} {h0 h : Heap} {L0 : List (Addr × Obj)} {g : Array GenState} {d : Drawn} {tk : Nat} {os : OsState} {Z : Nat} {A : Around} {R : Result → Shared → Prop} {x : Lx} {c1 c5 : Option Value} {f q n : Int} {tf tq tn : Tok} {ao jo : Obj} {j st : Int}
    (hD : D ≤ 780) (hA : Bd D A) (S : Sg L0 h0 (LX x w c1 (some (.int f tf)) (some (.int q tq)) (some (.int n tn)) c5 (rgItO j ((0 : Nat) : Int) st) ao jo) Z h)
    (hR : ∀ h', Sg L0 h0 (LX x w c1 (some (.int f tf)) (some (.int q tq)) (some (.int n tn)) c5 (rgItO j ((0 : Nat) : Int) st) ao jo) (Z + 2) h' → R (.ok .next) ⟨h', g, d, tk, os⟩) :
    codeAny (model PG w) A (lcC E1 (x.B + 1) (x.B + 2) (cEnv E1 x.N (x.B + 3) (cl1 x.N))) R ⟨h, g, d, tk, os⟩ := @(cs_m (w := w)).2.2.1 D h0 h L0 g d tk os Z A R x c1 c5 f q n tf tq tn ao jo j st hD hA S hR
theorem cs1 {D : Nat} {w : World} {h0 h : Heap} {L0 : List (Addr × Obj)} {g : Array GenState} {d : Drawn} {tk : Nat} {os : OsState} {Z : Nat} {A : Around} {R : Result → Shared → Prop} {x : Lx} {c1 c5 : Option Value} {f q n : Int} {tf tq tn : Tok} {ao jo : Obj} {j l st : Int}
    (hD : D ≤ 780) (hA : Bd D A) (S : Sg L0 h0 (LX x w c1 (some (.int f tf)) (some (.int q tq)) (some (.int n tn)) c5 (rgItO j l st) ao jo) Z h)
    (hR : ∀ h', Sg L0 h0 (LX x w c1 (some (.int f tf)) (some (.int q tq)) (some (.int n tn)) c5 (rgItO j l st) ao jo) Z h' → codeAny (model PG w) A (lcC E1 (x.B + 1) (x.B + 2) (cEnv E1 x.N (x.B + 3) (cl1 x.N))) R ⟨h', g, d, tk, os⟩) :
    codeAny (model PG w) A (scC E1 (x.B + 1) (x.B + 2) (cEnv E1 x.N (x.B + 3) (cl1 x.N))) R ⟨h, g, d, tk, os⟩ := @(cs_m (w := w)).2.2.2.1 D h0 h L0 g d tk os Z A R x c1 c5 f q n tf tq tn ao jo j l st hD hA S hR
theorem ce2 {D : Nat} {w : World} {h0 h : Heap} {L0 : List (Addr × Obj)} {g : Array GenState} {d : Drawn} {tk : Nat} {os : OsState} {Z : Nat} {A : Around} {R : Result → Shared → Prop} {x : Lx} {c1 c2 c5 : Option Value} {q n : Int} {tq tn : Tok} {ao jo : Obj} {j st : Int}
    (hD : D ≤ 780) (hA : Bd D A) (S : Sg L0 h0 (LX x w c1 c2 (some (.int q tq)) (some (.int n tn)) c5 (rgItO j ((0 : Nat) : Int) st) ao jo) Z h)
    (hR : ∀ h', Sg L0 h0 (LX x w c1 c2 (some (.int q tq)) (some (.int n tn)) c5 (rgItO j ((0 : Nat) : Int) st) ao jo) (Z + 2) h' → R (.ok .next) ⟨h', g, d, tk, os⟩) :
    codeAny (model PG w) A (lcC E2 (x.B + 1) (x.B + 2) (cEnv E2 x.N (x.B + 3) (cl2 x.N))) R ⟨h, g, d, tk, os⟩ := @(cs_m (w := w)).2.2.2.2.1 D h0 h L0 g d tk os Z A R x c1 c2 c5 q n tq tn ao jo j st hD hA S hR
theorem cs2 {D : Nat} {w : World} {h0 h : Heap} {L0 : List (Addr × Obj)} {g : Array GenState} {d : Drawn} {tk : Nat} {os : OsState} {Z : Nat} {A : Around} {R : Result → Shared → Prop} {x : Lx} {c1 c2 c5 : Option Value} {q n : Int} {tq tn : Tok} {ao jo : Obj} {j l st : Int}
    (hD : D ≤ 780) (hA : Bd D A) (S : Sg L0 h0 (LX x w c1 c2 (some (.int q tq)) (some (.int n tn)) c5 (rgItO j l st) ao jo) Z h)
    (hR : ∀ h', Sg L0 h0 (LX x w c1 c2 (some (.int q tq)) (some (.int n tn)) c5 (rgItO j l st) ao jo) Z h' → codeAny (model PG w) A (lcC E2 (x.B + 1) (x.B + 2) (cEnv E2 x.N (x.B + 3) (cl2 x.N))) R ⟨h', g, d, tk, os⟩) :
    codeAny (model PG w) A (scC E2 (x.B + 1) (x.B + 2) (cEnv E2 x.N (x.B + 3) (cl2 x.N))) R ⟨h, g, d, tk, os⟩ := @(cs_m (w := w)).2.2.2.2.2.1 D h0 h L0 g d tk os Z A R x c1 c2 c5 q n tq tn ao jo j l st hD hA S hR
theorem ce3 {D : Nat} {w : World} {h0 h : Heap} {L0 : List (Addr × Obj)} {g : Array GenState} {d : Drawn} {tk : Nat} {os : OsState} {Z : Nat} {A : Around} {R : Result → Shared → Prop} {x : Lx} {c1 c2 c3 : Option Value} {s n : Int} {ts tn : Tok} {ao jo : Obj} {j st : Int}
    (hD : D ≤ 780) (hA : Bd D A) (S : Sg L0 h0 (LX x w c1 c2 c3 (some (.int n tn)) (some (.int s ts)) (rgItO j ((0 : Nat) : Int) st) ao jo) Z h)
    (hR : ∀ h', Sg L0 h0 (LX x w c1 c2 c3 (some (.int n tn)) (some (.int s ts)) (rgItO j ((0 : Nat) : Int) st) ao jo) (Z + 2) h' → R (.ok .next) ⟨h', g, d, tk, os⟩) :
    codeAny (model PG w) A (lcC E3 (x.B + 1) (x.B + 2) (cEnv E3 x.N (x.B + 3) (cl3 x.N))) R ⟨h, g, d, tk, os⟩ := @(cs_m (w := w)).2.2.2.2.2.2.1 D h0 h L0 g d tk os Z A R x c1 c2 c3 s n ts tn ao jo j st hD hA S hR
theorem cs3 {D : Nat} {w : World} {h0 h : Heap} {L0 : List (Addr × Obj)} {g : Array GenState} {d : Drawn} {tk : Nat} {os : OsState} {Z : Nat} {A : Around} {R : Result → Shared → Prop} {x : Lx} {c1 c2 c3 : Option Value} {s n : Int} {ts tn : Tok} {ao jo : Obj} {j l st : Int}
    (hD : D ≤ 780) (hA : Bd D A) (S : Sg L0 h0 (LX x w c1 c2 c3 (some (.int n tn)) (some (.int s ts)) (rgItO j l st) ao jo) Z h)
    (hR : ∀ h', Sg L0 h0 (LX x w c1 c2 c3 (some (.int n tn)) (some (.int s ts)) (rgItO j l st) ao jo) Z h' → codeAny (model PG w) A (lcC E3 (x.B + 1) (x.B + 2) (cEnv E3 x.N (x.B + 3) (cl3 x.N))) R ⟨h', g, d, tk, os⟩) :
    codeAny (model PG w) A (scC E3 (x.B + 1) (x.B + 2) (cEnv E3 x.N (x.B + 3) (cl3 x.N))) R ⟨h, g, d, tk, os⟩ := @(cs_m (w := w)).2.2.2.2.2.2.2 D h0 h L0 g d tk os Z A R x c1 c2 c3 s n ts tn ao jo j l st hD hA S hR
end Mine
end
section
namespace Mine
set_option maxHeartbeats 8000000
/-- the items that a comprehension has made, by places -/
noncomputable def Mk (f : Nat → Value → Prop) (i : Nat) (xs : Array Value) : Prop := xs.size = i ∧ ∀ j v, xs[j]? = some v → f j v
theorem Mk.push {f : Nat → Value → Prop} {i : Nat} {xs : Array Value} {v : Value} (h : Mk f i xs) (hv : f i v) : Mk f (i + 1) (xs.push v) := by
  refine ⟨by rw [Array.size_push, h.1], fun j u hu => ?_⟩
  rw [Array.getElem?_push] at hu
  split at hu
  · rename_i e
    cases hu
    rw [e, h.1]
    exact hv
  · exact h.2 j u hu
theorem Mk.nil (f : Nat → Value → Prop) : Mk f 0 #[] := ⟨rfl, fun j v h => by simp at h⟩
theorem mul_ok {i : Nat} (h : i < 64) (q : Int) : IntMulOk (0 + 1 * (i : Int)) q := .of_left (by
  have e : (0 + 1 * (i : Int)) = i := by omega
  rw [e]
  exact intBits_le_64 (by omega) (by omega))
noncomputable def txF (f q n : Int) (i : Nat) (v : Value) : Prop := ∃ t, v = .str (if decide ((((i : Nat) : Int) * q).fmod n < f) then sA else sLt) t
noncomputable def stF (s n : Int) (i : Nat) (v : Value) : Prop := ∃ t, v = .int ((((i : Nat) : Int) * s).fmod n) t
section
variable {D : Nat} {w : World} {h0 h : Heap} {L0 : List (Addr × Obj)} {g : Array GenState} {d : Drawn} {tk : Nat} {os : OsState} {Z : Nat} {A : Around} {R : Result → Shared → Prop} {x : Lx}
theorem lp1 {c1 c5 : Option Value} {f q : Int} {n : Nat} {tf tq tn : Tok} (hD : D ≤ 780) (hA : Bd D A) (hn : 0 < n) (h64 : n < 64)
    (S : Sg L0 h0 (LX x w c1 (some (.int f tf)) (some (.int q tq)) (some (.int n tn)) c5 (rgItO 0 n 1) (seqObj "list" #[] 0) (jD w none)) Z h)
    (hR : ∀ h' tk' io xs e o, Mk (txF f q n) n xs → Sg L0 h0 (LX x w c1 (some (.int f tf)) (some (.int q tq)) (some (.int n tn)) c5 io (seqObj "list" xs e) (jD w (some o))) (Z + 2) h' → R (.ok .next) ⟨h', g, d, tk', os⟩) :
    codeAny (model PG w) A (scC E1 (x.B + 1) (x.B + 2) (cEnv E1 x.N (x.B + 3) (cl1 x.N))) R ⟨h, g, d, tk, os⟩ := by
  have h0n : ((n : Int) == 0) = false := by rw [beq_eq_false_iff_ne]; omega
  refine cs1 hD hA S fun h1 S1 => ?_
  refine comp_ind (D := D) n 0 1 (Mk (txF f q n)) (fun i xs e o tk h A hi hP hA S hR => ?_) (fun xs e o tk h A hP hA ho S => ?_) n 0 #[] 0 none tk h1 A (by omega) (fun h => absurd h (Nat.lt_irrefl _)) (Mk.nil _) hA (by simpa using S1)
  · refine ct1 (q := q) (n := n) hD hA (by have := hP.1; omega) S (mul_ok (by omega) q) h0n rfl fun h' A' e' hA' S' => hR h' A' e' _ _ _ hA' (hP.push ⟨tk + 4, by rw [show (0 + 1 * (i : Int)) = i by omega]⟩) (Nat.le_add_right ..) S'
  · obtain ⟨o', rfl⟩ := ho hn
    exact ce1 hD hA S fun h' S' => hR h' tk _ xs e o' hP S'
theorem lp3 {c1 c2 c3 : Option Value} {s : Int} {n : Nat} {tn ts : Tok} (hD : D ≤ 780) (hA : Bd D A) (hn : 0 < n) (h64 : n < 64)
    (S : Sg L0 h0 (LX x w c1 c2 c3 (some (.int n tn)) (some (.int s ts)) (rgItO 0 n 1) (seqObj "list" #[] 0) (jD w none)) Z h)
    (hR : ∀ h' tk' io xs e o, Mk (stF s n) n xs → Sg L0 h0 (LX x w c1 c2 c3 (some (.int n tn)) (some (.int s ts)) io (seqObj "list" xs e) (jD w (some o))) (Z + 2) h' → R (.ok .next) ⟨h', g, d, tk', os⟩) :
    codeAny (model PG w) A (scC E3 (x.B + 1) (x.B + 2) (cEnv E3 x.N (x.B + 3) (cl3 x.N))) R ⟨h, g, d, tk, os⟩ := by
  have h0n : ((n : Int) == 0) = false := by rw [beq_eq_false_iff_ne]; omega
  refine cs3 hD hA S fun h1 S1 => ?_
  refine comp_ind (D := D) n 0 1 (Mk (stF s n)) (fun i xs e o tk h A hi hP hA S hR => ?_) (fun xs e o tk h A hP hA ho S => ?_) n 0 #[] 0 none tk h1 A (by omega) (fun h => absurd h (Nat.lt_irrefl _)) (Mk.nil _) hA (by simpa using S1)
  · refine ct3 (s := s) (n := n) hD hA (by have := hP.1; omega) S (mul_ok (by omega) s) h0n fun h' A' e' hA' S' => hR h' A' e' _ _ _ hA' (hP.push ⟨tk + 3, by rw [show (0 + 1 * (i : Int)) = i by omega]⟩) (Nat.le_add_right ..) S'
  · obtain ⟨o', rfl⟩ := ho hn
    exact ce3 hD hA S fun h' S' => hR h' tk _ xs e o' hP S'
/-- the places that pass the test, so far -/
noncomputable def Sel (q n : Int) (i : Nat) (xs : Array Value) : Prop := ∃ ps : List Nat, ps = (List.range i).filter (fun j => (((j : Nat) : Int) * q).fmod n == 1) ∧ xs.size = ps.length ∧ ∀ (j : Nat) (v : Value), xs[j]? = some v → ∃ t, v = .int ((ps.getD j 0 : Nat) : Int) t
theorem lp2 {c1 c2 c5 : Option Value} {q : Int} {n : Nat} {tq tn : Tok} (hD : D ≤ 780) (hA : Bd D A) (hn : 0 < n) (h64 : n < 64)
    (S : Sg L0 h0 (LX x w c1 c2 (some (.int q tq)) (some (.int n tn)) c5 (rgItO 0 n 1) (seqObj "list" #[] 0) (jD w none)) Z h)
    (hR : ∀ h' tk' io xs e o, Sel q n n xs → Sg L0 h0 (LX x w c1 c2 (some (.int q tq)) (some (.int n tn)) c5 io (seqObj "list" xs e) (jD w (some o))) (Z + 2) h' → R (.ok .next) ⟨h', g, d, tk', os⟩) :
    codeAny (model PG w) A (scC E2 (x.B + 1) (x.B + 2) (cEnv E2 x.N (x.B + 3) (cl2 x.N))) R ⟨h, g, d, tk, os⟩ := by
  have h0n : ((n : Int) == 0) = false := by rw [beq_eq_false_iff_ne]; omega
  refine cs2 hD hA S fun h1 S1 => ?_
  refine comp_ind (D := D) n 0 1 (fun i xs => Sel q n i xs ∧ xs.size ≤ i) (fun i xs e o tk h A hi hP hA S hR => ?_) (fun xs e o tk h A hP hA ho S => ?_) n 0 #[] 0 none tk h1 A (by omega) (fun h => absurd h (Nat.lt_irrefl _)) ⟨⟨[], rfl, rfl, fun j v h => by simp at h⟩, Nat.le_refl _⟩ hA (by simpa using S1)
  · obtain ⟨⟨ps, e1, e2, e3⟩, hz⟩ := hP
    refine ct2 (q := q) (n := n) hD hA (by omega) S (mul_ok (by omega) q) h0n rfl fun h' A' e' hA' S' => hR h' A' e' _ _ _ hA' ?_ (Nat.le_add_right ..) S'
    rw [show (0 + 1 * (i : Int)) = i by omega]
    cases hb : (((i : Nat) : Int) * q).fmod n == 1 with
    | true =>
      rw [if_pos rfl]
      refine ⟨⟨ps ++ [i], ?_, ?_, fun j v hv => ?_⟩, by rw [Array.size_push]; omega⟩
      · rw [List.range_succ, List.filter_append, ← e1]
        simp [hb]
      · rw [Array.size_push, List.length_append, e2]; rfl
      · rw [Array.getElem?_push] at hv
        split at hv
        · rename_i hj
          cases hv
          refine ⟨tk, ?_⟩
          congr 1
          rw [hj, e2]
          simp
        · obtain ⟨t, ht⟩ := e3 j v hv
          refine ⟨t, ?_⟩
          have hj : j < ps.length := by
            have := (Array.getElem?_eq_some_iff.mp hv).1
            omega
          rw [ht]
          congr 2
          simp [List.getD, List.getElem?_append_left hj]
    | false =>
      rw [if_neg Bool.false_ne_true]
      refine ⟨⟨ps, ?_, e2, e3⟩, by omega⟩
      rw [List.range_succ, List.filter_append, ← e1]
      simp [hb]
  · obtain ⟨o', rfl⟩ := ho hn
    exact ce2 hD hA S fun h' S' => hR h' tk _ xs e o' hP.1 S'
end
end Mine
end
section
namespace Mine
set_option maxHeartbeats 8000000
/-- a code as it is called from a place -/
noncomputable def CallAt (M : Model) (A : Around) (c : Code) (R : Result → Shared → Prop) (s : Shared) : Prop := ∀ (Γ : Ctx) (p : Pos), Γ.In A → wpCode M (Γ.enter c none p) R p s
theorem CallAt.of_code {M : Model} {A : Around} {c : Code} {R : Result → Shared → Prop} {s : Shared} (h : codeAny M (A.mark none) c R s) : CallAt M A c R s := fun Γ p hΓ => h _ p rfl (hΓ.enter c none p (by intro z; cases z))
theorem CallAt.of_call {M : Model} {A : Around} {f : Value} {pos : List Value} {kw : List (Str × Value)} {R : Result → Shared → Prop} {s : Shared} (h : wpAny M A (call f pos kw) (fun v s' => R (.ok (.ret v)) s') (fun e s' => R (.error e) s') s) : CallAt M A (.call f ⟨pos, kw⟩) R s := fun Γ p hΓ => by
  have z := h Γ p hΓ
  have e : call f pos kw = .call (.call f ⟨pos, kw⟩) none false [] (fun r => (match r with | .ok (.ret v) => .pure v | .ok _ => .unsupported "internal:call-without-return-value" | .error e => .raise e : Sem Value)) := by
    show Sem.bind (run _) _ = _
    unfold run
    show Sem.call _ _ _ _ _ = _
    congr 1
    funext r
    cases r with
    | ok fl => cases fl <;> rfl
    | error e => rfl
  rw [e, Sem.wp_call] at z
  refine wpCode_mono (fun r s' q => ?_) z
  cases r with
  | ok fl =>
    cases fl with
    | ret v => exact q
    | _ => exact absurd q (by intro q; exact q)
  | error e => exact q
section
variable {α : Type} {prog : Program} {w : World} {Q : α → Shared → Prop} {E : Value → Shared → Prop}
theorem call_at' {β : Type} {A : Around} {Q : β → Shared → Prop} {E : Value → Shared → Prop} {t : Sem β} {c : Code} {k : Result → Sem β} {s : Shared} (e : callOf t = some (c, k)) (h : CallAt (model prog w) A c (fun r s' => wpAny (model prog w) A (k r) Q E s') s) : wpAny (model prog w) A t Q E s := by
  cases t with
  | call c' hd' g' l k' =>
    cases hd' with
    | none =>
      cases e
      intro Γ p hΓ
      rw [Sem.wp_call]
      exact wpCode_mono (fun _ _ q => q Γ p hΓ) (h Γ p hΓ)
    | some _ => cases e
  | _ => cases e
theorem WC_call' {D : Nat} {A : Around} {s : Shared} {cf : Cf α} {c : Code} (e : cfgCall ⟨prog, w.params⟩ cf = some c) (hA : Bd D A)
    (h : ∀ A' : Around, Bd (D + 60) A' → CallAt (model prog w) A' c (fun r s' => WC D (model prog w) A Q E (contCfg ⟨prog, w.params⟩ cf r) s') s) : WC D (model prog w) A Q E cf s := by
  cases cf with
  | top t =>
    obtain ⟨ck, h1, h2⟩ := Option.map_eq_some_iff.mp e
    obtain ⟨c', k⟩ := ck
    have h2' : c' = c := h2
    subst h2'
    have hc := h A (hA.mono (by omega))
    unfold contCfg at hc
    dsimp only at hc
    rw [h1] at hc
    exact x_skim 400 (call_at' h1 hc)
  | sub t dp dq ks k0 =>
    intro Ab At b1 b2
    unfold cfgCall at e
    dsimp only at e
    split at e
    · rename_i hq
      have hq' := Nat.ble_eq.mp hq
      obtain ⟨ck, h1, h2⟩ := Option.map_eq_some_iff.mp e
      obtain ⟨c', k⟩ := ck
      have h2' : c' = c := h2
      subst h2'
      have hc := h At (b2.mono (by omega))
      unfold contCfg at hc
      dsimp only at hc
      rw [h1] at hc
      refine x_skim 400 (call_at' h1 fun Γ p g1 => wpCode_mono (fun r s' q => ?_) (hc Γ p g1))
      exact q Ab At b1 b2
    · cases e
/-- up to a call, which is done outside as a call -/
theorem opK {D : Nat} {A : Around} {L0 L : List (Addr × Obj)} {h0 h : Heap} {g : Array GenState} {d : Drawn} {os : OsState} {N tk : Nat} {cf0 : Cf α} {cf : Bool → Cf α} (hcf : At w cf0 cf) (hD : D ≤ 780) (hA : Bd D A) (S : Sg L0 h0 L N h) (z : Nat) (xs : List Hm) (is : List Nat) (obs : List Ob) (c : Code) (L' : List (Addr × Obj)) (N' k : Nat)
    (e : ∀ b, ((fun r : List Ob × Bool × List (Addr × Obj) × Nat × Nat × Cf α => (r.1, r.2.1, Mine.pick r.2.2.1 is, r.2.2.2.1, r.2.2.2.2.1, cfgCall (gB prog w b) r.2.2.2.2.2)) (outC (runM (gB prog w b) z xs L N tk (cf b))), (runM (gB prog w b) z xs L N tk (cf b)).c1) = ((obs, true, L', N', k, some c), (runM (gB prog w b) z xs L N tk (cf b)).c2)) (nd : nodupB is = true) (hob : ObAll prog w obs)
    (hh : ∀ (W : Result → Cf α), (∀ r, At w (W r) (fun b => contCfg (gB prog w b) (runM (gB prog w b) z xs L N tk (cf b)).c r)) → ∀ h', Sg L0 h0 L' N' h' → ∀ A' : Around, Bd (D + 60) A' → CallAt (model prog w) A' c (fun r s' => WC D (model prog w) A Q E (W r) s') ⟨h', g, d, k, os⟩) : WC D (model prog w) A Q E cf0 ⟨h, g, d, tk, os⟩ := by
  have e2 := congrArg Prod.snd (e (wb w))
  have e := congrArg Prod.fst (e (wb w))
  dsimp only at e e2
  unfold At at hcf
  subst hcf
  have hh := hh (fun r => contCfg (gB prog w (wb w)) (runM (gB prog w (wb w)) z xs L N tk (cf (wb w))).c r) (fun _ => rfl)
  rw [gB_eq] at e e2 hh
  have a0 := congrArg Prod.fst e
  have a1 := congrArg (fun x => x.2.1) e
  have a2 := congrArg (fun x => x.2.2.1) e
  have a3 := congrArg (fun x => x.2.2.2.1) e
  have a4 := congrArg (fun x => x.2.2.2.2.1) e
  have a5 := congrArg (fun x => x.2.2.2.2.2) e
  dsimp only [outC] at a0 a1 a2 a3 a4 a5
  refine runM_sound hD hA xs L N tk _ h S (by rw [a0]; exact hob) a1 e2 fun h' b => ?_
  rw [a3] at b
  rw [a4]
  exact WC_call' a5 hA (hh h' (a2 ▸ b.pick (nodupB_nd nd)))
end
end Mine
end
section
namespace Mine
set_option maxHeartbeats 8000000
theorem rg_iter {w : World} {h0 h : Heap} {L0 L : List (Addr × Obj)} {g : Array GenState} {d : Drawn} {tk : Nat} {os : OsState} {Z i : Nat} {A : Around} {R : Result → Shared → Prop} {r : Addr} {a b c : Int} {t u v : Tok}
    (S : Sg L0 h0 L Z h) (hi : L[i]? = some (r, rgO a t b u c v)) (hs : Builtin.Range.small a b c = true) (hR : ∀ h', Sg L0 h0 (L ++ [(Z, rgItO a (Builtin.Range.rangeSize a b c) c)]) (Z + 1) h' → R (.ok (.ret (.ref Z))) ⟨h', g, d, tk, os⟩) :
    codeAny (model PG w) A (.call (.builtin "range.__iter__") ⟨[.ref r], []⟩) R ⟨h, g, d, tk, os⟩ := by
  have ho : h.get? r = some (rgO a t b u c v) := S.lg.get hi
  have hs2 := hs
  unfold Builtin.Range.small at hs2
  refine codeAny_call_builtin F.slot_range_iter.plain F.entry_range_iter (F.slot_range_iter.check _ _ _ _ _ _ _ _ ⟨_, ho, rfl⟩ (F.args_range_iter_1 _)
    (AutoRange.range___iter___range_1 r a b c t u v (by simp [hs2]) PG w A R _ ⟨ho, ?_⟩))
  simp only [hs2, if_true]
  have e := S.sz
  show R (.ok (.ret (.ref h.objs.size))) _
  rw [e]
  refine hR _ ⟨?_, by rw [← e]; exact size_push' .., fun b o q n => Heap.get?_push_of_some _ (S.kp b o q n), Nat.le_succ_of_le S.le, fun q hq => ?_⟩
  · have := S.lg.push (o := rgItO a (Builtin.Range.rangeSize a b c) c) rfl
    rw [e] at this
    exact this
  · rw [List.map_append, List.mem_append] at hq
    rcases hq with hq | hq
    · exact S.cv q hq
    · have : q = Z := by simpa using hq
      exact .inr (this ▸ S.le)
theorem sz1 : ∀ n : Nat, n < 64 → Builtin.Range.small 0 n 1 = true ∧ Builtin.Range.rangeSize 0 n 1 = (n : Int) := by decide +kernel
theorem sz2 : ∀ n : Nat, n < 64 → (Builtin.Range.small 0 n 2 = true ∧ Builtin.Range.rangeSize 0 n 2 = (((n + 1) / 2 : Nat) : Int)) ∧ (Builtin.Range.small 1 n 2 = true ∧ Builtin.Range.rangeSize 1 n 2 = ((n / 2 : Nat) : Int)) := by decide +kernel
/-- the script's item at a place -/
theorem oItem {w : World} {sc : Addr} {vs : List Value} {e : Nat} {j : Nat} {v : Value} (hj : vs[j]? = some v) (hl : j < 64) (J : Int) (hJ : J = j) (tk tk' : Nat) : ObOK PG w ⟨.call (.builtin "list.__getitem__") ⟨[.ref sc, .int J tk], []⟩, [(sc, scO vs e)], tk', v, 0⟩ := by
  have f1 : 0 ≤ J := by omega
  have f2 : J < 2 ^ 63 := by omega
  intro A R h g d os _ H hR
  have ho : h.get? sc = some (scO vs e) := H.at_ _ (.head _)
  replace hR : R (.ok (.ret v)) ⟨h, g, d, tk', os⟩ := hR
  refine codeAny_call_builtin slot_list_getitem.plain entry_list_getitem (slot_list_getitem.check _ _ _ _ _ _ _ _ ⟨_, ho, rfl⟩ (args_list_getitem _ _) ?_)
  show wpAny _ _ (Builtin.List.listSubscript? (.int J tk) >>= _) _ _ _
  refine wpAny_bind (wpAny_listSubscript_int (fitsIndex_of f1 f2) ?_)
  subst hJ
  show wpAny _ _ ((seqItemAt sc j >>= fun r => pure (r.map (j, ·))) >>= _) _ _ _
  refine wpAny_bind (wpAny_bind (wpAny_seqItemAt ho rfl (wpAny_pure ?_)))
  rw [show vs.toArray[j]? = some v by simpa using hj]
  first
    | exact wpAny_bind (wpAny_pure (wpAny_pure hR))
    | exact wpAny_pure hR
/-- what is summed: ints alone -/
noncomputable def AllI (xs : Array Value) : Prop := ∀ (j : Nat) (v : Value), xs[j]? = some v → ∃ i t, v = .int i t
theorem AllI.items {xs : Array Value} (h : AllI xs) : ∃ ys : Array (Int × Tok), xs = intItems ys := by
  refine ⟨xs.map fun v => match v with | .int i t => (i, t) | _ => (0, 0), ?_⟩
  apply Array.ext
  · simp [intItems]
  · intro i h1 h2
    obtain ⟨k, t, e⟩ := h i xs[i] (Array.getElem?_eq_getElem h1)
    simp [intItems, e]
section
variable {D : Nat} {w : World} {h0 h : Heap} {L0 : List (Addr × Obj)} {g : Array GenState} {d : Drawn} {tk : Nat} {os : OsState} {Z : Nat} {A : Around} {R : Result → Shared → Prop} {x : Lx}
theorem lp0 {c2 c3 c4 c5 : Option Value} {vs : List Value} {e0 : Nat} {a n : Nat} (hD : D ≤ 780) (hA : Bd D A) (hx : x.so = scO vs e0) (hl : vs.length < 64) (hn : ∀ i, i < n → a + 2 * i < vs.length) (hv : ∀ (j : Nat) (v : Value), vs[j]? = some v → ∃ i t, v = .int i t)
    (S : Sg L0 h0 (LX x w (some (.ref x.sc)) c2 c3 c4 c5 (rgItO a n 2) (seqObj "list" #[] 0) (jD w none)) Z h)
    (hR : ∀ h' tk' io xs e o, AllI xs → Sg L0 h0 (LX x w (some (.ref x.sc)) c2 c3 c4 c5 io (seqObj "list" xs e) (jD w o)) (Z + 2) h' → R (.ok .next) ⟨h', g, d, tk', os⟩) :
    codeAny (model PG w) A (scC E0 (x.B + 1) (x.B + 2) (cEnv E0 x.N (x.B + 3) (cl0 x.N))) R ⟨h, g, d, tk, os⟩ := by
  refine cs0 hD hA S fun h1 S1 => ?_
  refine comp_ind (D := D) n a 2 (fun i xs => AllI xs ∧ xs.size ≤ i) (fun i xs e o tk h A hi hP hA S hR => ?_) (fun xs e o tk h A hP hA ho S => ?_) n 0 #[] 0 none tk h1 A (by omega) (fun h => absurd h (Nat.lt_irrefl _)) ⟨fun j v h => by simp at h, Nat.le_refl _⟩ hA (by simpa using S1)
  · have hi' := hn i hi
    have hg : vs[a + 2 * i]? = some vs[a + 2 * i] := List.getElem?_eq_getElem hi'
    have hb : n ≤ 64 := by
      have := hn (n - 1) (by omega)
      omega
    refine ct0 (v := vs[a + 2 * i]) hD hA (by have := hP.2; omega) S (fun tk => ?_) ⟨vs, e0, hx⟩ fun h' A' e' hA' S' => hR h' A' e' _ _ _ hA' ⟨fun j v h => ?_, by rw [Array.size_push]; have := hP.2; omega⟩ (Nat.le_add_right ..) S'
    · rw [hx]
      exact oItem hg (by omega) _ (by push_cast; omega) tk (tk + 2)
    · rw [Array.getElem?_push] at h
      split at h
      · cases h
        exact hv _ _ hg
      · exact hP.1 j v h
  · exact ce0 hD hA S fun h' S' => hR h' tk _ xs e o hP.1 S'
end
end Mine
end
section
namespace Mine
set_option maxHeartbeats 8000000
noncomputable def lfr (w : World) (l : List (String × Tok × Value)) : Obj := frO (l.map fun x => en w x.1 x.2.1 x.2.2) l.length
noncomputable def stopO (Z : Nat) : Obj := ⟨.type "StopIteration", none, .fields #[.ref Z, .none, .none, .none, .bool false, .none], #[]⟩
theorem ce0s {D : Nat} {w : World} {h0 h : Heap} {L0 : List (Addr × Obj)} {g : Array GenState} {d : Drawn} {tk : Nat} {os : OsState} {Z : Nat} {A : Around} {R : Result → Shared → Prop} {x : Lx} {c2 c3 c4 c5 : Option Value} {ao jo : Obj} {j st : Int}
    (hD : D ≤ 780) (hA : Bd D A) (S : Sg L0 h0 (LX x w (some (.ref x.sc)) c2 c3 c4 c5 (rgItO j ((0 : Nat) : Int) st) ao jo) Z h)
    (hR : ∀ h', Sg L0 h0 (LX x w (some (.ref x.sc)) c2 c3 c4 c5 (rgItO j ((0 : Nat) : Int) st) ao jo ++ [(Z + 1, stopO Z)]) (Z + 2) h' → R (.ok .next) ⟨h', g, d, tk, os⟩) :
    codeAny (model PG w) A (lcC E0 (x.B + 1) (x.B + 2) (cEnv E0 x.N (x.B + 3) (cl0 x.N))) R ⟨h, g, d, tk, os⟩ := by
  obtain ⟨t114, t37, sc, so, N, fr, rg, it, B, rgo⟩ := x
  refine opCode none (denF (lcC E0 (B + 1) (B + 2) (cEnv E0 N (B + 3) (cl0 N)))) 0 [] hD hA S (by kernel_rfl) fun A1 a1 W hW => ?_
  exact opX hW hD a1 S 0 hEnd (List.range 73 ++ [74]) [] (.ok .next) _ (Z + 2) tk (fun b => by cases b <;> kernel_rfl) (by decide) .nil hR
section
variable {D : Nat} {w : World} {h0 h : Heap} {L0 : List (Addr × Obj)} {g : Array GenState} {d : Drawn} {tk : Nat} {os : OsState} {Z : Nat} {A : Around} {R : Result → Shared → Prop} {x : Lx}
theorem lp0s {c2 c3 c4 c5 : Option Value} {vs : List Value} {e0 : Nat} {a n : Nat} (hD : D ≤ 780) (hA : Bd D A) (hx : x.so = scO vs e0) (hl : vs.length < 64) (hn : ∀ i, i < n → a + 2 * i < vs.length) (hv : ∀ (j : Nat) (v : Value), vs[j]? = some v → ∃ i t, v = .int i t)
    (S : Sg L0 h0 (LX x w (some (.ref x.sc)) c2 c3 c4 c5 (rgItO a n 2) (seqObj "list" #[] 0) (jD w none)) Z h)
    (hR : ∀ h' tk' io xs e o, AllI xs → Sg L0 h0 (LX x w (some (.ref x.sc)) c2 c3 c4 c5 io (seqObj "list" xs e) (jD w o) ++ [(Z + 1, stopO Z)]) (Z + 2) h' → R (.ok .next) ⟨h', g, d, tk', os⟩) :
    codeAny (model PG w) A (scC E0 (x.B + 1) (x.B + 2) (cEnv E0 x.N (x.B + 3) (cl0 x.N))) R ⟨h, g, d, tk, os⟩ := by
  refine cs0 hD hA S fun h1 S1 => ?_
  refine comp_ind (D := D) n a 2 (fun i xs => AllI xs ∧ xs.size ≤ i) (fun i xs e o tk h A hi hP hA S hR => ?_) (fun xs e o tk h A hP hA ho S => ?_) n 0 #[] 0 none tk h1 A (by omega) (fun h => absurd h (Nat.lt_irrefl _)) ⟨fun j v h => by simp at h, Nat.le_refl _⟩ hA (by simpa using S1)
  · have hi' := hn i hi
    have hg : vs[a + 2 * i]? = some vs[a + 2 * i] := List.getElem?_eq_getElem hi'
    have hb : n ≤ 64 := by
      have := hn (n - 1) (by omega)
      omega
    refine ct0 (v := vs[a + 2 * i]) hD hA (by have := hP.2; omega) S (fun tk => ?_) ⟨vs, e0, hx⟩ fun h' A' e' hA' S' => hR h' A' e' _ _ _ hA' ⟨fun j v h => ?_, by rw [Array.size_push]; have := hP.2; omega⟩ (Nat.le_add_right ..) S'
    · rw [hx]
      exact oItem hg (by omega) _ (by push_cast; omega) tk (tk + 2)
    · rw [Array.getElem?_push] at h
      split at h
      · cases h
        exact hv _ _ hg
      · exact hP.1 j v h
  · exact ce0s hD hA S fun h' S' => hR h' tk _ xs e o hP.1 S'
end
noncomputable def hS00 : List Hm := [.go [.ld 3, .ld 4, .ld 3, .ld 4, .ld 61, .ld 3, .ld 4, .ld 62]]
noncomputable def hS01 : List Hm := [.go [.fr], .cl none, .ag none, .cl none, .ag none, .go [.al], .rt, .go [.ld 69, .ld 69], .cl none, .go [.ld 69], .ag none, .go [.ld 69], .rt, .rt, .go [.ld 69, .ld 69]]
noncomputable def hS02 : List Hm := [.go [.ld 70, .al, .al]]
noncomputable def hS03 (q : Bool) : List Hm := if q then [.go [.ld 72, .ld 72, .up 72]] else [.go [.ld 72]]
noncomputable def hS04 : List Hm := [.go [.fr, .ld 61, .up 61]]
theorem ints_list {xs : Array Value} {h : Heap} {a : Addr} {e : Nat} (ho : h.get? a = some (seqObj "list" xs e)) : h.IsList a xs := ⟨_, ho, rfl, e, rfl⟩
theorem st0_m {w : World} : (∀ {D : Nat} {h0 h : Heap} {L0 : List (Addr × Obj)} {g : Array GenState} {d : Drawn} {tk : Nat} {os : OsState} {Z N : Nat} {A : Around} {Q : Flow → Shared → Prop} {E : Value → Shared → Prop} {t114 t37 rg it : Obj} {sc : Addr} {vs : List Value} {e : Nat} {c2 c3 c4 c5 : Option Value} {kk kt : Tok} (hD : D ≤ 700) (hA : Bd D A) (hl : vs.length < 64) (hv : ∀ (j : Nat) (v : Value), vs[j]? = some v → ∃ i t, v = .int i t) (S : Sg L0 h0 (LD w t114 t37 sc (scO vs e) N (lfr w [("k", kk, .int 0 kt)]) (some (.ref sc)) c2 c3 c4 c5 rg it) Z h) (hQ : ∀ h' m tm km' tk' Z', Sg L0 h0 (LD w t114 t37 sc (scO vs e) N (lfr w [("k", kk, .int 0 kt), ("more", km', .int m tm)]) (some (.ref sc)) c2 c3 c4 c5 rg it) Z' h' → Q .next ⟨h', g, d, tk', os⟩), wpAny (model PG w) A (exec (stmtN 0) (lawEnv N)) Q E ⟨h, g, d, tk, os⟩) ∧
    (∀ {D : Nat} {h0 h : Heap} {L0 : List (Addr × Obj)} {g : Array GenState} {d : Drawn} {tk : Nat} {os : OsState} {Z N : Nat} {A : Around} {Q : Flow → Shared → Prop} {E : Value → Shared → Prop} {t114 t37 rg it : Obj} {sc : Addr} {vs : List Value} {e : Nat} {c2 c3 c4 c5 : Option Value} {kk kt : Tok} {m0 o0 s0 : Int} {tm0 to0 ts0 km ko ks kl tx0 : Tok} {x0 : Str} (hD : D ≤ 700) (hA : Bd D A) (hl : vs.length < 64) (hv : ∀ (j : Nat) (v : Value), vs[j]? = some v → ∃ i t, v = .int i t) (S : Sg L0 h0 (LD w t114 t37 sc (scO vs e) N (lfr w [("k", kk, .int 1 kt), ("more", km, .int m0 tm0), ("mode", ko, .int o0 to0), ("start", ks, .int s0 ts0), ("told", kl, .str x0 tx0)]) (some (.ref sc)) c2 c3 c4 c5 rg it) Z h) (hQ : ∀ h' m tm  tk' Z', Sg L0 h0 (LD w t114 t37 sc (scO vs e) N (lfr w [("k", kk, .int 1 kt), ("more", km, .int m tm), ("mode", ko, .int o0 to0), ("start", ks, .int s0 ts0), ("told", kl, .str x0 tx0)]) (some (.ref sc)) c2 c3 c4 c5 rg it) Z' h' → Q .next ⟨h', g, d, tk', os⟩), wpAny (model PG w) A (exec (stmtN 0) (lawEnv N)) Q E ⟨h, g, d, tk, os⟩) := by
  refine ⟨?_, ?_⟩
  · intro D h0 h L0 g d tk os Z N A Q E t114 t37 rg it sc vs e c2 c3 c4 c5 kk kt hD hA hl hv S hQ
    have hsz : vs.toArray.size = vs.length := List.size_toArray
    refine opTop (D := D) fun W hW => ?_
    refine opK hW (by first | exact dD hD rfl | exact dD0 hD rfl | omega) hA S 0 hS00 (List.range 69) [] (.call (.builtin "len") ⟨[.ref sc], []⟩) (LD w t114 t37 sc (scO vs e) N (lfr w [("k", kk, .int 0 kt)]) (some (.ref sc)) c2 c3 c4 c5 rg it) Z tk (fun b => by cases b <;> kernel_rfl) (by decide) .nil fun W1 hW1 h1 S1 A1 a1 => ?_
    refine CallAt.of_call (len_list (items := vs.toArray) (ints_list (e := e) (S1.lg.get (i := 60) (p := (sc, scO vs e)) rfl)) (by rw [hsz]; omega) ?_)
    rw [hsz]
    refine opK (hW1 _) (by first | exact dD hD rfl | exact dD0 hD rfl | omega) hA S1 0 hS01 (List.range 70) [] (.call (.builtin "range.__iter__") ⟨[.ref Z], []⟩) ((LD w t114 t37 sc (scO vs e) N (lfr w [("k", kk, .int 0 kt)]) (some (.ref sc)) c2 c3 c4 c5 rg it) ++ [(Z, rgO 0 kt vs.length (tk + 1) 2 (tk + 2))]) (Z + 1) (tk + 3) (fun b => by cases b <;> kernel_rfl) (by decide) .nil fun W2 hW2 h2 S2 A2 a2 => ?_
    refine CallAt.of_code (rg_iter S2 (i := 69) rfl (sz2 vs.length hl).1.1 fun h3 S3 => ?_)
    rw [(sz2 vs.length hl).1.2] at S3
    refine opM (hW2 _) (by first | exact dD hD rfl | exact dD0 hD rfl | omega) hA S3 0 hS02 (List.range 73) [] (scC E0 (Z + 1) (Z + 2) (cEnv E0 N (Z + 3) (cl0 N))) (LX ⟨t114, t37, sc, scO vs e, N, (lfr w [("k", kk, .int 0 kt)]), rg, it, Z, rgO 0 kt vs.length (tk + 1) 2 (tk + 2)⟩ w (some (.ref sc)) c2 c3 c4 c5 (rgItO 0 (((vs.length + 1) / 2) : Nat) 2) (seqObj "list" #[] 0) (jD w none)) (Z + 4) (tk + 3) (fun b => by cases b <;> kernel_rfl) (by decide) .nil fun W3 hW3 h4 S4 A3 a3 => ?_
    refine lp0s (D := D + 60) (x := ⟨t114, t37, sc, scO vs e, N, (lfr w [("k", kk, .int 0 kt)]), rg, it, Z, rgO 0 kt vs.length (tk + 1) 2 (tk + 2)⟩) (a := 0) (n := ((vs.length + 1) / 2)) (by first | exact dD hD rfl | exact dD0 hD rfl | omega) a3 rfl hl (fun i hi => by omega) hv S4 fun h5 tk2 io xs e2 o hI S5 => ?_
    obtain ⟨ys, rfl⟩ := hI.items
    cases o with
    | none =>
      refine opK (hW3 _) (by first | exact dD hD rfl | exact dD0 hD rfl | omega) hA S5 0 (hS03 false) (List.range 74) [] (.call (.builtin "sum") ⟨[.ref (Z + 2)], []⟩) (LX ⟨t114, t37, sc, scO vs e, N, (lfr w [("k", kk, .int 0 kt)]), rg, it, Z, rgO 0 kt vs.length (tk + 1) 2 (tk + 2)⟩ w (some (.ref sc)) c2 c3 c4 c5 io (seqObj "list" (intItems ys) e2) (jD w none) ++ [(Z + 4 + 1, stopO (Z + 4))]) (Z + 4 + 2) tk2 (fun b => by cases b <;> kernel_rfl) (by decide) .nil fun W4 hW4 h6 S6 A4 a4 => ?_
      refine CallAt.of_call (sum_intListG (xs := ys) a4.2.2 (ints_list (e := e2) (S6.lg.get (i := 71) (p := (Z + 2, seqObj "list" (intItems ys) e2)) rfl)) fun h7 tk3 t3 G7 => ?_)
      have S7 := (S6.pick (is := List.range 69) (by decide)).grow (h' := h7) G7 (Heap.lt_size (G7 _ _ (S6.lg.get (i := 73) (p := (Z + 4 + 1, stopO (Z + 4))) rfl)))
      exact opX (hW4 _) (by first | exact dD hD rfl | exact dD0 hD rfl | omega) hA S7 0 hS04 (List.range 69) [] .next (LD w t114 t37 sc (scO vs e) N (lfr w [("k", kk, .int 0 kt), ("more", tk3, .int (preSum (numAt ys) ys.size) t3)]) (some (.ref sc)) c2 c3 c4 c5 rg it) h7.objs.size (tk3 + 1) (fun b => by cases b <;> kernel_rfl) (by decide) .nil fun h8 S8 => hQ h8 _ _ _ _ _ S8
    | some o =>
      obtain ⟨jk, jx, jt⟩ := o
      refine opK (hW3 _) (by first | exact dD hD rfl | exact dD0 hD rfl | omega) hA S5 0 (hS03 true) (List.range 72 ++ [73]) [] (.call (.builtin "sum") ⟨[.ref (Z + 2)], []⟩) (LD w t114 t37 sc (scO vs e) N (lfr w [("k", kk, .int 0 kt)]) (some (.ref sc)) c2 c3 c4 c5 rg it ++ [(Z, rgO 0 kt vs.length (tk + 1) 2 (tk + 2)), (Z + 1, io), (Z + 2, seqObj "list" (intItems ys) e2), (Z + 4 + 1, stopO (Z + 4))]) (Z + 4 + 2) tk2 (fun b => by cases b <;> kernel_rfl) (by decide) .nil fun W4 hW4 h6 S6 A4 a4 => ?_
      refine CallAt.of_call (sum_intListG (xs := ys) a4.2.2 (ints_list (e := e2) (S6.lg.get (i := 71) (p := (Z + 2, seqObj "list" (intItems ys) e2)) rfl)) fun h7 tk3 t3 G7 => ?_)
      have S7 := (S6.pick (is := List.range 69) (by decide)).grow (h' := h7) G7 (Heap.lt_size (G7 _ _ (S6.lg.get (i := 72) (p := (Z + 4 + 1, stopO (Z + 4))) rfl)))
      exact opX (hW4 _) (by first | exact dD hD rfl | exact dD0 hD rfl | omega) hA S7 0 hS04 (List.range 69) [] .next (LD w t114 t37 sc (scO vs e) N (lfr w [("k", kk, .int 0 kt), ("more", tk3, .int (preSum (numAt ys) ys.size) t3)]) (some (.ref sc)) c2 c3 c4 c5 rg it) h7.objs.size (tk3 + 1) (fun b => by cases b <;> kernel_rfl) (by decide) .nil fun h8 S8 => hQ h8 _ _ _ _ _ S8
  · intro D h0 h L0 g d tk os Z N A Q E t114 t37 rg it sc vs e c2 c3 c4 c5 kk kt m0 o0 s0 tm0 to0 ts0 km ko ks kl tx0 x0 hD hA hl hv S hQ
    have hsz : vs.toArray.size = vs.length := List.size_toArray
    refine opTop (D := D) fun W hW => ?_
    refine opK hW (by first | exact dD hD rfl | exact dD0 hD rfl | omega) hA S 0 hS00 (List.range 69) [] (.call (.builtin "len") ⟨[.ref sc], []⟩) (LD w t114 t37 sc (scO vs e) N (lfr w [("k", kk, .int 1 kt), ("more", km, .int m0 tm0), ("mode", ko, .int o0 to0), ("start", ks, .int s0 ts0), ("told", kl, .str x0 tx0)]) (some (.ref sc)) c2 c3 c4 c5 rg it) Z tk (fun b => by cases b <;> kernel_rfl) (by decide) .nil fun W1 hW1 h1 S1 A1 a1 => ?_
    refine CallAt.of_call (len_list (items := vs.toArray) (ints_list (e := e) (S1.lg.get (i := 60) (p := (sc, scO vs e)) rfl)) (by rw [hsz]; omega) ?_)
    rw [hsz]
    refine opK (hW1 _) (by first | exact dD hD rfl | exact dD0 hD rfl | omega) hA S1 0 hS01 (List.range 70) [] (.call (.builtin "range.__iter__") ⟨[.ref Z], []⟩) ((LD w t114 t37 sc (scO vs e) N (lfr w [("k", kk, .int 1 kt), ("more", km, .int m0 tm0), ("mode", ko, .int o0 to0), ("start", ks, .int s0 ts0), ("told", kl, .str x0 tx0)]) (some (.ref sc)) c2 c3 c4 c5 rg it) ++ [(Z, rgO 1 kt vs.length (tk + 1) 2 (tk + 2))]) (Z + 1) (tk + 3) (fun b => by cases b <;> kernel_rfl) (by decide) .nil fun W2 hW2 h2 S2 A2 a2 => ?_
    refine CallAt.of_code (rg_iter S2 (i := 69) rfl (sz2 vs.length hl).2.1 fun h3 S3 => ?_)
    rw [(sz2 vs.length hl).2.2] at S3
    refine opM (hW2 _) (by first | exact dD hD rfl | exact dD0 hD rfl | omega) hA S3 0 hS02 (List.range 73) [] (scC E0 (Z + 1) (Z + 2) (cEnv E0 N (Z + 3) (cl0 N))) (LX ⟨t114, t37, sc, scO vs e, N, (lfr w [("k", kk, .int 1 kt), ("more", km, .int m0 tm0), ("mode", ko, .int o0 to0), ("start", ks, .int s0 ts0), ("told", kl, .str x0 tx0)]), rg, it, Z, rgO 1 kt vs.length (tk + 1) 2 (tk + 2)⟩ w (some (.ref sc)) c2 c3 c4 c5 (rgItO 1 ((vs.length / 2) : Nat) 2) (seqObj "list" #[] 0) (jD w none)) (Z + 4) (tk + 3) (fun b => by cases b <;> kernel_rfl) (by decide) .nil fun W3 hW3 h4 S4 A3 a3 => ?_
    refine lp0s (D := D + 60) (x := ⟨t114, t37, sc, scO vs e, N, (lfr w [("k", kk, .int 1 kt), ("more", km, .int m0 tm0), ("mode", ko, .int o0 to0), ("start", ks, .int s0 ts0), ("told", kl, .str x0 tx0)]), rg, it, Z, rgO 1 kt vs.length (tk + 1) 2 (tk + 2)⟩) (a := 1) (n := (vs.length / 2)) (by first | exact dD hD rfl | exact dD0 hD rfl | omega) a3 rfl hl (fun i hi => by omega) hv S4 fun h5 tk2 io xs e2 o hI S5 => ?_
    obtain ⟨ys, rfl⟩ := hI.items
    cases o with
    | none =>
      refine opK (hW3 _) (by first | exact dD hD rfl | exact dD0 hD rfl | omega) hA S5 0 (hS03 false) (List.range 74) [] (.call (.builtin "sum") ⟨[.ref (Z + 2)], []⟩) (LX ⟨t114, t37, sc, scO vs e, N, (lfr w [("k", kk, .int 1 kt), ("more", km, .int m0 tm0), ("mode", ko, .int o0 to0), ("start", ks, .int s0 ts0), ("told", kl, .str x0 tx0)]), rg, it, Z, rgO 1 kt vs.length (tk + 1) 2 (tk + 2)⟩ w (some (.ref sc)) c2 c3 c4 c5 io (seqObj "list" (intItems ys) e2) (jD w none) ++ [(Z + 4 + 1, stopO (Z + 4))]) (Z + 4 + 2) tk2 (fun b => by cases b <;> kernel_rfl) (by decide) .nil fun W4 hW4 h6 S6 A4 a4 => ?_
      refine CallAt.of_call (sum_intListG (xs := ys) a4.2.2 (ints_list (e := e2) (S6.lg.get (i := 71) (p := (Z + 2, seqObj "list" (intItems ys) e2)) rfl)) fun h7 tk3 t3 G7 => ?_)
      have S7 := (S6.pick (is := List.range 69) (by decide)).grow (h' := h7) G7 (Heap.lt_size (G7 _ _ (S6.lg.get (i := 73) (p := (Z + 4 + 1, stopO (Z + 4))) rfl)))
      exact opX (hW4 _) (by first | exact dD hD rfl | exact dD0 hD rfl | omega) hA S7 0 hS04 (List.range 69) [] .next (LD w t114 t37 sc (scO vs e) N (lfr w [("k", kk, .int 1 kt), ("more", km, .int (preSum (numAt ys) ys.size) t3), ("mode", ko, .int o0 to0), ("start", ks, .int s0 ts0), ("told", kl, .str x0 tx0)]) (some (.ref sc)) c2 c3 c4 c5 rg it) h7.objs.size (tk3 + 1) (fun b => by cases b <;> kernel_rfl) (by decide) .nil fun h8 S8 => hQ h8 _ _  _ _ S8
    | some o =>
      obtain ⟨jk, jx, jt⟩ := o
      refine opK (hW3 _) (by first | exact dD hD rfl | exact dD0 hD rfl | omega) hA S5 0 (hS03 true) (List.range 72 ++ [73]) [] (.call (.builtin "sum") ⟨[.ref (Z + 2)], []⟩) (LD w t114 t37 sc (scO vs e) N (lfr w [("k", kk, .int 1 kt), ("more", km, .int m0 tm0), ("mode", ko, .int o0 to0), ("start", ks, .int s0 ts0), ("told", kl, .str x0 tx0)]) (some (.ref sc)) c2 c3 c4 c5 rg it ++ [(Z, rgO 1 kt vs.length (tk + 1) 2 (tk + 2)), (Z + 1, io), (Z + 2, seqObj "list" (intItems ys) e2), (Z + 4 + 1, stopO (Z + 4))]) (Z + 4 + 2) tk2 (fun b => by cases b <;> kernel_rfl) (by decide) .nil fun W4 hW4 h6 S6 A4 a4 => ?_
      refine CallAt.of_call (sum_intListG (xs := ys) a4.2.2 (ints_list (e := e2) (S6.lg.get (i := 71) (p := (Z + 2, seqObj "list" (intItems ys) e2)) rfl)) fun h7 tk3 t3 G7 => ?_)
      have S7 := (S6.pick (is := List.range 69) (by decide)).grow (h' := h7) G7 (Heap.lt_size (G7 _ _ (S6.lg.get (i := 72) (p := (Z + 4 + 1, stopO (Z + 4))) rfl)))
      exact opX (hW4 _) (by first | exact dD hD rfl | exact dD0 hD rfl | omega) hA S7 0 hS04 (List.range 69) [] .next (LD w t114 t37 sc (scO vs e) N (lfr w [("k", kk, .int 1 kt), ("more", km, .int (preSum (numAt ys) ys.size) t3), ("mode", ko, .int o0 to0), ("start", ks, .int s0 ts0), ("told", kl, .str x0 tx0)]) (some (.ref sc)) c2 c3 c4 c5 rg it) h7.objs.size (tk3 + 1) (fun b => by cases b <;> kernel_rfl) (by decide) .nil fun h8 S8 => hQ h8 _ _  _ _ S8
theorem st0a {D : Nat} {w : World} {h0 h : Heap} {L0 : List (Addr × Obj)} {g : Array GenState} {d : Drawn} {tk : Nat} {os : OsState} {Z N : Nat} {A : Around} {Q : Flow → Shared → Prop} {E : Value → Shared → Prop} {t114 t37 rg it : Obj} {sc : Addr} {vs : List Value} {e : Nat} {c2 c3 c4 c5 : Option Value} {kk kt : Tok} 
    (hD : D ≤ 700) (hA : Bd D A) (hl : vs.length < 64) (hv : ∀ (j : Nat) (v : Value), vs[j]? = some v → ∃ i t, v = .int i t) (S : Sg L0 h0 (LD w t114 t37 sc (scO vs e) N (lfr w [("k", kk, .int 0 kt)]) (some (.ref sc)) c2 c3 c4 c5 rg it) Z h)
    (hQ : ∀ h' m tm km' tk' Z', Sg L0 h0 (LD w t114 t37 sc (scO vs e) N (lfr w [("k", kk, .int 0 kt), ("more", km', .int m tm)]) (some (.ref sc)) c2 c3 c4 c5 rg it) Z' h' → Q .next ⟨h', g, d, tk', os⟩) :
    wpAny (model PG w) A (exec (stmtN 0) (lawEnv N)) Q E ⟨h, g, d, tk, os⟩ := @(st0_m (w := w)).1 D h0 h L0 g d tk os Z N A Q E t114 t37 rg it sc vs e c2 c3 c4 c5 kk kt hD hA hl hv S hQ
theorem st0b {D : Nat} {w : World} {h0 h : Heap} {L0 : List (Addr × Obj)} {g : Array GenState} {d : Drawn} {tk : Nat} {os : OsState} {Z N : Nat} {A : Around} {Q : Flow → Shared → Prop} {E : Value → Shared → Prop} {t114 t37 rg it : Obj} {sc : Addr} {vs : List Value} {e : Nat} {c2 c3 c4 c5 : Option Value} {kk kt : Tok} {m0 o0 s0 : Int} {tm0 to0 ts0 km ko ks kl tx0 : Tok} {x0 : Str}
    (hD : D ≤ 700) (hA : Bd D A) (hl : vs.length < 64) (hv : ∀ (j : Nat) (v : Value), vs[j]? = some v → ∃ i t, v = .int i t) (S : Sg L0 h0 (LD w t114 t37 sc (scO vs e) N (lfr w [("k", kk, .int 1 kt), ("more", km, .int m0 tm0), ("mode", ko, .int o0 to0), ("start", ks, .int s0 ts0), ("told", kl, .str x0 tx0)]) (some (.ref sc)) c2 c3 c4 c5 rg it) Z h)
    (hQ : ∀ h' m tm  tk' Z', Sg L0 h0 (LD w t114 t37 sc (scO vs e) N (lfr w [("k", kk, .int 1 kt), ("more", km, .int m tm), ("mode", ko, .int o0 to0), ("start", ks, .int s0 ts0), ("told", kl, .str x0 tx0)]) (some (.ref sc)) c2 c3 c4 c5 rg it) Z' h' → Q .next ⟨h', g, d, tk', os⟩) :
    wpAny (model PG w) A (exec (stmtN 0) (lawEnv N)) Q E ⟨h, g, d, tk, os⟩ := @(st0_m (w := w)).2 D h0 h L0 g d tk os Z N A Q E t114 t37 rg it sc vs e c2 c3 c4 c5 kk kt m0 o0 s0 tm0 to0 ts0 km ko ks kl tx0 x0 hD hA hl hv S hQ
end Mine
end
section
namespace Mine
set_option maxHeartbeats 8000000
noncomputable def hS1 : List Hm := [.go [.fr, .fr, .al, .ld 61, .ld 69, .ld 69, .ld 69], .cl none, .go [.ld 69], .ag none, .go [.ld 69], .rt, .cl none, .rt, .go [.fr, .ld 61], .cl none, .ag none, .go [.fr], .rt, .cl none, .ag none, .go [.fr], .rt, .go [.fr], .cl none, .ag none, .go [.fr], .rt, .go [.fr, .ld 61, .up 61]]
noncomputable def hS2 : List Hm := [.go [.fr, .ld 61, .fr], .cl none, .ag none, .go [.fr], .rt, .go [.ld 61], .cl none, .ag none, .go [.fr], .rt, .go [.fr], .cl none, .ag none, .go [.fr], .rt, .cl none, .ag none, .go [.fr], .rt, .go [.fr, .ld 61, .up 61]]
noncomputable def hS3a : List Hm := [.go [.ld 3, .ld 61, .ld 61, .ld 6]]
noncomputable def hS3b : List Hm := [.go [.ld 69, .ld 69, .ld 69], .cl none, .go [.ld 69], .ag none, .go [.al], .rt, .go [.ld 70, .ld 70], .cl none, .go [.ld 70], .ag none, .go [.ld 70, .ld 70, .ld 69, .ld 70, .up 70], .rt, .go [.ld 70], .cl none, .go [.ld 70], .ag none, .go [.ld 70, .ld 70, .ld 69, .ld 70, .up 70], .rt, .go [.ld 70], .cl none, .go [.ld 70], .ag none, .go [.ld 70, .ld 70, .ld 69, .ld 70, .up 70, .al, .al], .hd, .rt, .go [.ld 72, .ld 63, .up 63, .ld 64, .up 64]]
noncomputable def hS4 : List Hm := [.go [.ld 63, .ld 64], .cl none, .ag none, .go [.fr], .rt, .go [.ld 65, .up 65]]
noncomputable def hS5a : List Hm := [.go [.ld 3, .ld 3, .ld 3, .ld 61, .ld 21]]
noncomputable def hS5b (r1 r2 : Str) (tk : Nat) : List Hm := [.go [.ld 61, .ld 61, .fr], .cl none, .ag none, .go [.fr], .rt, .go [.al], .ct (.str r1 (tk + 2)) 1 [69], .go [.fr], .cl none, .ag none, .go [.fr], .rt, .go [.al], .ct (.str r2 (tk + 5)) 1 [70], .go [.fr, .ld 8]]
noncomputable def hS5c : List Hm := [.go [.fr, .ld 61, .up 61]]
noncomputable def isN : List Nat := [0, 6, 7, 3, 4]
noncomputable def isR : List Nat := [0, 8, 9, 3, 10, 4, 11, 12, 13, 14, 15, 16]
noncomputable def isFm : List Nat := [0, 21, 22, 3, 4, 23, 24, 25, 26, 27, 28, 29, 30, 31, 32, 33, 34, 35, 36, 37, 38, 39, 40, 41, 42, 43, 44, 45, 46, 47, 48, 49, 50, 51, 52, 53, 54, 55, 56, 57]
theorem Sg.addNew {L0 L : List (Addr × Obj)} {h0 h h' : Heap} {Z : Nat} {a : Addr} {o : Obj} (S : Sg L0 h0 L Z h) (G : Gr h h') (ha : h'.get? a = some o) (hZ : Z ≤ a) : Sg L0 h0 (L ++ [(a, o)]) h'.objs.size h' := by
  have lt := Heap.lt_size ha
  refine ⟨⟨fun p hp => ?_, ?_⟩, rfl, fun b o e n => G b o (S.kp b o e n), Nat.le_trans S.le (Nat.le_trans hZ (Nat.le_of_lt lt)), fun q hq => ?_⟩
  · rcases List.mem_append.mp hp with hp | hp
    · exact G _ _ (S.lg.at_ p hp)
    · rw [List.mem_singleton.mp hp]; exact ha
  · rw [List.map_append, List.nodup_append]
    refine ⟨S.lg.nd, by simp, fun x hx y hy e => ?_⟩
    have hy' : y = a := by simpa using hy
    obtain ⟨p, hp, rfl⟩ := List.mem_map.mp hx
    have l := Heap.lt_size (S.lg.at_ p hp)
    rw [S.sz] at l
    have e' : p.1 = a := e.trans hy'
    rw [e'] at l
    exact absurd l (Nat.not_lt.mpr hZ)
  · rw [List.map_append, List.mem_append] at hq
    rcases hq with hq | hq
    · exact S.cv q hq
    · have : q = a := by simpa using hq
      exact .inr (this ▸ Nat.le_trans S.le hZ)
noncomputable def modeOf (base m : Int) : Int := (base + 2741 * m).fmod 65536
noncomputable def startOf (k m : Int) : Int := 1 + (m.fdiv 7 + k).fmod 4
theorem st1_m {w : World} : (∀ {D : Nat} {h0 h : Heap} {L0 : List (Addr × Obj)} {g : Array GenState} {d : Drawn} {tk : Nat} {os : OsState} {Z N : Nat} {A : Around} {Q : Flow → Shared → Prop} {E : Value → Shared → Prop} {t114 t37 rg it so : Obj} {sc : Addr} {c1 c2 c3 c4 c5 : Option Value} {kk kt : Tok} {m o s : Int} {tm to ts km ko ks kl tx : Tok} {x : Str} (hD : D ≤ 700) (hA : Bd D A) (S : Sg L0 h0 (LD w t114 t37 sc so N (lfr w [("k", kk, .int 0 kt), ("more", km, .int m tm)]) c1 c2 c3 c4 c5 rg it) Z h) (hQ : ∀ h', Sg L0 h0 (LD w t114 t37 sc so N (lfr w [("k", kk, .int 0 kt), ("more", km, .int m tm), ("mode", (tk + 7), .int (modeOf 34273 m) (tk + 6))]) c1 c2 c3 c4 c5 rg it) (Z + 1) h' → Q .next ⟨h', g, d, tk + 8, os⟩), wpAny (model PG w) A (exec (stmtN 1) (lawEnv N)) Q E ⟨h, g, d, tk, os⟩) ∧
    (∀ {D : Nat} {h0 h : Heap} {L0 : List (Addr × Obj)} {g : Array GenState} {d : Drawn} {tk : Nat} {os : OsState} {Z N : Nat} {A : Around} {Q : Flow → Shared → Prop} {E : Value → Shared → Prop} {t114 t37 rg it so : Obj} {sc : Addr} {c1 c2 c3 c4 c5 : Option Value} {kk kt : Tok} {m o s : Int} {tm to ts km ko ks kl tx : Tok} {x : Str} (hD : D ≤ 700) (hA : Bd D A) (S : Sg L0 h0 (LD w t114 t37 sc so N (lfr w [("k", kk, .int 0 kt), ("more", km, .int m tm), ("mode", ko, .int o to)]) c1 c2 c3 c4 c5 rg it) Z h) (hQ : ∀ h', Sg L0 h0 (LD w t114 t37 sc so N (lfr w [("k", kk, .int 0 kt), ("more", km, .int m tm), ("mode", ko, .int o to), ("start", (tk + 7), .int (startOf 0 m) (tk + 6))]) c1 c2 c3 c4 c5 rg it) Z h' → Q .next ⟨h', g, d, tk + 8, os⟩), wpAny (model PG w) A (exec (stmtN 2) (lawEnv N)) Q E ⟨h, g, d, tk, os⟩) ∧
    (∀ {D : Nat} {h0 h : Heap} {L0 : List (Addr × Obj)} {g : Array GenState} {d : Drawn} {tk : Nat} {os : OsState} {Z N : Nat} {A : Around} {Q : Flow → Shared → Prop} {E : Value → Shared → Prop} {t114 t37 rg it so : Obj} {sc : Addr} {c1 c2 c3 c4 c5 : Option Value} {kk kt : Tok} {m o s : Int} {tm to ts km ko ks kl tx : Tok} {x : Str} {q0 q1 q2 q3 q4 q5 : Bool} {p : Nat} (hD : D ≤ 600) (hA : Bd D A) (S : Sg L0 h0 (LD w t114 t37 sc so N (lfr w [("k", kk, .int 0 kt), ("more", km, .int m tm), ("mode", ko, .int o to), ("start", ks, .int s ts)]) c1 c2 c3 c4 c5 rg it) Z h) (hp : p < 4) (hs : s = (p : Int) + 1) (e0 : bitQ o (p + 6) = q0) (e1 : bitQ o (p + 5) = q1) (e2 : bitQ o (p + 4) = q2) (e3 : bitQ o (p + 3) = q3) (e4 : bitQ o (p + 2) = q4) (e5 : bitQ o (p + 1) = q5) (hQ : ∀ h' tk' Z' t1 t2, Sg L0 h0 (LD w t114 t37 sc so N (lfr w [("k", kk, .int 0 kt), ("more", km, .int m tm), ("mode", ko, .int o to), ("start", ks, .int s ts)]) c1 (some (.int (nums [q0, q1, q2, q3, q4, q5]).1 t1)) (some (.int (nums [q0, q1, q2, q3, q4, q5]).2 t2)) c4 c5 rg it) Z' h' → Q .next ⟨h', g, d, tk', os⟩), wpAny (model PG w) A (exec (stmtN 3) (lawEnv N)) Q E ⟨h, g, d, tk, os⟩) ∧
    (∀ {D : Nat} {h0 h : Heap} {L0 : List (Addr × Obj)} {g : Array GenState} {d : Drawn} {tk : Nat} {os : OsState} {Z N : Nat} {A : Around} {Q : Flow → Shared → Prop} {E : Value → Shared → Prop} {t114 t37 rg it so : Obj} {sc : Addr} {c1 c2 c3 c4 c5 : Option Value} {kk kt : Tok} {m o s : Int} {tm to ts km ko ks kl tx : Tok} {x : Str} {f q : Int} {tf tq : Tok} (hD : D ≤ 700) (hA : Bd D A) (S : Sg L0 h0 (LD w t114 t37 sc so N (lfr w [("k", kk, .int 0 kt), ("more", km, .int m tm), ("mode", ko, .int o to), ("start", ks, .int s ts)]) c1 (some (.int f tf)) (some (.int q tq)) c4 c5 rg it) Z h) (hQ : ∀ h', Sg L0 h0 (LD w t114 t37 sc so N (lfr w [("k", kk, .int 0 kt), ("more", km, .int m tm), ("mode", ko, .int o to), ("start", ks, .int s ts)]) c1 (some (.int f tf)) (some (.int q tq)) (some (.int (f + q) tk)) c5 rg it) Z h' → Q .next ⟨h', g, d, tk + 1, os⟩), wpAny (model PG w) A (exec (stmtN 4) (lawEnv N)) Q E ⟨h, g, d, tk, os⟩) ∧
    (∀ {D : Nat} {h0 h : Heap} {L0 : List (Addr × Obj)} {g : Array GenState} {d : Drawn} {tk : Nat} {os : OsState} {Z N : Nat} {A : Around} {Q : Flow → Shared → Prop} {E : Value → Shared → Prop} {t114 t37 rg it so : Obj} {sc : Addr} {c1 c2 c3 c4 c5 : Option Value} {kk kt : Tok} {m o s : Int} {tm to ts km ko ks kl tx : Tok} {x : Str} (hD : D ≤ 700) (hA : Bd D A) (S : Sg L0 h0 (LD w t114 t37 sc so N (lfr w [("k", kk, .int 1 kt), ("more", km, .int m tm), ("mode", ko, .int o to), ("start", ks, .int s ts), ("told", kl, .str x tx)]) c1 c2 c3 c4 c5 rg it) Z h) (hQ : ∀ h', Sg L0 h0 (LD w t114 t37 sc so N (lfr w [("k", kk, .int 1 kt), ("more", km, .int m tm), ("mode", ko, .int (modeOf 24747 m) (tk + 6)), ("start", ks, .int s ts), ("told", kl, .str x tx)]) c1 c2 c3 c4 c5 rg it) (Z + 1) h' → Q .next ⟨h', g, d, tk + 8, os⟩), wpAny (model PG w) A (exec (stmtN 1) (lawEnv N)) Q E ⟨h, g, d, tk, os⟩) ∧
    (∀ {D : Nat} {h0 h : Heap} {L0 : List (Addr × Obj)} {g : Array GenState} {d : Drawn} {tk : Nat} {os : OsState} {Z N : Nat} {A : Around} {Q : Flow → Shared → Prop} {E : Value → Shared → Prop} {t114 t37 rg it so : Obj} {sc : Addr} {c1 c2 c3 c4 c5 : Option Value} {kk kt : Tok} {m o s : Int} {tm to ts km ko ks kl tx : Tok} {x : Str} (hD : D ≤ 700) (hA : Bd D A) (S : Sg L0 h0 (LD w t114 t37 sc so N (lfr w [("k", kk, .int 1 kt), ("more", km, .int m tm), ("mode", ko, .int o to), ("start", ks, .int s ts), ("told", kl, .str x tx)]) c1 c2 c3 c4 c5 rg it) Z h) (hQ : ∀ h', Sg L0 h0 (LD w t114 t37 sc so N (lfr w [("k", kk, .int 1 kt), ("more", km, .int m tm), ("mode", ko, .int o to), ("start", ks, .int (startOf 1 m) (tk + 6)), ("told", kl, .str x tx)]) c1 c2 c3 c4 c5 rg it) Z h' → Q .next ⟨h', g, d, tk + 8, os⟩), wpAny (model PG w) A (exec (stmtN 2) (lawEnv N)) Q E ⟨h, g, d, tk, os⟩) ∧
    (∀ {D : Nat} {h0 h : Heap} {L0 : List (Addr × Obj)} {g : Array GenState} {d : Drawn} {tk : Nat} {os : OsState} {Z N : Nat} {A : Around} {Q : Flow → Shared → Prop} {E : Value → Shared → Prop} {t114 t37 rg it so : Obj} {sc : Addr} {c1 c2 c3 c4 c5 : Option Value} {kk kt : Tok} {m o s : Int} {tm to ts km ko ks kl tx : Tok} {x : Str} {q0 q1 q2 q3 q4 q5 : Bool} {p : Nat} (hD : D ≤ 600) (hA : Bd D A) (S : Sg L0 h0 (LD w t114 t37 sc so N (lfr w [("k", kk, .int 1 kt), ("more", km, .int m tm), ("mode", ko, .int o to), ("start", ks, .int s ts), ("told", kl, .str x tx)]) c1 c2 c3 c4 c5 rg it) Z h) (hp : p < 4) (hs : s = (p : Int) + 1) (e0 : bitQ o (p + 6) = q0) (e1 : bitQ o (p + 5) = q1) (e2 : bitQ o (p + 4) = q2) (e3 : bitQ o (p + 3) = q3) (e4 : bitQ o (p + 2) = q4) (e5 : bitQ o (p + 1) = q5) (hQ : ∀ h' tk' Z' t1 t2, Sg L0 h0 (LD w t114 t37 sc so N (lfr w [("k", kk, .int 1 kt), ("more", km, .int m tm), ("mode", ko, .int o to), ("start", ks, .int s ts), ("told", kl, .str x tx)]) c1 (some (.int (nums [q0, q1, q2, q3, q4, q5]).1 t1)) (some (.int (nums [q0, q1, q2, q3, q4, q5]).2 t2)) c4 c5 rg it) Z' h' → Q .next ⟨h', g, d, tk', os⟩), wpAny (model PG w) A (exec (stmtN 3) (lawEnv N)) Q E ⟨h, g, d, tk, os⟩) ∧
    (∀ {D : Nat} {h0 h : Heap} {L0 : List (Addr × Obj)} {g : Array GenState} {d : Drawn} {tk : Nat} {os : OsState} {Z N : Nat} {A : Around} {Q : Flow → Shared → Prop} {E : Value → Shared → Prop} {t114 t37 rg it so : Obj} {sc : Addr} {c1 c2 c3 c4 c5 : Option Value} {kk kt : Tok} {m o s : Int} {tm to ts km ko ks kl tx : Tok} {x : Str} {f q : Int} {tf tq : Tok} (hD : D ≤ 700) (hA : Bd D A) (S : Sg L0 h0 (LD w t114 t37 sc so N (lfr w [("k", kk, .int 1 kt), ("more", km, .int m tm), ("mode", ko, .int o to), ("start", ks, .int s ts), ("told", kl, .str x tx)]) c1 (some (.int f tf)) (some (.int q tq)) c4 c5 rg it) Z h) (hQ : ∀ h', Sg L0 h0 (LD w t114 t37 sc so N (lfr w [("k", kk, .int 1 kt), ("more", km, .int m tm), ("mode", ko, .int o to), ("start", ks, .int s ts), ("told", kl, .str x tx)]) c1 (some (.int f tf)) (some (.int q tq)) (some (.int (f + q) tk)) c5 rg it) Z h' → Q .next ⟨h', g, d, tk + 1, os⟩), wpAny (model PG w) A (exec (stmtN 4) (lawEnv N)) Q E ⟨h, g, d, tk, os⟩) := by
  refine ⟨?_, ?_, ?_, ?_, ?_, ?_, ?_, ?_⟩
  · intro D h0 h L0 g d tk os Z N A Q E t114 t37 rg it so sc c1 c2 c3 c4 c5 kk kt m o s tm to ts km ko ks kl tx x hD hA S hQ
    refine opTop (D := D) fun W hW => ?_
    exact opX hW (by first | exact dD hD rfl | exact dD0 hD rfl | omega) hA S 0 hS1 (List.range 69) [] .next (LD w t114 t37 sc so N (lfr w [("k", kk, .int 0 kt), ("more", km, .int m tm), ("mode", (tk + 7), .int (modeOf 34273 m) (tk + 6))]) c1 c2 c3 c4 c5 rg it) (Z + 1) (tk + 8) (fun b => by cases b <;> kernel_rfl) (by decide) .nil hQ
  · intro D h0 h L0 g d tk os Z N A Q E t114 t37 rg it so sc c1 c2 c3 c4 c5 kk kt m o s tm to ts km ko ks kl tx x hD hA S hQ
    refine opTop (D := D) fun W hW => ?_
    exact opX hW (by first | exact dD hD rfl | exact dD0 hD rfl | omega) hA S 0 hS2 (List.range 69) [] .next (LD w t114 t37 sc so N (lfr w [("k", kk, .int 0 kt), ("more", km, .int m tm), ("mode", ko, .int o to), ("start", (tk + 7), .int (startOf 0 m) (tk + 6))]) c1 c2 c3 c4 c5 rg it) Z (tk + 8) (fun b => by cases b <;> kernel_rfl) (by decide) .nil hQ
  · intro D h0 h L0 g d tk os Z N A Q E t114 t37 rg it so sc c1 c2 c3 c4 c5 kk kt m o s tm to ts km ko ks kl tx x q0 q1 q2 q3 q4 q5 p hD hA S hp hs e0 e1 e2 e3 e4 e5 hQ
    refine opTop (D := D) fun W hW => ?_
    refine opM hW (by first | exact dD hD rfl | exact dD0 hD rfl | omega) hA S 0 hS3a (List.range 69) [] (.call (.ref 112) ⟨[.int o to, .int s ts], []⟩) (LD w t114 t37 sc so N (lfr w [("k", kk, .int 0 kt), ("more", km, .int m tm), ("mode", ko, .int o to), ("start", ks, .int s ts)]) c1 c2 c3 c4 c5 rg it) Z tk (fun b => by cases b <;> kernel_rfl) (by decide) .nil fun W1 hW1 h1 S1 A1 a1 => ?_
    have H1 : Lg (LN w) h1 := by
      have := S1.lg.pick (is := isN) (by decide)
      exact (by kernel_rfl : Mine.pick (LD w t114 t37 sc so N (lfr w [("k", kk, .int 0 kt), ("more", km, .int m tm), ("mode", ko, .int o to), ("start", ks, .int s ts)]) c1 c2 c3 c4 c5 rg it) isN = LN w) ▸ this
    have go : ∀ h' N' tk' t1 t2 a, Sg (LN w) h1 (LN w ++ [(a, tupO2 (nums [q0, q1, q2, q3, q4, q5]).1 t1 (nums [q0, q1, q2, q3, q4, q5]).2 t2)]) N' h' → Z ≤ a → tk ≤ tk' → WC D (model PG w) A Q E (W1 (.ok (.ret (.ref a)))) ⟨h', g, d, tk', os⟩ := fun h' N' tk' t1 t2 a T ha _ => by
      have G : Gr h1 h' := Sg.gr H1 T
      have S2 := S1.addNew G (T.lg.at_ (a, tupO2 (nums [q0, q1, q2, q3, q4, q5]).1 t1 (nums [q0, q1, q2, q3, q4, q5]).2 t2) (List.mem_append_right _ (.head _))) ha
      exact opX (hW1 _) (by first | exact dD hD rfl | exact dD0 hD rfl | omega) hA S2 0 hS3b (List.range 69) [] .next (LD w t114 t37 sc so N (lfr w [("k", kk, .int 0 kt), ("more", km, .int m tm), ("mode", ko, .int o to), ("start", ks, .int s ts)]) c1 (some (.int (nums [q0, q1, q2, q3, q4, q5]).1 t1)) (some (.int (nums [q0, q1, q2, q3, q4, q5]).2 t2)) c4 c5 rg it) (h'.objs.size + 3) tk' (fun b => by cases b <;> kernel_rfl) (by decide) .nil fun h2 S3 => hQ h2 _ _ _ _ S3
    have hc : p = 0 ∨ p = 1 ∨ p = 2 ∨ p = 3 := by omega
    rcases hc with rfl | rfl | rfl | rfl
    · rw [hs]; exact num_call1 (D := D + 60) (by first | exact dD hD rfl | exact dD0 hD rfl | omega) a1 H1 S1.sz e0 e1 e2 e3 e4 e5 go
    · rw [hs]; exact num_call2 (D := D + 60) (by first | exact dD hD rfl | exact dD0 hD rfl | omega) a1 H1 S1.sz e0 e1 e2 e3 e4 e5 go
    · rw [hs]; exact num_call3 (D := D + 60) (by first | exact dD hD rfl | exact dD0 hD rfl | omega) a1 H1 S1.sz e0 e1 e2 e3 e4 e5 go
    · rw [hs]; exact num_call4 (D := D + 60) (by first | exact dD hD rfl | exact dD0 hD rfl | omega) a1 H1 S1.sz e0 e1 e2 e3 e4 e5 go
  · intro D h0 h L0 g d tk os Z N A Q E t114 t37 rg it so sc c1 c2 c3 c4 c5 kk kt m o s tm to ts km ko ks kl tx x f q tf tq hD hA S hQ
    refine opTop (D := D) fun W hW => ?_
    exact opX hW (by first | exact dD hD rfl | exact dD0 hD rfl | omega) hA S 0 hS4 (List.range 69) [] .next _ Z (tk + 1) (fun b => by cases b <;> kernel_rfl) (by decide) .nil hQ
  · intro D h0 h L0 g d tk os Z N A Q E t114 t37 rg it so sc c1 c2 c3 c4 c5 kk kt m o s tm to ts km ko ks kl tx x hD hA S hQ
    refine opTop (D := D) fun W hW => ?_
    exact opX hW (by first | exact dD hD rfl | exact dD0 hD rfl | omega) hA S 0 hS1 (List.range 69) [] .next (LD w t114 t37 sc so N (lfr w [("k", kk, .int 1 kt), ("more", km, .int m tm), ("mode", ko, .int (modeOf 24747 m) (tk + 6)), ("start", ks, .int s ts), ("told", kl, .str x tx)]) c1 c2 c3 c4 c5 rg it) (Z + 1) (tk + 8) (fun b => by cases b <;> kernel_rfl) (by decide) .nil hQ
  · intro D h0 h L0 g d tk os Z N A Q E t114 t37 rg it so sc c1 c2 c3 c4 c5 kk kt m o s tm to ts km ko ks kl tx x hD hA S hQ
    refine opTop (D := D) fun W hW => ?_
    exact opX hW (by first | exact dD hD rfl | exact dD0 hD rfl | omega) hA S 0 hS2 (List.range 69) [] .next (LD w t114 t37 sc so N (lfr w [("k", kk, .int 1 kt), ("more", km, .int m tm), ("mode", ko, .int o to), ("start", ks, .int (startOf 1 m) (tk + 6)), ("told", kl, .str x tx)]) c1 c2 c3 c4 c5 rg it) Z (tk + 8) (fun b => by cases b <;> kernel_rfl) (by decide) .nil hQ
  · intro D h0 h L0 g d tk os Z N A Q E t114 t37 rg it so sc c1 c2 c3 c4 c5 kk kt m o s tm to ts km ko ks kl tx x q0 q1 q2 q3 q4 q5 p hD hA S hp hs e0 e1 e2 e3 e4 e5 hQ
    refine opTop (D := D) fun W hW => ?_
    refine opM hW (by first | exact dD hD rfl | exact dD0 hD rfl | omega) hA S 0 hS3a (List.range 69) [] (.call (.ref 112) ⟨[.int o to, .int s ts], []⟩) (LD w t114 t37 sc so N (lfr w [("k", kk, .int 1 kt), ("more", km, .int m tm), ("mode", ko, .int o to), ("start", ks, .int s ts), ("told", kl, .str x tx)]) c1 c2 c3 c4 c5 rg it) Z tk (fun b => by cases b <;> kernel_rfl) (by decide) .nil fun W1 hW1 h1 S1 A1 a1 => ?_
    have H1 : Lg (LN w) h1 := by
      have := S1.lg.pick (is := isN) (by decide)
      exact (by kernel_rfl : Mine.pick (LD w t114 t37 sc so N (lfr w [("k", kk, .int 1 kt), ("more", km, .int m tm), ("mode", ko, .int o to), ("start", ks, .int s ts), ("told", kl, .str x tx)]) c1 c2 c3 c4 c5 rg it) isN = LN w) ▸ this
    have go : ∀ h' N' tk' t1 t2 a, Sg (LN w) h1 (LN w ++ [(a, tupO2 (nums [q0, q1, q2, q3, q4, q5]).1 t1 (nums [q0, q1, q2, q3, q4, q5]).2 t2)]) N' h' → Z ≤ a → tk ≤ tk' → WC D (model PG w) A Q E (W1 (.ok (.ret (.ref a)))) ⟨h', g, d, tk', os⟩ := fun h' N' tk' t1 t2 a T ha _ => by
      have G : Gr h1 h' := Sg.gr H1 T
      have S2 := S1.addNew G (T.lg.at_ (a, tupO2 (nums [q0, q1, q2, q3, q4, q5]).1 t1 (nums [q0, q1, q2, q3, q4, q5]).2 t2) (List.mem_append_right _ (.head _))) ha
      exact opX (hW1 _) (by first | exact dD hD rfl | exact dD0 hD rfl | omega) hA S2 0 hS3b (List.range 69) [] .next (LD w t114 t37 sc so N (lfr w [("k", kk, .int 1 kt), ("more", km, .int m tm), ("mode", ko, .int o to), ("start", ks, .int s ts), ("told", kl, .str x tx)]) c1 (some (.int (nums [q0, q1, q2, q3, q4, q5]).1 t1)) (some (.int (nums [q0, q1, q2, q3, q4, q5]).2 t2)) c4 c5 rg it) (h'.objs.size + 3) tk' (fun b => by cases b <;> kernel_rfl) (by decide) .nil fun h2 S3 => hQ h2 _ _ _ _ S3
    have hc : p = 0 ∨ p = 1 ∨ p = 2 ∨ p = 3 := by omega
    rcases hc with rfl | rfl | rfl | rfl
    · rw [hs]; exact num_call1 (D := D + 60) (by first | exact dD hD rfl | exact dD0 hD rfl | omega) a1 H1 S1.sz e0 e1 e2 e3 e4 e5 go
    · rw [hs]; exact num_call2 (D := D + 60) (by first | exact dD hD rfl | exact dD0 hD rfl | omega) a1 H1 S1.sz e0 e1 e2 e3 e4 e5 go
    · rw [hs]; exact num_call3 (D := D + 60) (by first | exact dD hD rfl | exact dD0 hD rfl | omega) a1 H1 S1.sz e0 e1 e2 e3 e4 e5 go
    · rw [hs]; exact num_call4 (D := D + 60) (by first | exact dD hD rfl | exact dD0 hD rfl | omega) a1 H1 S1.sz e0 e1 e2 e3 e4 e5 go
  · intro D h0 h L0 g d tk os Z N A Q E t114 t37 rg it so sc c1 c2 c3 c4 c5 kk kt m o s tm to ts km ko ks kl tx x f q tf tq hD hA S hQ
    refine opTop (D := D) fun W hW => ?_
    exact opX hW (by first | exact dD hD rfl | exact dD0 hD rfl | omega) hA S 0 hS4 (List.range 69) [] .next _ Z (tk + 1) (fun b => by cases b <;> kernel_rfl) (by decide) .nil hQ
theorem st1a {D : Nat} {w : World} {h0 h : Heap} {L0 : List (Addr × Obj)} {g : Array GenState} {d : Drawn} {tk : Nat} {os : OsState} {Z N : Nat} {A : Around} {Q : Flow → Shared → Prop} {E : Value → Shared → Prop} {t114 t37 rg it so : Obj} {sc : Addr} {c1 c2 c3 c4 c5 : Option Value} {kk kt : Tok} {m o s : Int} {tm to ts km ko ks kl tx : Tok} {x : Str}
    (hD : D ≤ 700) (hA : Bd D A) (S : Sg L0 h0 (LD w t114 t37 sc so N (lfr w [("k", kk, .int 0 kt), ("more", km, .int m tm)]) c1 c2 c3 c4 c5 rg it) Z h) (hQ : ∀ h', Sg L0 h0 (LD w t114 t37 sc so N (lfr w [("k", kk, .int 0 kt), ("more", km, .int m tm), ("mode", (tk + 7), .int (modeOf 34273 m) (tk + 6))]) c1 c2 c3 c4 c5 rg it) (Z + 1) h' → Q .next ⟨h', g, d, tk + 8, os⟩) :
    wpAny (model PG w) A (exec (stmtN 1) (lawEnv N)) Q E ⟨h, g, d, tk, os⟩ := @(st1_m (w := w)).1 D h0 h L0 g d tk os Z N A Q E t114 t37 rg it so sc c1 c2 c3 c4 c5 kk kt m o s tm to ts km ko ks kl tx x hD hA S hQ
theorem st2a {D : Nat} {w : World} {h0 h : Heap} {L0 : List (Addr × Obj)} {g : Array GenState} {d : Drawn} {tk : Nat} {os : OsState} {Z N : Nat} {A : Around} {Q : Flow → Shared → Prop} {E : Value → Shared → Prop} {t114 t37 rg it so : Obj} {sc : Addr} {c1 c2 c3 c4 c5 : Option Value} {kk kt : Tok} {m o s : Int} {tm to ts km ko ks kl tx : Tok} {x : Str}
    (hD : D ≤ 700) (hA : Bd D A) (S : Sg L0 h0 (LD w t114 t37 sc so N (lfr w [("k", kk, .int 0 kt), ("more", km, .int m tm), ("mode", ko, .int o to)]) c1 c2 c3 c4 c5 rg it) Z h) (hQ : ∀ h', Sg L0 h0 (LD w t114 t37 sc so N (lfr w [("k", kk, .int 0 kt), ("more", km, .int m tm), ("mode", ko, .int o to), ("start", (tk + 7), .int (startOf 0 m) (tk + 6))]) c1 c2 c3 c4 c5 rg it) Z h' → Q .next ⟨h', g, d, tk + 8, os⟩) :
    wpAny (model PG w) A (exec (stmtN 2) (lawEnv N)) Q E ⟨h, g, d, tk, os⟩ := @(st1_m (w := w)).2.1 D h0 h L0 g d tk os Z N A Q E t114 t37 rg it so sc c1 c2 c3 c4 c5 kk kt m o s tm to ts km ko ks kl tx x hD hA S hQ
theorem st3a {D : Nat} {w : World} {h0 h : Heap} {L0 : List (Addr × Obj)} {g : Array GenState} {d : Drawn} {tk : Nat} {os : OsState} {Z N : Nat} {A : Around} {Q : Flow → Shared → Prop} {E : Value → Shared → Prop} {t114 t37 rg it so : Obj} {sc : Addr} {c1 c2 c3 c4 c5 : Option Value} {kk kt : Tok} {m o s : Int} {tm to ts km ko ks kl tx : Tok} {x : Str} {q0 q1 q2 q3 q4 q5 : Bool} {p : Nat}
    (hD : D ≤ 600) (hA : Bd D A) (S : Sg L0 h0 (LD w t114 t37 sc so N (lfr w [("k", kk, .int 0 kt), ("more", km, .int m tm), ("mode", ko, .int o to), ("start", ks, .int s ts)]) c1 c2 c3 c4 c5 rg it) Z h) (hp : p < 4) (hs : s = (p : Int) + 1) (e0 : bitQ o (p + 6) = q0) (e1 : bitQ o (p + 5) = q1) (e2 : bitQ o (p + 4) = q2) (e3 : bitQ o (p + 3) = q3) (e4 : bitQ o (p + 2) = q4) (e5 : bitQ o (p + 1) = q5)
    (hQ : ∀ h' tk' Z' t1 t2, Sg L0 h0 (LD w t114 t37 sc so N (lfr w [("k", kk, .int 0 kt), ("more", km, .int m tm), ("mode", ko, .int o to), ("start", ks, .int s ts)]) c1 (some (.int (nums [q0, q1, q2, q3, q4, q5]).1 t1)) (some (.int (nums [q0, q1, q2, q3, q4, q5]).2 t2)) c4 c5 rg it) Z' h' → Q .next ⟨h', g, d, tk', os⟩) :
    wpAny (model PG w) A (exec (stmtN 3) (lawEnv N)) Q E ⟨h, g, d, tk, os⟩ := @(st1_m (w := w)).2.2.1 D h0 h L0 g d tk os Z N A Q E t114 t37 rg it so sc c1 c2 c3 c4 c5 kk kt m o s tm to ts km ko ks kl tx x q0 q1 q2 q3 q4 q5 p hD hA S hp hs e0 e1 e2 e3 e4 e5 hQ
theorem st4a {D : Nat} {w : World} {h0 h : Heap} {L0 : List (Addr × Obj)} {g : Array GenState} {d : Drawn} {tk : Nat} {os : OsState} {Z N : Nat} {A : Around} {Q : Flow → Shared → Prop} {E : Value → Shared → Prop} {t114 t37 rg it so : Obj} {sc : Addr} {c1 c2 c3 c4 c5 : Option Value} {kk kt : Tok} {m o s : Int} {tm to ts km ko ks kl tx : Tok} {x : Str} {f q : Int} {tf tq : Tok}
    (hD : D ≤ 700) (hA : Bd D A) (S : Sg L0 h0 (LD w t114 t37 sc so N (lfr w [("k", kk, .int 0 kt), ("more", km, .int m tm), ("mode", ko, .int o to), ("start", ks, .int s ts)]) c1 (some (.int f tf)) (some (.int q tq)) c4 c5 rg it) Z h) (hQ : ∀ h', Sg L0 h0 (LD w t114 t37 sc so N (lfr w [("k", kk, .int 0 kt), ("more", km, .int m tm), ("mode", ko, .int o to), ("start", ks, .int s ts)]) c1 (some (.int f tf)) (some (.int q tq)) (some (.int (f + q) tk)) c5 rg it) Z h' → Q .next ⟨h', g, d, tk + 1, os⟩) :
    wpAny (model PG w) A (exec (stmtN 4) (lawEnv N)) Q E ⟨h, g, d, tk, os⟩ := @(st1_m (w := w)).2.2.2.1 D h0 h L0 g d tk os Z N A Q E t114 t37 rg it so sc c1 c2 c3 c4 c5 kk kt m o s tm to ts km ko ks kl tx x f q tf tq hD hA S hQ
theorem st1b {D : Nat} {w : World} {h0 h : Heap} {L0 : List (Addr × Obj)} {g : Array GenState} {d : Drawn} {tk : Nat} {os : OsState} {Z N : Nat} {A : Around} {Q : Flow → Shared → Prop} {E : Value → Shared → Prop} {t114 t37 rg it so : Obj} {sc : Addr} {c1 c2 c3 c4 c5 : Option Value} {kk kt : Tok} {m o s : Int} {tm to ts km ko ks kl tx : Tok} {x : Str}
    (hD : D ≤ 700) (hA : Bd D A) (S : Sg L0 h0 (LD w t114 t37 sc so N (lfr w [("k", kk, .int 1 kt), ("more", km, .int m tm), ("mode", ko, .int o to), ("start", ks, .int s ts), ("told", kl, .str x tx)]) c1 c2 c3 c4 c5 rg it) Z h) (hQ : ∀ h', Sg L0 h0 (LD w t114 t37 sc so N (lfr w [("k", kk, .int 1 kt), ("more", km, .int m tm), ("mode", ko, .int (modeOf 24747 m) (tk + 6)), ("start", ks, .int s ts), ("told", kl, .str x tx)]) c1 c2 c3 c4 c5 rg it) (Z + 1) h' → Q .next ⟨h', g, d, tk + 8, os⟩) :
    wpAny (model PG w) A (exec (stmtN 1) (lawEnv N)) Q E ⟨h, g, d, tk, os⟩ := @(st1_m (w := w)).2.2.2.2.1 D h0 h L0 g d tk os Z N A Q E t114 t37 rg it so sc c1 c2 c3 c4 c5 kk kt m o s tm to ts km ko ks kl tx x hD hA S hQ
theorem st2b {D : Nat} {w : World} {h0 h : Heap} {L0 : List (Addr × Obj)} {g : Array GenState} {d : Drawn} {tk : Nat} {os : OsState} {Z N : Nat} {A : Around} {Q : Flow → Shared → Prop} {E : Value → Shared → Prop} {t114 t37 rg it so : Obj} {sc : Addr} {c1 c2 c3 c4 c5 : Option Value} {kk kt : Tok} {m o s : Int} {tm to ts km ko ks kl tx : Tok} {x : Str}
    (hD : D ≤ 700) (hA : Bd D A) (S : Sg L0 h0 (LD w t114 t37 sc so N (lfr w [("k", kk, .int 1 kt), ("more", km, .int m tm), ("mode", ko, .int o to), ("start", ks, .int s ts), ("told", kl, .str x tx)]) c1 c2 c3 c4 c5 rg it) Z h) (hQ : ∀ h', Sg L0 h0 (LD w t114 t37 sc so N (lfr w [("k", kk, .int 1 kt), ("more", km, .int m tm), ("mode", ko, .int o to), ("start", ks, .int (startOf 1 m) (tk + 6)), ("told", kl, .str x tx)]) c1 c2 c3 c4 c5 rg it) Z h' → Q .next ⟨h', g, d, tk + 8, os⟩) :
    wpAny (model PG w) A (exec (stmtN 2) (lawEnv N)) Q E ⟨h, g, d, tk, os⟩ := @(st1_m (w := w)).2.2.2.2.2.1 D h0 h L0 g d tk os Z N A Q E t114 t37 rg it so sc c1 c2 c3 c4 c5 kk kt m o s tm to ts km ko ks kl tx x hD hA S hQ
theorem st3b {D : Nat} {w : World} {h0 h : Heap} {L0 : List (Addr × Obj)} {g : Array GenState} {d : Drawn} {tk : Nat} {os : OsState} {Z N : Nat} {A : Around} {Q : Flow → Shared → Prop} {E : Value → Shared → Prop} {t114 t37 rg it so : Obj} {sc : Addr} {c1 c2 c3 c4 c5 : Option Value} {kk kt : Tok} {m o s : Int} {tm to ts km ko ks kl tx : Tok} {x : Str} {q0 q1 q2 q3 q4 q5 : Bool} {p : Nat}
    (hD : D ≤ 600) (hA : Bd D A) (S : Sg L0 h0 (LD w t114 t37 sc so N (lfr w [("k", kk, .int 1 kt), ("more", km, .int m tm), ("mode", ko, .int o to), ("start", ks, .int s ts), ("told", kl, .str x tx)]) c1 c2 c3 c4 c5 rg it) Z h) (hp : p < 4) (hs : s = (p : Int) + 1) (e0 : bitQ o (p + 6) = q0) (e1 : bitQ o (p + 5) = q1) (e2 : bitQ o (p + 4) = q2) (e3 : bitQ o (p + 3) = q3) (e4 : bitQ o (p + 2) = q4) (e5 : bitQ o (p + 1) = q5)
    (hQ : ∀ h' tk' Z' t1 t2, Sg L0 h0 (LD w t114 t37 sc so N (lfr w [("k", kk, .int 1 kt), ("more", km, .int m tm), ("mode", ko, .int o to), ("start", ks, .int s ts), ("told", kl, .str x tx)]) c1 (some (.int (nums [q0, q1, q2, q3, q4, q5]).1 t1)) (some (.int (nums [q0, q1, q2, q3, q4, q5]).2 t2)) c4 c5 rg it) Z' h' → Q .next ⟨h', g, d, tk', os⟩) :
    wpAny (model PG w) A (exec (stmtN 3) (lawEnv N)) Q E ⟨h, g, d, tk, os⟩ := @(st1_m (w := w)).2.2.2.2.2.2.1 D h0 h L0 g d tk os Z N A Q E t114 t37 rg it so sc c1 c2 c3 c4 c5 kk kt m o s tm to ts km ko ks kl tx x q0 q1 q2 q3 q4 q5 p hD hA S hp hs e0 e1 e2 e3 e4 e5 hQ
theorem st4b {D : Nat} {w : World} {h0 h : Heap} {L0 : List (Addr × Obj)} {g : Array GenState} {d : Drawn} {tk : Nat} {os : OsState} {Z N : Nat} {A : Around} {Q : Flow → Shared → Prop} {E : Value → Shared → Prop} {t114 t37 rg it so : Obj} {sc : Addr} {c1 c2 c3 c4 c5 : Option Value} {kk kt : Tok} {m o s : Int} {tm to ts km ko ks kl tx : Tok} {x : Str} {f q : Int} {tf tq : Tok}
    (hD : D ≤ 700) (hA : Bd D A) (S : Sg L0 h0 (LD w t114 t37 sc so N (lfr w [("k", kk, .int 1 kt), ("more", km, .int m tm), ("mode", ko, .int o to), ("start", ks, .int s ts), ("told", kl, .str x tx)]) c1 (some (.int f tf)) (some (.int q tq)) c4 c5 rg it) Z h) (hQ : ∀ h', Sg L0 h0 (LD w t114 t37 sc so N (lfr w [("k", kk, .int 1 kt), ("more", km, .int m tm), ("mode", ko, .int o to), ("start", ks, .int s ts), ("told", kl, .str x tx)]) c1 (some (.int f tf)) (some (.int q tq)) (some (.int (f + q) tk)) c5 rg it) Z h' → Q .next ⟨h', g, d, tk + 1, os⟩) :
    wpAny (model PG w) A (exec (stmtN 4) (lawEnv N)) Q E ⟨h, g, d, tk, os⟩ := @(st1_m (w := w)).2.2.2.2.2.2.2 D h0 h L0 g d tk os Z N A Q E t114 t37 rg it so sc c1 c2 c3 c4 c5 kk kt m o s tm to ts km ko ks kl tx x f q tf tq hD hA S hQ
end Mine
end
section
namespace Mine
set_option maxHeartbeats 8000000
noncomputable def cut6 (x : Str) (s : Int) (y : Str) : Prop := ∀ t t' : Tok, (⟨((slicePicked x (some (s, t)) (some (s + 6, t')) none).filterMap (x.cps[·]?)).toArray⟩ : Str) = y ∧ ((slicePicked x (some (s, t)) (some (s + 6, t')) none).length == x.length) = false
theorem cuts {c0 c1 c2 c3 c4 c5 c6 c7 c8 c9 : Nat} :
    cut6 ⟨#[c0, c1, c2, c3, c4, c5, c6, c7, c8, c9]⟩ (((0 : Nat) : Int) + 1) ⟨#[c1, c2, c3, c4, c5, c6]⟩ ∧ cut6 ⟨#[c0, c1, c2, c3, c4, c5, c6, c7, c8, c9]⟩ (((1 : Nat) : Int) + 1) ⟨#[c2, c3, c4, c5, c6, c7]⟩ ∧
    cut6 ⟨#[c0, c1, c2, c3, c4, c5, c6, c7, c8, c9]⟩ (((2 : Nat) : Int) + 1) ⟨#[c3, c4, c5, c6, c7, c8]⟩ ∧ cut6 ⟨#[c0, c1, c2, c3, c4, c5, c6, c7, c8, c9]⟩ (((3 : Nat) : Int) + 1) ⟨#[c4, c5, c6, c7, c8, c9]⟩ :=
  ⟨fun _ _ => ⟨by kernel_rfl, by kernel_rfl⟩, fun _ _ => ⟨by kernel_rfl, by kernel_rfl⟩, fun _ _ => ⟨by kernel_rfl, by kernel_rfl⟩, fun _ _ => ⟨by kernel_rfl, by kernel_rfl⟩⟩
theorem oCut {w : World} {x y : Str} {t u v : Tok} {s : Int} {a : Addr} {tk : Nat} (h : cut6 x s y) (hy : y.length ≤ 100) : ObOK PG w ⟨.call (.builtin "str.__getitem__") ⟨[.str x t, .ref a], []⟩, [(a, sliceO (.int s u) (.int (s + 6) v) .none)], tk, .str y tk, 1⟩ :=
  ob_slice (l := some (s, u)) (u := some (s + 6, v)) (st := none) rfl (by rw [(h u v).2]; rfl) (h u v).1 (by rw [sizeLine_eq]; omega)
theorem oRev {w : World} {d0 d1 d2 d3 d4 d5 : Nat} {t v : Tok} {a : Addr} {tk : Nat} : ObOK PG w ⟨.call (.builtin "str.__getitem__") ⟨[.str ⟨#[d0, d1, d2, d3, d4, d5]⟩ t, .ref a], []⟩, [(a, sliceO .none .none (.int (-1) v))], tk, .str ⟨#[d5, d4, d3, d2, d1, d0]⟩ tk, 1⟩ :=
  ob_slice (l := none) (u := none) (st := some (-1, v)) rfl rfl (by kernel_rfl) (by show 6 ≤ sizeLine; rw [sizeLine_eq]; omega)
theorem st5_m {w : World} : (∀ {D : Nat} {h0 h : Heap} {L0 : List (Addr × Obj)} {g : Array GenState} {d : Drawn} {tk : Nat} {os : OsState} {Z N : Nat} {A : Around} {Q : Flow → Shared → Prop} {E : Value → Shared → Prop} {t114 t37 rg it so : Obj} {sc : Addr} {c1 c2 c3 c4 c5 : Option Value} {kk kt : Tok} {m o s : Int} {tm to ts km ko ks kl tx : Tok} {x : Str} {q0 q1 q2 q3 q4 q5 : Bool} {p : Nat} (hD : D ≤ 600) (hA : Bd D A) (S : Sg L0 h0 (LD w t114 t37 sc so N (lfr w [("k", kk, .int 0 kt), ("more", km, .int m tm), ("mode", ko, .int o to), ("start", ks, .int s ts)]) c1 c2 c3 c4 c5 rg it) Z h) (ho : 0 ≤ o) (hp : p < 4) (hs : s = (p : Int) + 1) (e0 : bitQ o (p + 6) = q0) (e1 : bitQ o (p + 5) = q1) (e2 : bitQ o (p + 4) = q2) (e3 : bitQ o (p + 3) = q3) (e4 : bitQ o (p + 2) = q4) (e5 : bitQ o (p + 1) = q5) (hok : okF [q0, q1, q2, q3, q4, q5] sAL = true) (hQ : ∀ h' (tk' : Nat) (t' : Tok) tk'' Z', Sg L0 h0 (LD w t114 t37 sc so N (lfr w [("k", kk, .int 0 kt), ("more", km, .int m tm), ("mode", ko, .int o to), ("start", ks, .int s ts), ("told", tk', .str (folded [q0, q1, q2, q3, q4, q5] sAL) t')]) c1 c2 c3 c4 c5 rg it) Z' h' → Q .next ⟨h', g, d, tk'', os⟩), wpAny (model PG w) A (exec (stmtN 5) (lawEnv N)) Q E ⟨h, g, d, tk, os⟩) ∧
    (∀ {D : Nat} {h0 h : Heap} {L0 : List (Addr × Obj)} {g : Array GenState} {d : Drawn} {tk : Nat} {os : OsState} {Z N : Nat} {A : Around} {Q : Flow → Shared → Prop} {E : Value → Shared → Prop} {t114 t37 rg it so : Obj} {sc : Addr} {c1 c2 c3 c4 c5 : Option Value} {kk kt : Tok} {m o s : Int} {tm to ts km ko ks kl tx : Tok} {x : Str} {q0 q1 q2 q3 q4 q5 : Bool} {p : Nat} (hD : D ≤ 600) (hA : Bd D A) (S : Sg L0 h0 (LD w t114 t37 sc so N (lfr w [("k", kk, .int 1 kt), ("more", km, .int m tm), ("mode", ko, .int o to), ("start", ks, .int s ts), ("told", kl, .str x tx)]) c1 c2 c3 c4 c5 rg it) Z h) (ho : 0 ≤ o) (hp : p < 4) (hs : s = (p : Int) + 1) (e0 : bitQ o (p + 6) = q0) (e1 : bitQ o (p + 5) = q1) (e2 : bitQ o (p + 4) = q2) (e3 : bitQ o (p + 3) = q3) (e4 : bitQ o (p + 2) = q4) (e5 : bitQ o (p + 1) = q5) (hok : okF [q0, q1, q2, q3, q4, q5] sAL = true) (hQ : ∀ h' (tk' : Nat) (t' : Tok) tk'' Z', Sg L0 h0 (LD w t114 t37 sc so N (lfr w [("k", kk, .int 1 kt), ("more", km, .int m tm), ("mode", ko, .int o to), ("start", ks, .int s ts), ("told", kl, .str (folded [q0, q1, q2, q3, q4, q5] sAL) t')]) c1 c2 c3 c4 c5 rg it) Z' h' → Q .next ⟨h', g, d, tk'', os⟩), wpAny (model PG w) A (exec (stmtN 5) (lawEnv N)) Q E ⟨h, g, d, tk, os⟩) := by
  refine ⟨?_, ?_⟩
  · intro D h0 h L0 g d tk os Z N A Q E t114 t37 rg it so sc c1 c2 c3 c4 c5 kk kt m o s tm to ts km ko ks kl tx x q0 q1 q2 q3 q4 q5 p hD hA S ho hp hs e0 e1 e2 e3 e4 e5 hok hQ
    refine opTop (D := D) fun W hW => ?_
    refine opM hW (by first | exact dD hD rfl | exact dD0 hD rfl | omega) hA S 0 hS5a (List.range 69) [] (.call (.ref 98) ⟨[.int o to], []⟩) (LD w t114 t37 sc so N (lfr w [("k", kk, .int 0 kt), ("more", km, .int m tm), ("mode", ko, .int o to), ("start", ks, .int s ts)]) c1 c2 c3 c4 c5 rg it) Z tk (fun b => by cases b <;> kernel_rfl) (by decide) .nil fun W1 hW1 h1 S1 A1 a1 => ?_
    have H1 : Lg (LF w) h1 := (by kernel_rfl : Mine.pick (LD w t114 t37 sc so N (lfr w [("k", kk, .int 0 kt), ("more", km, .int m tm), ("mode", ko, .int o to), ("start", ks, .int s ts)]) c1 c2 c3 c4 c5 rg it) isFm = LF w) ▸ S1.lg.pick (is := isFm) (by decide)
    refine fm_call (D := D + 60) ho (by first | exact dD hD rfl | exact dD0 hD rfl | omega) a1 H1 S1.sz fun h2 N2 tk2 t2 z0 z1 z2 z3 z4 z5 z6 z7 z8 z9 T2 l2 r1 r2 r3 r4 r5 r6 r7 r8 r9 hc => ?_
    have S2 := S1.keep H1 T2
    obtain ⟨d0, d1, d2, d3, d4, d5, hcut, E0, E1, E2, E3, E4, E5, hd⟩ : ∃ d0 d1 d2 d3 d4 d5, cut6 ⟨#[z0, z1, z2, z3, z4, z5, z6, z7, z8, z9]⟩ s ⟨#[d0, d1, d2, d3, d4, d5]⟩ ∧ has sRw (chS d5) = q0 ∧ has sRw (chS d4) = q1 ∧ has sRw (chS d3) = q2 ∧ has sRw (chS d2) = q3 ∧ has sRw (chS d1) = q4 ∧ has sRw (chS d0) = q5 ∧ (⟨#[d5, d4, d3, d2, d1, d0]⟩ : Str).cps.all (· < 128) = true := by
      simp only [List.all_cons, List.all_nil, Bool.and_true, Bool.and_eq_true] at hc
      obtain ⟨k1, k2, k3, k4, k5, k6, k7, k8, k9⟩ := hc
      have hp4 : p = 0 ∨ p = 1 ∨ p = 2 ∨ p = 3 := by omega
      rcases hp4 with rfl | rfl | rfl | rfl
      · exact ⟨z1, z2, z3, z4, z5, z6, hs ▸ cuts.1, r6.trans e0, r5.trans e1, r4.trans e2, r3.trans e3, r2.trans e4, r1.trans e5, by simp [of_decide_eq_true k1, of_decide_eq_true k2, of_decide_eq_true k3, of_decide_eq_true k4, of_decide_eq_true k5, of_decide_eq_true k6, of_decide_eq_true k7, of_decide_eq_true k8, of_decide_eq_true k9]⟩
      · exact ⟨z2, z3, z4, z5, z6, z7, hs ▸ cuts.2.1, r7.trans e0, r6.trans e1, r5.trans e2, r4.trans e3, r3.trans e4, r2.trans e5, by simp [of_decide_eq_true k1, of_decide_eq_true k2, of_decide_eq_true k3, of_decide_eq_true k4, of_decide_eq_true k5, of_decide_eq_true k6, of_decide_eq_true k7, of_decide_eq_true k8, of_decide_eq_true k9]⟩
      · exact ⟨z3, z4, z5, z6, z7, z8, hs ▸ cuts.2.2.1, r8.trans e0, r7.trans e1, r6.trans e2, r5.trans e3, r4.trans e4, r3.trans e5, by simp [of_decide_eq_true k1, of_decide_eq_true k2, of_decide_eq_true k3, of_decide_eq_true k4, of_decide_eq_true k5, of_decide_eq_true k6, of_decide_eq_true k7, of_decide_eq_true k8, of_decide_eq_true k9]⟩
      · exact ⟨z4, z5, z6, z7, z8, z9, hs ▸ cuts.2.2.2, r9.trans e0, r8.trans e1, r7.trans e2, r6.trans e3, r5.trans e4, r4.trans e5, by simp [of_decide_eq_true k1, of_decide_eq_true k2, of_decide_eq_true k3, of_decide_eq_true k4, of_decide_eq_true k5, of_decide_eq_true k6, of_decide_eq_true k7, of_decide_eq_true k8, of_decide_eq_true k9]⟩
    refine opM (hW1 _) (by first | exact dD hD rfl | exact dD0 hD rfl | omega) hA S2 0 (hS5b ⟨#[d0, d1, d2, d3, d4, d5]⟩ ⟨#[d5, d4, d3, d2, d1, d0]⟩ tk2) (List.range 69) _ (.call (.ref 51) ⟨[.ref 105, .str ⟨#[d5, d4, d3, d2, d1, d0]⟩ (tk2 + 5), .str sAL (tk2 + 6)], []⟩) (LD w t114 t37 sc so N (lfr w [("k", kk, .int 0 kt), ("more", km, .int m tm), ("mode", ko, .int o to), ("start", ks, .int s ts)]) c1 c2 c3 c4 c5 rg it) (N2 + 2) (tk2 + 7) (fun b => by cases b <;> kernel_rfl) (by decide)
      (.cons (oCut (t := t2) (u := ts) (v := tk2 + 1) (a := N2) (tk := tk2 + 2) hcut (by show 6 ≤ 100; omega)) <| .cons (oRev (d0 := d0) (d1 := d1) (d2 := d2) (d3 := d3) (d4 := d4) (d5 := d5) (t := tk2 + 2) (v := tk2 + 4) (a := N2 + 1) (tk := tk2 + 5)) .nil) fun W2 hW2 h3 S3 A3 a3 => ?_
    have H3 : Lg (LR w) h3 := (by kernel_rfl : Mine.pick (LD w t114 t37 sc so N (lfr w [("k", kk, .int 0 kt), ("more", km, .int m tm), ("mode", ko, .int o to), ("start", ks, .int s ts)]) c1 c2 c3 c4 c5 rg it) isR = LR w) ▸ S3.lg.pick (is := isR) (by decide)
    refine red_call (D := D + 60) (by first | exact dD hD rfl | exact dD0 hD rfl | omega) a3 H3 S3.sz hd E0 E1 E2 E3 E4 E5 hok fun h4 N4 tk3 t3 T4 l4 => ?_
    have S4 := S3.keep H3 T4
    exact opX (hW2 _) (by first | exact dD hD rfl | exact dD0 hD rfl | omega) hA S4 0 hS5c (List.range 69) [] .next (LD w t114 t37 sc so N (lfr w [("k", kk, .int 0 kt), ("more", km, .int m tm), ("mode", ko, .int o to), ("start", ks, .int s ts), ("told", tk3, .str (folded [q0, q1, q2, q3, q4, q5] sAL) t3)]) c1 c2 c3 c4 c5 rg it) N4 (tk3 + 1) (fun b => by cases b <;> kernel_rfl) (by decide) .nil fun h5 S5 => hQ h5 tk3 t3 _ _ S5
  · intro D h0 h L0 g d tk os Z N A Q E t114 t37 rg it so sc c1 c2 c3 c4 c5 kk kt m o s tm to ts km ko ks kl tx x q0 q1 q2 q3 q4 q5 p hD hA S ho hp hs e0 e1 e2 e3 e4 e5 hok hQ
    refine opTop (D := D) fun W hW => ?_
    refine opM hW (by first | exact dD hD rfl | exact dD0 hD rfl | omega) hA S 0 hS5a (List.range 69) [] (.call (.ref 98) ⟨[.int o to], []⟩) (LD w t114 t37 sc so N (lfr w [("k", kk, .int 1 kt), ("more", km, .int m tm), ("mode", ko, .int o to), ("start", ks, .int s ts), ("told", kl, .str x tx)]) c1 c2 c3 c4 c5 rg it) Z tk (fun b => by cases b <;> kernel_rfl) (by decide) .nil fun W1 hW1 h1 S1 A1 a1 => ?_
    have H1 : Lg (LF w) h1 := (by kernel_rfl : Mine.pick (LD w t114 t37 sc so N (lfr w [("k", kk, .int 1 kt), ("more", km, .int m tm), ("mode", ko, .int o to), ("start", ks, .int s ts), ("told", kl, .str x tx)]) c1 c2 c3 c4 c5 rg it) isFm = LF w) ▸ S1.lg.pick (is := isFm) (by decide)
    refine fm_call (D := D + 60) ho (by first | exact dD hD rfl | exact dD0 hD rfl | omega) a1 H1 S1.sz fun h2 N2 tk2 t2 z0 z1 z2 z3 z4 z5 z6 z7 z8 z9 T2 l2 r1 r2 r3 r4 r5 r6 r7 r8 r9 hc => ?_
    have S2 := S1.keep H1 T2
    obtain ⟨d0, d1, d2, d3, d4, d5, hcut, E0, E1, E2, E3, E4, E5, hd⟩ : ∃ d0 d1 d2 d3 d4 d5, cut6 ⟨#[z0, z1, z2, z3, z4, z5, z6, z7, z8, z9]⟩ s ⟨#[d0, d1, d2, d3, d4, d5]⟩ ∧ has sRw (chS d5) = q0 ∧ has sRw (chS d4) = q1 ∧ has sRw (chS d3) = q2 ∧ has sRw (chS d2) = q3 ∧ has sRw (chS d1) = q4 ∧ has sRw (chS d0) = q5 ∧ (⟨#[d5, d4, d3, d2, d1, d0]⟩ : Str).cps.all (· < 128) = true := by
      simp only [List.all_cons, List.all_nil, Bool.and_true, Bool.and_eq_true] at hc
      obtain ⟨k1, k2, k3, k4, k5, k6, k7, k8, k9⟩ := hc
      have hp4 : p = 0 ∨ p = 1 ∨ p = 2 ∨ p = 3 := by omega
      rcases hp4 with rfl | rfl | rfl | rfl
      · exact ⟨z1, z2, z3, z4, z5, z6, hs ▸ cuts.1, r6.trans e0, r5.trans e1, r4.trans e2, r3.trans e3, r2.trans e4, r1.trans e5, by simp [of_decide_eq_true k1, of_decide_eq_true k2, of_decide_eq_true k3, of_decide_eq_true k4, of_decide_eq_true k5, of_decide_eq_true k6, of_decide_eq_true k7, of_decide_eq_true k8, of_decide_eq_true k9]⟩
      · exact ⟨z2, z3, z4, z5, z6, z7, hs ▸ cuts.2.1, r7.trans e0, r6.trans e1, r5.trans e2, r4.trans e3, r3.trans e4, r2.trans e5, by simp [of_decide_eq_true k1, of_decide_eq_true k2, of_decide_eq_true k3, of_decide_eq_true k4, of_decide_eq_true k5, of_decide_eq_true k6, of_decide_eq_true k7, of_decide_eq_true k8, of_decide_eq_true k9]⟩
      · exact ⟨z3, z4, z5, z6, z7, z8, hs ▸ cuts.2.2.1, r8.trans e0, r7.trans e1, r6.trans e2, r5.trans e3, r4.trans e4, r3.trans e5, by simp [of_decide_eq_true k1, of_decide_eq_true k2, of_decide_eq_true k3, of_decide_eq_true k4, of_decide_eq_true k5, of_decide_eq_true k6, of_decide_eq_true k7, of_decide_eq_true k8, of_decide_eq_true k9]⟩
      · exact ⟨z4, z5, z6, z7, z8, z9, hs ▸ cuts.2.2.2, r9.trans e0, r8.trans e1, r7.trans e2, r6.trans e3, r5.trans e4, r4.trans e5, by simp [of_decide_eq_true k1, of_decide_eq_true k2, of_decide_eq_true k3, of_decide_eq_true k4, of_decide_eq_true k5, of_decide_eq_true k6, of_decide_eq_true k7, of_decide_eq_true k8, of_decide_eq_true k9]⟩
    refine opM (hW1 _) (by first | exact dD hD rfl | exact dD0 hD rfl | omega) hA S2 0 (hS5b ⟨#[d0, d1, d2, d3, d4, d5]⟩ ⟨#[d5, d4, d3, d2, d1, d0]⟩ tk2) (List.range 69) _ (.call (.ref 51) ⟨[.ref 105, .str ⟨#[d5, d4, d3, d2, d1, d0]⟩ (tk2 + 5), .str sAL (tk2 + 6)], []⟩) (LD w t114 t37 sc so N (lfr w [("k", kk, .int 1 kt), ("more", km, .int m tm), ("mode", ko, .int o to), ("start", ks, .int s ts), ("told", kl, .str x tx)]) c1 c2 c3 c4 c5 rg it) (N2 + 2) (tk2 + 7) (fun b => by cases b <;> kernel_rfl) (by decide)
      (.cons (oCut (t := t2) (u := ts) (v := tk2 + 1) (a := N2) (tk := tk2 + 2) hcut (by show 6 ≤ 100; omega)) <| .cons (oRev (d0 := d0) (d1 := d1) (d2 := d2) (d3 := d3) (d4 := d4) (d5 := d5) (t := tk2 + 2) (v := tk2 + 4) (a := N2 + 1) (tk := tk2 + 5)) .nil) fun W2 hW2 h3 S3 A3 a3 => ?_
    have H3 : Lg (LR w) h3 := (by kernel_rfl : Mine.pick (LD w t114 t37 sc so N (lfr w [("k", kk, .int 1 kt), ("more", km, .int m tm), ("mode", ko, .int o to), ("start", ks, .int s ts), ("told", kl, .str x tx)]) c1 c2 c3 c4 c5 rg it) isR = LR w) ▸ S3.lg.pick (is := isR) (by decide)
    refine red_call (D := D + 60) (by first | exact dD hD rfl | exact dD0 hD rfl | omega) a3 H3 S3.sz hd E0 E1 E2 E3 E4 E5 hok fun h4 N4 tk3 t3 T4 l4 => ?_
    have S4 := S3.keep H3 T4
    exact opX (hW2 _) (by first | exact dD hD rfl | exact dD0 hD rfl | omega) hA S4 0 hS5c (List.range 69) [] .next (LD w t114 t37 sc so N (lfr w [("k", kk, .int 1 kt), ("more", km, .int m tm), ("mode", ko, .int o to), ("start", ks, .int s ts), ("told", kl, .str (folded [q0, q1, q2, q3, q4, q5] sAL) t3)]) c1 c2 c3 c4 c5 rg it) N4 (tk3 + 1) (fun b => by cases b <;> kernel_rfl) (by decide) .nil fun h5 S5 => hQ h5 tk3 t3 _ _ S5
theorem st5a {D : Nat} {w : World} {h0 h : Heap} {L0 : List (Addr × Obj)} {g : Array GenState} {d : Drawn} {tk : Nat} {os : OsState} {Z N : Nat} {A : Around} {Q : Flow → Shared → Prop} {E : Value → Shared → Prop} {t114 t37 rg it so : Obj} {sc : Addr} {c1 c2 c3 c4 c5 : Option Value} {kk kt : Tok} {m o s : Int} {tm to ts km ko ks kl tx : Tok} {x : Str} {q0 q1 q2 q3 q4 q5 : Bool} {p : Nat}
    (hD : D ≤ 600) (hA : Bd D A) (S : Sg L0 h0 (LD w t114 t37 sc so N (lfr w [("k", kk, .int 0 kt), ("more", km, .int m tm), ("mode", ko, .int o to), ("start", ks, .int s ts)]) c1 c2 c3 c4 c5 rg it) Z h) (ho : 0 ≤ o) (hp : p < 4) (hs : s = (p : Int) + 1) (e0 : bitQ o (p + 6) = q0) (e1 : bitQ o (p + 5) = q1) (e2 : bitQ o (p + 4) = q2) (e3 : bitQ o (p + 3) = q3) (e4 : bitQ o (p + 2) = q4) (e5 : bitQ o (p + 1) = q5) (hok : okF [q0, q1, q2, q3, q4, q5] sAL = true)
    (hQ : ∀ h' (tk' : Nat) (t' : Tok) tk'' Z', Sg L0 h0 (LD w t114 t37 sc so N (lfr w [("k", kk, .int 0 kt), ("more", km, .int m tm), ("mode", ko, .int o to), ("start", ks, .int s ts), ("told", tk', .str (folded [q0, q1, q2, q3, q4, q5] sAL) t')]) c1 c2 c3 c4 c5 rg it) Z' h' → Q .next ⟨h', g, d, tk'', os⟩) :
    wpAny (model PG w) A (exec (stmtN 5) (lawEnv N)) Q E ⟨h, g, d, tk, os⟩ := @(st5_m (w := w)).1 D h0 h L0 g d tk os Z N A Q E t114 t37 rg it so sc c1 c2 c3 c4 c5 kk kt m o s tm to ts km ko ks kl tx x q0 q1 q2 q3 q4 q5 p hD hA S ho hp hs e0 e1 e2 e3 e4 e5 hok hQ
theorem st5b {D : Nat} {w : World} {h0 h : Heap} {L0 : List (Addr × Obj)} {g : Array GenState} {d : Drawn} {tk : Nat} {os : OsState} {Z N : Nat} {A : Around} {Q : Flow → Shared → Prop} {E : Value → Shared → Prop} {t114 t37 rg it so : Obj} {sc : Addr} {c1 c2 c3 c4 c5 : Option Value} {kk kt : Tok} {m o s : Int} {tm to ts km ko ks kl tx : Tok} {x : Str} {q0 q1 q2 q3 q4 q5 : Bool} {p : Nat}
    (hD : D ≤ 600) (hA : Bd D A) (S : Sg L0 h0 (LD w t114 t37 sc so N (lfr w [("k", kk, .int 1 kt), ("more", km, .int m tm), ("mode", ko, .int o to), ("start", ks, .int s ts), ("told", kl, .str x tx)]) c1 c2 c3 c4 c5 rg it) Z h) (ho : 0 ≤ o) (hp : p < 4) (hs : s = (p : Int) + 1) (e0 : bitQ o (p + 6) = q0) (e1 : bitQ o (p + 5) = q1) (e2 : bitQ o (p + 4) = q2) (e3 : bitQ o (p + 3) = q3) (e4 : bitQ o (p + 2) = q4) (e5 : bitQ o (p + 1) = q5) (hok : okF [q0, q1, q2, q3, q4, q5] sAL = true)
    (hQ : ∀ h' (tk' : Nat) (t' : Tok) tk'' Z', Sg L0 h0 (LD w t114 t37 sc so N (lfr w [("k", kk, .int 1 kt), ("more", km, .int m tm), ("mode", ko, .int o to), ("start", ks, .int s ts), ("told", kl, .str (folded [q0, q1, q2, q3, q4, q5] sAL) t')]) c1 c2 c3 c4 c5 rg it) Z' h' → Q .next ⟨h', g, d, tk'', os⟩) :
    wpAny (model PG w) A (exec (stmtN 5) (lawEnv N)) Q E ⟨h, g, d, tk, os⟩ := @(st5_m (w := w)).2 D h0 h L0 g d tk os Z N A Q E t114 t37 rg it so sc c1 c2 c3 c4 c5 kk kt m o s tm to ts km ko ks kl tx x q0 q1 q2 q3 q4 q5 p hD hA S ho hp hs e0 e1 e2 e3 e4 e5 hok hQ
end Mine
end
section
namespace Mine
set_option maxHeartbeats 8000000
noncomputable def hRg : List Hm := [.cl none, .ag none, .cl none, .ag none, .go [.fr, .fr, .al], .rt, .go [.ld 69, .ld 69], .cl none, .go [.ld 69], .ag none, .go [.ld 69], .rt, .rt, .go [.ld 69, .ld 69]]
noncomputable def hS6a : List Hm := .go [.ld 61, .fr, .ld 3, .ld 4, .ld 65] :: hRg
noncomputable def hS7a : List Hm := .go [.ld 3, .ld 4, .ld 65] :: hRg
noncomputable def hJd : List Hm := [.go [.ld 72, .ld 72, .up 72]]
noncomputable def hS7b : List Hm := [.go [.ld 72, .ld 72, .up 72, .fr, .ld 71, .ld 71, .ld 71]]
noncomputable def hS7c : List Hm := [.cl none, .rt, .go [.ld 66, .up 66]]
noncomputable def sE : Str := Str.ofString ""
/-- the line's word, sign by sign -/
noncomputable def wordL (f q n : Int) (k : Nat) : List Str := (List.range k).map fun i => if decide ((((i : Nat) : Int) * q).fmod n < f) then sA else sLt
noncomputable def strP (v : Value) : Str × Tok := match v with | .str s t => (s, t) | _ => (sE, 0)
theorem mk_strs {f q n : Int} {k : Nat} {xs : Array Value} (h : Mk (txF f q n) k xs) : strValues (xs.toList.map strP) = xs.toList ∧ (xs.toList.map strP).map (·.1) = wordL f q n k := by
  have hl : xs.toList.length = k := by rw [Array.length_toList]; exact h.1
  constructor
  · unfold strValues
    rw [List.map_map]
    conv => rhs; rw [← List.map_id xs.toList]
    refine List.map_congr_left fun v hv => ?_
    obtain ⟨i, hi⟩ := List.getElem?_of_mem hv
    obtain ⟨t, e⟩ := h.2 i v (by simpa using hi)
    rw [e]; rfl
  · rw [List.map_map]
    unfold wordL
    refine List.ext_getElem (by simp [hl]) fun i h1 h2 => ?_
    have hi : i < xs.size := by rw [List.length_map, Array.length_toList] at h1; exact h1
    obtain ⟨t, e⟩ := h.2 i xs[i] (Array.getElem?_eq_getElem hi)
    rw [List.getElem_map, List.getElem_map, List.getElem_range, Array.getElem_toList]
    show (strP xs[i]).1 = _
    rw [e]; rfl
noncomputable def joinOk (l : List Str) : Bool := !Builtin.Str.tooLong (l.toArray.foldl (· + ·.length + sE.length) 0) && Nat.ble (Builtin.Str.glued sE l).length 100000
theorem join_call {w : World} {h0 h : Heap} {L0 L : List (Addr × Obj)} {g : Array GenState} {d : Drawn} {tk : Nat} {os : OsState} {Z i e k : Nat} {A : Around} {R : Result → Shared → Prop} {a : Addr} {xs : Array Value} {t : Tok} {f q n : Int}
    (S : Sg L0 h0 L Z h) (hi : L[i]? = some (a, seqObj "list" xs e)) (hx : Mk (txF f q n) k xs) (hk : 2 ≤ k) (hok : joinOk (wordL f q n k) = true) (hR : R (.ok (.ret (.str (Builtin.Str.glued sE (wordL f q n k)) tk))) ⟨h, g, d, tk + 1, os⟩) :
    codeAny (model PG w) A (.call (.builtin "str.join") ⟨[.str sE t, .ref a], []⟩) R ⟨h, g, d, tk, os⟩ := by
  have ho : h.get? a = some (seqObj "list" xs e) := S.lg.get hi
  obtain ⟨m1, m2⟩ := mk_strs hx
  unfold joinOk at hok
  simp only [Bool.and_eq_true, Bool.not_eq_true'] at hok
  refine codeAny_call_builtin F.slot_str_join.plain F.entry_str_join (F.slot_str_join.check _ _ _ _ _ _ _ _ (typeIs_str _ sE t) (F.args_str_join_2 _ _) (meets_str_join_list sE t a (xs.toList.map strP) (by rw [m2]; exact hok.1) PG w A R _ ⟨?_, ?_⟩))
  · rw [m1]
    exact ints_list (e := e) (by simpa using ho)
  · have hl : (xs.toList.map strP).length = k := by rw [List.length_map, Array.length_toList]; exact hx.1
    have : ∃ u v r, xs.toList.map strP = u :: v :: r := by
      match hh : xs.toList.map strP, hl with
      | [], hl => simp at hl; omega
      | [_], hl => simp at hl; omega
      | u :: v :: r, _ => exact ⟨u, v, r, rfl⟩
    obtain ⟨u, v, r, e2⟩ := this
    rw [e2] at m2 ⊢
    show (Made.str (Builtin.Str.glued sE ((u :: v :: r).map (·.1)))).post _ _
    rw [m2]
    exact ⟨Nat.le_trans (Nat.ble_eq.mp hok.2) (by rw [sizeLine_eq]; omega), hR⟩
theorem oNe {w : World} (x : Str) (t : Tok) (y : Str) (u : Tok) (tk : Nat) (h : x = y) : ObOK PG w ⟨.call (.builtin "str.__ne__") ⟨[.str x t, .str y u], []⟩, [], tk, .bool false, 0⟩ := ob_ne (by subst h; simp)
theorem st6_m {w : World} : (∀ {D : Nat} {h0 h : Heap} {L0 : List (Addr × Obj)} {g : Array GenState} {d : Drawn} {tk : Nat} {os : OsState} {Z N : Nat} {A : Around} {Q : Flow → Shared → Prop} {E : Value → Shared → Prop} {t114 t37 rg it so : Obj} {sc : Addr} {c1 c5 : Option Value} {kk kt : Tok} {m o s : Int} {tm to ts km ko ks kl tx : Tok} {x : Str} {f q : Int} {n : Nat} {tf tq tn : Tok} (hD : D ≤ 600) (hA : Bd D A) (S : Sg L0 h0 (LD w t114 t37 sc so N (lfr w [("k", kk, .int 0 kt), ("more", km, .int m tm), ("mode", ko, .int o to), ("start", ks, .int s ts), ("told", kl, .str x tx)]) c1 (some (.int f tf)) (some (.int q tq)) (some (.int (n : Nat) tn)) c5 rg it) Z h) (hn : 2 ≤ n) (h64 : n < 64) (hj : joinOk (wordL f q n n) = true) (hx : x = Builtin.Str.glued sE (wordL f q n n)) (hQ : ∀ h' tk' Z', Sg L0 h0 (LD w t114 t37 sc so N (lfr w [("k", kk, .int 0 kt), ("more", km, .int m tm), ("mode", ko, .int o to), ("start", ks, .int s ts), ("told", kl, .str x tx)]) c1 (some (.int f tf)) (some (.int q tq)) (some (.int (n : Nat) tn)) c5 rg it) Z' h' → Q .next ⟨h', g, d, tk', os⟩), wpAny (model PG w) A (exec (stmtN 6) (lawEnv N)) Q E ⟨h, g, d, tk, os⟩) ∧
    (∀ {D : Nat} {h0 h : Heap} {L0 : List (Addr × Obj)} {g : Array GenState} {d : Drawn} {tk : Nat} {os : OsState} {Z N : Nat} {A : Around} {Q : Flow → Shared → Prop} {E : Value → Shared → Prop} {t114 t37 rg it so : Obj} {sc : Addr} {c1 c5 : Option Value} {kk kt : Tok} {m o s : Int} {tm to ts km ko ks kl tx : Tok} {x : Str} {f q : Int} {n s0 : Nat} {tf tq tn : Tok} (hD : D ≤ 600) (hA : Bd D A) (S : Sg L0 h0 (LD w t114 t37 sc so N (lfr w [("k", kk, .int 0 kt), ("more", km, .int m tm), ("mode", ko, .int o to), ("start", ks, .int s ts), ("told", kl, .str x tx)]) c1 (some (.int f tf)) (some (.int q tq)) (some (.int (n : Nat) tn)) c5 rg it) Z h) (hn : 2 ≤ n) (h64 : n < 64) (hs0 : ((List.range n).filter (fun j => (((j : Nat) : Int) * q).fmod n == 1)).head? = some s0) (hQ : ∀ h' tk' Z' (ts0 : Tok), Sg L0 h0 (LD w t114 t37 sc so N (lfr w [("k", kk, .int 0 kt), ("more", km, .int m tm), ("mode", ko, .int o to), ("start", ks, .int s ts), ("told", kl, .str x tx)]) c1 (some (.int f tf)) (some (.int q tq)) (some (.int (n : Nat) tn)) (some (.int ((s0 : Nat) : Int) ts0)) rg it) Z' h' → Q .next ⟨h', g, d, tk', os⟩), wpAny (model PG w) A (exec (stmtN 7) (lawEnv N)) Q E ⟨h, g, d, tk, os⟩) ∧
    (∀ {D : Nat} {h0 h : Heap} {L0 : List (Addr × Obj)} {g : Array GenState} {d : Drawn} {tk : Nat} {os : OsState} {Z N : Nat} {A : Around} {Q : Flow → Shared → Prop} {E : Value → Shared → Prop} {t114 t37 rg it so : Obj} {sc : Addr} {c1 c5 : Option Value} {kk kt : Tok} {m o s : Int} {tm to ts km ko ks kl tx : Tok} {x : Str} {f q : Int} {n : Nat} {tf tq tn : Tok} (hD : D ≤ 600) (hA : Bd D A) (S : Sg L0 h0 (LD w t114 t37 sc so N (lfr w [("k", kk, .int 1 kt), ("more", km, .int m tm), ("mode", ko, .int o to), ("start", ks, .int s ts), ("told", kl, .str x tx)]) c1 (some (.int f tf)) (some (.int q tq)) (some (.int (n : Nat) tn)) c5 rg it) Z h) (hn : 2 ≤ n) (h64 : n < 64) (hj : joinOk (wordL f q n n) = true) (hx : x = Builtin.Str.glued sE (wordL f q n n)) (hQ : ∀ h' tk' Z', Sg L0 h0 (LD w t114 t37 sc so N (lfr w [("k", kk, .int 1 kt), ("more", km, .int m tm), ("mode", ko, .int o to), ("start", ks, .int s ts), ("told", kl, .str x tx)]) c1 (some (.int f tf)) (some (.int q tq)) (some (.int (n : Nat) tn)) c5 rg it) Z' h' → Q .next ⟨h', g, d, tk', os⟩), wpAny (model PG w) A (exec (stmtN 6) (lawEnv N)) Q E ⟨h, g, d, tk, os⟩) ∧
    (∀ {D : Nat} {h0 h : Heap} {L0 : List (Addr × Obj)} {g : Array GenState} {d : Drawn} {tk : Nat} {os : OsState} {Z N : Nat} {A : Around} {Q : Flow → Shared → Prop} {E : Value → Shared → Prop} {t114 t37 rg it so : Obj} {sc : Addr} {c1 c5 : Option Value} {kk kt : Tok} {m o s : Int} {tm to ts km ko ks kl tx : Tok} {x : Str} {f q : Int} {n s0 : Nat} {tf tq tn : Tok} (hD : D ≤ 600) (hA : Bd D A) (S : Sg L0 h0 (LD w t114 t37 sc so N (lfr w [("k", kk, .int 1 kt), ("more", km, .int m tm), ("mode", ko, .int o to), ("start", ks, .int s ts), ("told", kl, .str x tx)]) c1 (some (.int f tf)) (some (.int q tq)) (some (.int (n : Nat) tn)) c5 rg it) Z h) (hn : 2 ≤ n) (h64 : n < 64) (hs0 : ((List.range n).filter (fun j => (((j : Nat) : Int) * q).fmod n == 1)).head? = some s0) (hQ : ∀ h' tk' Z' (ts0 : Tok), Sg L0 h0 (LD w t114 t37 sc so N (lfr w [("k", kk, .int 1 kt), ("more", km, .int m tm), ("mode", ko, .int o to), ("start", ks, .int s ts), ("told", kl, .str x tx)]) c1 (some (.int f tf)) (some (.int q tq)) (some (.int (n : Nat) tn)) (some (.int ((s0 : Nat) : Int) ts0)) rg it) Z' h' → Q .next ⟨h', g, d, tk', os⟩), wpAny (model PG w) A (exec (stmtN 7) (lawEnv N)) Q E ⟨h, g, d, tk, os⟩) := by
  refine ⟨?_, ?_, ?_, ?_⟩
  · intro D h0 h L0 g d tk os Z N A Q E t114 t37 rg it so sc c1 c5 kk kt m o s tm to ts km ko ks kl tx x f q n tf tq tn hD hA S hn h64 hj hx hQ
    refine opTop (D := D) fun W hW => ?_
    refine opM hW (by first | exact dD hD rfl | exact dD0 hD rfl | omega) hA S 0 hS6a (List.range 70) [] (.call (.builtin "range.__iter__") ⟨[.ref Z], []⟩) ((LD w t114 t37 sc so N (lfr w [("k", kk, .int 0 kt), ("more", km, .int m tm), ("mode", ko, .int o to), ("start", ks, .int s ts), ("told", kl, .str x tx)]) c1 (some (.int f tf)) (some (.int q tq)) (some (.int (n : Nat) tn)) c5 rg it) ++ [(Z, rgO 0 (tk + 1) (n : Nat) tn 1 (tk + 2))]) (Z + 1) (tk + 3) (fun b => by cases b <;> kernel_rfl) (by decide) .nil fun W2 hW2 h2 S2 A2 a2 => ?_
    refine rg_iter S2 (i := 69) rfl (sz1 n h64).1 fun h3 S3 => ?_
    rw [(sz1 n h64).2] at S3
    refine opM (hW2 _) (by first | exact dD hD rfl | exact dD0 hD rfl | omega) hA S3 0 hS02 (List.range 73) [] (scC E1 (Z + 1) (Z + 2) (cEnv E1 N (Z + 3) (cl1 N))) (LX ⟨t114, t37, sc, so, N, (lfr w [("k", kk, .int 0 kt), ("more", km, .int m tm), ("mode", ko, .int o to), ("start", ks, .int s ts), ("told", kl, .str x tx)]), rg, it, Z, rgO 0 (tk + 1) (n : Nat) tn 1 (tk + 2)⟩ w c1 (some (.int f tf)) (some (.int q tq)) (some (.int (n : Nat) tn)) c5 (rgItO 0 (n : Nat) 1) (seqObj "list" #[] 0) (jD w none)) (Z + 4) (tk + 3) (fun b => by cases b <;> kernel_rfl) (by decide) .nil fun W3 hW3 h4 S4 A3 a3 => ?_
    refine lp1 (D := D + 60) (x := ⟨t114, t37, sc, so, N, (lfr w [("k", kk, .int 0 kt), ("more", km, .int m tm), ("mode", ko, .int o to), ("start", ks, .int s ts), ("told", kl, .str x tx)]), rg, it, Z, rgO 0 (tk + 1) (n : Nat) tn 1 (tk + 2)⟩) (by first | exact dD hD rfl | exact dD0 hD rfl | omega) a3 (by omega) h64 S4 fun h5 tk2 io xs e2 o9 hI S5 => ?_
    obtain ⟨jk, jx, jt⟩ := o9
    refine opM (hW3 _) (by first | exact dD hD rfl | exact dD0 hD rfl | omega) hA S5 0 hJd (List.range 72) [] (.call (.builtin "str.join") ⟨[.str sE tk, .ref (Z + 2)], []⟩) ((LD w t114 t37 sc so N (lfr w [("k", kk, .int 0 kt), ("more", km, .int m tm), ("mode", ko, .int o to), ("start", ks, .int s ts), ("told", kl, .str x tx)]) c1 (some (.int f tf)) (some (.int q tq)) (some (.int (n : Nat) tn)) c5 rg it) ++ [(Z, rgO 0 (tk + 1) (n : Nat) tn 1 (tk + 2)), (Z + 1, io), (Z + 2, seqObj "list" xs e2)]) (Z + 4 + 2) tk2 (fun b => by cases b <;> kernel_rfl) (by decide) .nil fun W4 hW4 h6 S6 A4 a4 => ?_
    refine join_call S6 (i := 71) rfl hI hn hj ?_
    exact opX (hW4 _) (by first | exact dD hD rfl | exact dD0 hD rfl | omega) hA S6 0 [.ct (.bool false) 0 []] (List.range 69) _ .next (LD w t114 t37 sc so N (lfr w [("k", kk, .int 0 kt), ("more", km, .int m tm), ("mode", ko, .int o to), ("start", ks, .int s ts), ("told", kl, .str x tx)]) c1 (some (.int f tf)) (some (.int q tq)) (some (.int (n : Nat) tn)) c5 rg it) (Z + 4 + 2) (tk2 + 1) (fun b => by cases b <;> kernel_rfl) (by decide) (.cons (oNe x tx (Builtin.Str.glued sE (wordL f q n n)) tk2 (tk2 + 1) hx) .nil) fun h7 S7 => hQ h7 _ _ S7
  · intro D h0 h L0 g d tk os Z N A Q E t114 t37 rg it so sc c1 c5 kk kt m o s tm to ts km ko ks kl tx x f q n s0 tf tq tn hD hA S hn h64 hs0 hQ
    refine opTop (D := D) fun W hW => ?_
    refine opM hW (by first | exact dD hD rfl | exact dD0 hD rfl | omega) hA S 0 hS7a (List.range 70) [] (.call (.builtin "range.__iter__") ⟨[.ref Z], []⟩) ((LD w t114 t37 sc so N (lfr w [("k", kk, .int 0 kt), ("more", km, .int m tm), ("mode", ko, .int o to), ("start", ks, .int s ts), ("told", kl, .str x tx)]) c1 (some (.int f tf)) (some (.int q tq)) (some (.int (n : Nat) tn)) c5 rg it) ++ [(Z, rgO 0 tk (n : Nat) tn 1 (tk + 1))]) (Z + 1) (tk + 2) (fun b => by cases b <;> kernel_rfl) (by decide) .nil fun W2 hW2 h2 S2 A2 a2 => ?_
    refine rg_iter S2 (i := 69) rfl (sz1 n h64).1 fun h3 S3 => ?_
    rw [(sz1 n h64).2] at S3
    refine opM (hW2 _) (by first | exact dD hD rfl | exact dD0 hD rfl | omega) hA S3 0 hS02 (List.range 73) [] (scC E2 (Z + 1) (Z + 2) (cEnv E2 N (Z + 3) (cl2 N))) (LX ⟨t114, t37, sc, so, N, (lfr w [("k", kk, .int 0 kt), ("more", km, .int m tm), ("mode", ko, .int o to), ("start", ks, .int s ts), ("told", kl, .str x tx)]), rg, it, Z, rgO 0 tk (n : Nat) tn 1 (tk + 1)⟩ w c1 (some (.int f tf)) (some (.int q tq)) (some (.int (n : Nat) tn)) c5 (rgItO 0 (n : Nat) 1) (seqObj "list" #[] 0) (jD w none)) (Z + 4) (tk + 2) (fun b => by cases b <;> kernel_rfl) (by decide) .nil fun W3 hW3 h4 S4 A3 a3 => ?_
    refine lp2 (D := D + 60) (x := ⟨t114, t37, sc, so, N, (lfr w [("k", kk, .int 0 kt), ("more", km, .int m tm), ("mode", ko, .int o to), ("start", ks, .int s ts), ("told", kl, .str x tx)]), rg, it, Z, rgO 0 tk (n : Nat) tn 1 (tk + 1)⟩) (by first | exact dD hD rfl | exact dD0 hD rfl | omega) a3 (by omega) h64 S4 fun h5 tk2 io xs e2 o9 hI S5 => ?_
    obtain ⟨jk, jx, jt⟩ := o9
    obtain ⟨ps, ep, zs, hv⟩ := hI
    rw [← ep] at hs0
    have hp0 : 0 < ps.length := by
      cases ps with
      | nil => cases hs0
      | cons _ _ => simp
    have h0x : xs.toList[0]? = some xs[0] := by simp
    obtain ⟨ts0, e0⟩ := hv 0 xs[0] (Array.getElem?_eq_getElem (by omega))
    have eg : ps.getD 0 0 = s0 := by
      cases ps with
      | nil => cases hs0
      | cons y _ => exact Option.some.inj hs0
    rw [eg] at e0
    refine opM (hW3 _) (by first | exact dD hD rfl | exact dD0 hD rfl | omega) hA S5 0 hS7b (List.range 72) [] (.call (.builtin "list.__getitem__") ⟨[.ref (Z + 2), .int 0 tk2], []⟩) ((LD w t114 t37 sc so N (lfr w [("k", kk, .int 0 kt), ("more", km, .int m tm), ("mode", ko, .int o to), ("start", ks, .int s ts), ("told", kl, .str x tx)]) c1 (some (.int f tf)) (some (.int q tq)) (some (.int (n : Nat) tn)) c5 rg it) ++ [(Z, rgO 0 tk (n : Nat) tn 1 (tk + 1)), (Z + 1, io), (Z + 2, seqObj "list" xs e2)]) (Z + 4 + 2) (tk2 + 1) (fun b => by cases b <;> kernel_rfl) (by decide) .nil fun W4 hW4 h6 S6 A4 a4 => ?_
    have hl : Lg [(Z + 2, scO xs.toList e2)] h6 := ⟨fun p hp => by
      rw [List.mem_singleton.mp hp]
      have := S6.lg.get (i := 71) (p := (Z + 2, seqObj "list" xs e2)) rfl
      simpa [scO] using this, by simp⟩
    refine oItem (e := e2) (j := 0) h0x (by omega) 0 rfl tk2 (tk2 + 1) A4 _ h6 g d os (a4.mono (by omega)) hl ?_
    rw [e0]
    exact opX (hW4 _) (by first | exact dD hD rfl | exact dD0 hD rfl | omega) hA S6 0 hS7c (List.range 69) [] .next (LD w t114 t37 sc so N (lfr w [("k", kk, .int 0 kt), ("more", km, .int m tm), ("mode", ko, .int o to), ("start", ks, .int s ts), ("told", kl, .str x tx)]) c1 (some (.int f tf)) (some (.int q tq)) (some (.int (n : Nat) tn)) (some (.int ((s0 : Nat) : Int) ts0)) rg it) (Z + 4 + 2) (tk2 + 1) (fun b => by cases b <;> kernel_rfl) (by decide) .nil fun h7 S7 => hQ h7 _ _ _ S7
  · intro D h0 h L0 g d tk os Z N A Q E t114 t37 rg it so sc c1 c5 kk kt m o s tm to ts km ko ks kl tx x f q n tf tq tn hD hA S hn h64 hj hx hQ
    refine opTop (D := D) fun W hW => ?_
    refine opM hW (by first | exact dD hD rfl | exact dD0 hD rfl | omega) hA S 0 hS6a (List.range 70) [] (.call (.builtin "range.__iter__") ⟨[.ref Z], []⟩) ((LD w t114 t37 sc so N (lfr w [("k", kk, .int 1 kt), ("more", km, .int m tm), ("mode", ko, .int o to), ("start", ks, .int s ts), ("told", kl, .str x tx)]) c1 (some (.int f tf)) (some (.int q tq)) (some (.int (n : Nat) tn)) c5 rg it) ++ [(Z, rgO 0 (tk + 1) (n : Nat) tn 1 (tk + 2))]) (Z + 1) (tk + 3) (fun b => by cases b <;> kernel_rfl) (by decide) .nil fun W2 hW2 h2 S2 A2 a2 => ?_
    refine rg_iter S2 (i := 69) rfl (sz1 n h64).1 fun h3 S3 => ?_
    rw [(sz1 n h64).2] at S3
    refine opM (hW2 _) (by first | exact dD hD rfl | exact dD0 hD rfl | omega) hA S3 0 hS02 (List.range 73) [] (scC E1 (Z + 1) (Z + 2) (cEnv E1 N (Z + 3) (cl1 N))) (LX ⟨t114, t37, sc, so, N, (lfr w [("k", kk, .int 1 kt), ("more", km, .int m tm), ("mode", ko, .int o to), ("start", ks, .int s ts), ("told", kl, .str x tx)]), rg, it, Z, rgO 0 (tk + 1) (n : Nat) tn 1 (tk + 2)⟩ w c1 (some (.int f tf)) (some (.int q tq)) (some (.int (n : Nat) tn)) c5 (rgItO 0 (n : Nat) 1) (seqObj "list" #[] 0) (jD w none)) (Z + 4) (tk + 3) (fun b => by cases b <;> kernel_rfl) (by decide) .nil fun W3 hW3 h4 S4 A3 a3 => ?_
    refine lp1 (D := D + 60) (x := ⟨t114, t37, sc, so, N, (lfr w [("k", kk, .int 1 kt), ("more", km, .int m tm), ("mode", ko, .int o to), ("start", ks, .int s ts), ("told", kl, .str x tx)]), rg, it, Z, rgO 0 (tk + 1) (n : Nat) tn 1 (tk + 2)⟩) (by first | exact dD hD rfl | exact dD0 hD rfl | omega) a3 (by omega) h64 S4 fun h5 tk2 io xs e2 o9 hI S5 => ?_
    obtain ⟨jk, jx, jt⟩ := o9
    refine opM (hW3 _) (by first | exact dD hD rfl | exact dD0 hD rfl | omega) hA S5 0 hJd (List.range 72) [] (.call (.builtin "str.join") ⟨[.str sE tk, .ref (Z + 2)], []⟩) ((LD w t114 t37 sc so N (lfr w [("k", kk, .int 1 kt), ("more", km, .int m tm), ("mode", ko, .int o to), ("start", ks, .int s ts), ("told", kl, .str x tx)]) c1 (some (.int f tf)) (some (.int q tq)) (some (.int (n : Nat) tn)) c5 rg it) ++ [(Z, rgO 0 (tk + 1) (n : Nat) tn 1 (tk + 2)), (Z + 1, io), (Z + 2, seqObj "list" xs e2)]) (Z + 4 + 2) tk2 (fun b => by cases b <;> kernel_rfl) (by decide) .nil fun W4 hW4 h6 S6 A4 a4 => ?_
    refine join_call S6 (i := 71) rfl hI hn hj ?_
    exact opX (hW4 _) (by first | exact dD hD rfl | exact dD0 hD rfl | omega) hA S6 0 [.ct (.bool false) 0 []] (List.range 69) _ .next (LD w t114 t37 sc so N (lfr w [("k", kk, .int 1 kt), ("more", km, .int m tm), ("mode", ko, .int o to), ("start", ks, .int s ts), ("told", kl, .str x tx)]) c1 (some (.int f tf)) (some (.int q tq)) (some (.int (n : Nat) tn)) c5 rg it) (Z + 4 + 2) (tk2 + 1) (fun b => by cases b <;> kernel_rfl) (by decide) (.cons (oNe x tx (Builtin.Str.glued sE (wordL f q n n)) tk2 (tk2 + 1) hx) .nil) fun h7 S7 => hQ h7 _ _ S7
  · intro D h0 h L0 g d tk os Z N A Q E t114 t37 rg it so sc c1 c5 kk kt m o s tm to ts km ko ks kl tx x f q n s0 tf tq tn hD hA S hn h64 hs0 hQ
    refine opTop (D := D) fun W hW => ?_
    refine opM hW (by first | exact dD hD rfl | exact dD0 hD rfl | omega) hA S 0 hS7a (List.range 70) [] (.call (.builtin "range.__iter__") ⟨[.ref Z], []⟩) ((LD w t114 t37 sc so N (lfr w [("k", kk, .int 1 kt), ("more", km, .int m tm), ("mode", ko, .int o to), ("start", ks, .int s ts), ("told", kl, .str x tx)]) c1 (some (.int f tf)) (some (.int q tq)) (some (.int (n : Nat) tn)) c5 rg it) ++ [(Z, rgO 0 tk (n : Nat) tn 1 (tk + 1))]) (Z + 1) (tk + 2) (fun b => by cases b <;> kernel_rfl) (by decide) .nil fun W2 hW2 h2 S2 A2 a2 => ?_
    refine rg_iter S2 (i := 69) rfl (sz1 n h64).1 fun h3 S3 => ?_
    rw [(sz1 n h64).2] at S3
    refine opM (hW2 _) (by first | exact dD hD rfl | exact dD0 hD rfl | omega) hA S3 0 hS02 (List.range 73) [] (scC E2 (Z + 1) (Z + 2) (cEnv E2 N (Z + 3) (cl2 N))) (LX ⟨t114, t37, sc, so, N, (lfr w [("k", kk, .int 1 kt), ("more", km, .int m tm), ("mode", ko, .int o to), ("start", ks, .int s ts), ("told", kl, .str x tx)]), rg, it, Z, rgO 0 tk (n : Nat) tn 1 (tk + 1)⟩ w c1 (some (.int f tf)) (some (.int q tq)) (some (.int (n : Nat) tn)) c5 (rgItO 0 (n : Nat) 1) (seqObj "list" #[] 0) (jD w none)) (Z + 4) (tk + 2) (fun b => by cases b <;> kernel_rfl) (by decide) .nil fun W3 hW3 h4 S4 A3 a3 => ?_
    refine lp2 (D := D + 60) (x := ⟨t114, t37, sc, so, N, (lfr w [("k", kk, .int 1 kt), ("more", km, .int m tm), ("mode", ko, .int o to), ("start", ks, .int s ts), ("told", kl, .str x tx)]), rg, it, Z, rgO 0 tk (n : Nat) tn 1 (tk + 1)⟩) (by first | exact dD hD rfl | exact dD0 hD rfl | omega) a3 (by omega) h64 S4 fun h5 tk2 io xs e2 o9 hI S5 => ?_
    obtain ⟨jk, jx, jt⟩ := o9
    obtain ⟨ps, ep, zs, hv⟩ := hI
    rw [← ep] at hs0
    have hp0 : 0 < ps.length := by
      cases ps with
      | nil => cases hs0
      | cons _ _ => simp
    have h0x : xs.toList[0]? = some xs[0] := by simp
    obtain ⟨ts0, e0⟩ := hv 0 xs[0] (Array.getElem?_eq_getElem (by omega))
    have eg : ps.getD 0 0 = s0 := by
      cases ps with
      | nil => cases hs0
      | cons y _ => exact Option.some.inj hs0
    rw [eg] at e0
    refine opM (hW3 _) (by first | exact dD hD rfl | exact dD0 hD rfl | omega) hA S5 0 hS7b (List.range 72) [] (.call (.builtin "list.__getitem__") ⟨[.ref (Z + 2), .int 0 tk2], []⟩) ((LD w t114 t37 sc so N (lfr w [("k", kk, .int 1 kt), ("more", km, .int m tm), ("mode", ko, .int o to), ("start", ks, .int s ts), ("told", kl, .str x tx)]) c1 (some (.int f tf)) (some (.int q tq)) (some (.int (n : Nat) tn)) c5 rg it) ++ [(Z, rgO 0 tk (n : Nat) tn 1 (tk + 1)), (Z + 1, io), (Z + 2, seqObj "list" xs e2)]) (Z + 4 + 2) (tk2 + 1) (fun b => by cases b <;> kernel_rfl) (by decide) .nil fun W4 hW4 h6 S6 A4 a4 => ?_
    have hl : Lg [(Z + 2, scO xs.toList e2)] h6 := ⟨fun p hp => by
      rw [List.mem_singleton.mp hp]
      have := S6.lg.get (i := 71) (p := (Z + 2, seqObj "list" xs e2)) rfl
      simpa [scO] using this, by simp⟩
    refine oItem (e := e2) (j := 0) h0x (by omega) 0 rfl tk2 (tk2 + 1) A4 _ h6 g d os (a4.mono (by omega)) hl ?_
    rw [e0]
    exact opX (hW4 _) (by first | exact dD hD rfl | exact dD0 hD rfl | omega) hA S6 0 hS7c (List.range 69) [] .next (LD w t114 t37 sc so N (lfr w [("k", kk, .int 1 kt), ("more", km, .int m tm), ("mode", ko, .int o to), ("start", ks, .int s ts), ("told", kl, .str x tx)]) c1 (some (.int f tf)) (some (.int q tq)) (some (.int (n : Nat) tn)) (some (.int ((s0 : Nat) : Int) ts0)) rg it) (Z + 4 + 2) (tk2 + 1) (fun b => by cases b <;> kernel_rfl) (by decide) .nil fun h7 S7 => hQ h7 _ _ _ S7
theorem st6a {D : Nat} {w : World} {h0 h : Heap} {L0 : List (Addr × Obj)} {g : Array GenState} {d : Drawn} {tk : Nat} {os : OsState} {Z N : Nat} {A : Around} {Q : Flow → Shared → Prop} {E : Value → Shared → Prop} {t114 t37 rg it so : Obj} {sc : Addr} {c1 c5 : Option Value} {kk kt : Tok} {m o s : Int} {tm to ts km ko ks kl tx : Tok} {x : Str} {f q : Int} {n : Nat} {tf tq tn : Tok}
    (hD : D ≤ 600) (hA : Bd D A) (S : Sg L0 h0 (LD w t114 t37 sc so N (lfr w [("k", kk, .int 0 kt), ("more", km, .int m tm), ("mode", ko, .int o to), ("start", ks, .int s ts), ("told", kl, .str x tx)]) c1 (some (.int f tf)) (some (.int q tq)) (some (.int (n : Nat) tn)) c5 rg it) Z h) (hn : 2 ≤ n) (h64 : n < 64) (hj : joinOk (wordL f q n n) = true) (hx : x = Builtin.Str.glued sE (wordL f q n n))
    (hQ : ∀ h' tk' Z', Sg L0 h0 (LD w t114 t37 sc so N (lfr w [("k", kk, .int 0 kt), ("more", km, .int m tm), ("mode", ko, .int o to), ("start", ks, .int s ts), ("told", kl, .str x tx)]) c1 (some (.int f tf)) (some (.int q tq)) (some (.int (n : Nat) tn)) c5 rg it) Z' h' → Q .next ⟨h', g, d, tk', os⟩) :
    wpAny (model PG w) A (exec (stmtN 6) (lawEnv N)) Q E ⟨h, g, d, tk, os⟩ := @(st6_m (w := w)).1 D h0 h L0 g d tk os Z N A Q E t114 t37 rg it so sc c1 c5 kk kt m o s tm to ts km ko ks kl tx x f q n tf tq tn hD hA S hn h64 hj hx hQ
theorem st7a {D : Nat} {w : World} {h0 h : Heap} {L0 : List (Addr × Obj)} {g : Array GenState} {d : Drawn} {tk : Nat} {os : OsState} {Z N : Nat} {A : Around} {Q : Flow → Shared → Prop} {E : Value → Shared → Prop} {t114 t37 rg it so : Obj} {sc : Addr} {c1 c5 : Option Value} {kk kt : Tok} {m o s : Int} {tm to ts km ko ks kl tx : Tok} {x : Str} {f q : Int} {n s0 : Nat} {tf tq tn : Tok}
    (hD : D ≤ 600) (hA : Bd D A) (S : Sg L0 h0 (LD w t114 t37 sc so N (lfr w [("k", kk, .int 0 kt), ("more", km, .int m tm), ("mode", ko, .int o to), ("start", ks, .int s ts), ("told", kl, .str x tx)]) c1 (some (.int f tf)) (some (.int q tq)) (some (.int (n : Nat) tn)) c5 rg it) Z h) (hn : 2 ≤ n) (h64 : n < 64) (hs0 : ((List.range n).filter (fun j => (((j : Nat) : Int) * q).fmod n == 1)).head? = some s0)
    (hQ : ∀ h' tk' Z' (ts0 : Tok), Sg L0 h0 (LD w t114 t37 sc so N (lfr w [("k", kk, .int 0 kt), ("more", km, .int m tm), ("mode", ko, .int o to), ("start", ks, .int s ts), ("told", kl, .str x tx)]) c1 (some (.int f tf)) (some (.int q tq)) (some (.int (n : Nat) tn)) (some (.int ((s0 : Nat) : Int) ts0)) rg it) Z' h' → Q .next ⟨h', g, d, tk', os⟩) :
    wpAny (model PG w) A (exec (stmtN 7) (lawEnv N)) Q E ⟨h, g, d, tk, os⟩ := @(st6_m (w := w)).2.1 D h0 h L0 g d tk os Z N A Q E t114 t37 rg it so sc c1 c5 kk kt m o s tm to ts km ko ks kl tx x f q n s0 tf tq tn hD hA S hn h64 hs0 hQ
theorem st6b {D : Nat} {w : World} {h0 h : Heap} {L0 : List (Addr × Obj)} {g : Array GenState} {d : Drawn} {tk : Nat} {os : OsState} {Z N : Nat} {A : Around} {Q : Flow → Shared → Prop} {E : Value → Shared → Prop} {t114 t37 rg it so : Obj} {sc : Addr} {c1 c5 : Option Value} {kk kt : Tok} {m o s : Int} {tm to ts km ko ks kl tx : Tok} {x : Str} {f q : Int} {n : Nat} {tf tq tn : Tok}
    (hD : D ≤ 600) (hA : Bd D A) (S : Sg L0 h0 (LD w t114 t37 sc so N (lfr w [("k", kk, .int 1 kt), ("more", km, .int m tm), ("mode", ko, .int o to), ("start", ks, .int s ts), ("told", kl, .str x tx)]) c1 (some (.int f tf)) (some (.int q tq)) (some (.int (n : Nat) tn)) c5 rg it) Z h) (hn : 2 ≤ n) (h64 : n < 64) (hj : joinOk (wordL f q n n) = true) (hx : x = Builtin.Str.glued sE (wordL f q n n))
    (hQ : ∀ h' tk' Z', Sg L0 h0 (LD w t114 t37 sc so N (lfr w [("k", kk, .int 1 kt), ("more", km, .int m tm), ("mode", ko, .int o to), ("start", ks, .int s ts), ("told", kl, .str x tx)]) c1 (some (.int f tf)) (some (.int q tq)) (some (.int (n : Nat) tn)) c5 rg it) Z' h' → Q .next ⟨h', g, d, tk', os⟩) :
    wpAny (model PG w) A (exec (stmtN 6) (lawEnv N)) Q E ⟨h, g, d, tk, os⟩ := @(st6_m (w := w)).2.2.1 D h0 h L0 g d tk os Z N A Q E t114 t37 rg it so sc c1 c5 kk kt m o s tm to ts km ko ks kl tx x f q n tf tq tn hD hA S hn h64 hj hx hQ
theorem st7b {D : Nat} {w : World} {h0 h : Heap} {L0 : List (Addr × Obj)} {g : Array GenState} {d : Drawn} {tk : Nat} {os : OsState} {Z N : Nat} {A : Around} {Q : Flow → Shared → Prop} {E : Value → Shared → Prop} {t114 t37 rg it so : Obj} {sc : Addr} {c1 c5 : Option Value} {kk kt : Tok} {m o s : Int} {tm to ts km ko ks kl tx : Tok} {x : Str} {f q : Int} {n s0 : Nat} {tf tq tn : Tok}
    (hD : D ≤ 600) (hA : Bd D A) (S : Sg L0 h0 (LD w t114 t37 sc so N (lfr w [("k", kk, .int 1 kt), ("more", km, .int m tm), ("mode", ko, .int o to), ("start", ks, .int s ts), ("told", kl, .str x tx)]) c1 (some (.int f tf)) (some (.int q tq)) (some (.int (n : Nat) tn)) c5 rg it) Z h) (hn : 2 ≤ n) (h64 : n < 64) (hs0 : ((List.range n).filter (fun j => (((j : Nat) : Int) * q).fmod n == 1)).head? = some s0)
    (hQ : ∀ h' tk' Z' (ts0 : Tok), Sg L0 h0 (LD w t114 t37 sc so N (lfr w [("k", kk, .int 1 kt), ("more", km, .int m tm), ("mode", ko, .int o to), ("start", ks, .int s ts), ("told", kl, .str x tx)]) c1 (some (.int f tf)) (some (.int q tq)) (some (.int (n : Nat) tn)) (some (.int ((s0 : Nat) : Int) ts0)) rg it) Z' h' → Q .next ⟨h', g, d, tk', os⟩) :
    wpAny (model PG w) A (exec (stmtN 7) (lawEnv N)) Q E ⟨h, g, d, tk, os⟩ := @(st6_m (w := w)).2.2.2 D h0 h L0 g d tk os Z N A Q E t114 t37 rg it so sc c1 c5 kk kt m o s tm to ts km ko ks kl tx x f q n s0 tf tq tn hD hA S hn h64 hs0 hQ
end Mine
end
section
namespace Mine
set_option maxHeartbeats 8000000
noncomputable def kl1 (w : World) (N tk f : Nat) : Kl := ⟨x1 w N tk, N + 60, N + 59, N + 61, N + 1, N + 17, N, tk, tk, tk + 74, tk + 73, f⟩
noncomputable def kl2 (w : World) (n u N tk f : Nat) : Kl := ⟨x2 w n N tk, N + 21, N + 20, N + 22, N + 1, N + 8, n, u, tk, tk + 21, tk + 20, f⟩
noncomputable def LK1 (w : World) (N tk f : Nat) : List (Addr × Obj) := LG1 w N tk f (frO [en w "K" (tk + 77) (.ref (N + 60))] 1) ++ (x1 w N tk).LF w tk (tk + 73) (N + 58)
noncomputable def LK2 (w : World) (n u N tk f : Nat) : List (Addr × Obj) := LG2 w n u N f (frO [en w "K" (tk + 24) (.ref (N + 21))] 1) ++ (x2 w n N tk).LF w tk (tk + 20) (N + 19)
theorem ck1_call {w : World} {h : Heap} {g : Array GenState} {d : Drawn} {tk : Nat} {os : OsState} {N : Nat} {f : Addr} {A : Around} {R : Result → Shared → Prop}
    (hA : A.depth < recursionLimit) (hA2 : A.depth + 1 < recursionLimit) (H : Lg (L42 w (tabO [])) h) (hN : h.objs.size = N)
    (hR : ∀ h', Sg (L42 w (tabO [])) h (LK1 w N tk f) (N + 64) h' → R (.ok (.ret (.ref (N + 60)))) ⟨h', g, d, tk + 78, os⟩) :
    codeAny (model PG w) A (.call (.ref 42) ⟨[.ref f], []⟩) R ⟨h, g, d, tk, os⟩ := by
  have S : Sg (L42 w (tabO [])) h (L42 w (tabO [])) N h := Sg.start H hN
  refine fn_call (body := ckB) (fd := fdOf (ob w 42)) hA (S.lg.get (i := 0) rfl) (by kernel_rfl) (by kernel_rfl) (by kernel_rfl) (by kernel_rfl) (code42 (S.lg.get (i := 1) rfl)) (binds := [(Str.ofString "mycmp", .ref f)]) (by kernel_rfl) ?_
  refine opS S [.al, .al, .ld 8, .up 8] (env42 N) (L42 w (tabO []) ++ [(N, frO [] 0), (N + 1, cellO (some (.ref f)))]) (N + 2) tk (by kernel_rfl) (by kernel_rfl) fun h1 S1 => ?_
  refine ⟨noLimit_of (n := 0) (S1.lg.get (i := 3) rfl) (by kernel_rfl), codeAny_func ?_⟩
  refine wpAny_mono (E := fun _ _ => False) (ck_class (f := f) (tk := tk) hA2 S1 (Q := fun fl s' => R (.ok (.ret (match fl with | .ret v => v | _ => .none))) s') fun h' S' => hR h' S') (fun fl s' q => ?_) fun _ _ q => q.elim
  exact q
theorem ck2_call {w : World} {h : Heap} {g : Array GenState} {d : Drawn} {tk : Nat} {os : OsState} {n u N : Nat} {f : Addr} {A : Around} {R : Result → Shared → Prop}
    (hA : A.depth < recursionLimit) (hA2 : A.depth + 1 < recursionLimit) (H : Lg (L42b w n u) h) (hN : h.objs.size = N)
    (hR : ∀ h', Sg (L42b w n u) h (LK2 w n u N tk f) (N + 25) h' → R (.ok (.ret (.ref (N + 21)))) ⟨h', g, d, tk + 25, os⟩) :
    codeAny (model PG w) A (.call (.ref 42) ⟨[.ref f], []⟩) R ⟨h, g, d, tk, os⟩ := by
  have S : Sg (L42b w n u) h (L42b w n u) N h := Sg.start H hN
  refine fn_call (body := ckB) (fd := fdOf (ob w 42)) hA (S.lg.get (i := 0) rfl) (by kernel_rfl) (by kernel_rfl) (by kernel_rfl) (by kernel_rfl) (code42 (S.lg.get (i := 1) rfl)) (binds := [(Str.ofString "mycmp", .ref f)]) (by kernel_rfl) ?_
  refine opS S [.al, .al, .ld 10, .up 10] (env42 N) (LAb w n u N f) (N + 2) tk (by kernel_rfl) (by kernel_rfl) fun h1 S1 => ?_
  refine ⟨noLimit_of (n := 0) (S1.lg.get (i := 3) rfl) (by kernel_rfl), codeAny_func ?_⟩
  refine wpAny_mono (E := fun _ _ => False) (ck_class2 (f := f) (tk := tk) hA2 S1 (Q := fun fl s' => R (.ok (.ret (match fl with | .ret v => v | _ => .none))) s') fun h' S' => hR h' S') (fun fl s' q => ?_) fun _ _ q => q.elim
  exact q
/-- the rest of a heap's list stands as it stood -/
theorem Sg.frame {L0 L L' X : List (Addr × Obj)} {h0 h h' : Heap} {N N' : Nat} (S : Sg L0 h0 (L ++ X) N h) (T : Sg L h L' N' h') : Sg L0 h0 (L' ++ X) N' h' := by
  have nd := S.lg.nd
  rw [List.map_append, List.nodup_append] at nd
  obtain ⟨n1, n2, n3⟩ := nd
  have kx : ∀ p ∈ X, h'.get? p.1 = some p.2 := fun p hp => T.kp _ _ (S.lg.at_ p (List.mem_append_right _ hp)) fun hm => n3 _ hm _ (List.mem_map_of_mem hp) rfl
  refine ⟨⟨fun p hp => (List.mem_append.mp hp).elim (T.lg.at_ p) (kx p), ?_⟩, T.sz, fun b o e n => ?_, Nat.le_trans S.le (S.sz ▸ T.le), fun q hq => ?_⟩
  · rw [List.map_append, List.nodup_append]
    refine ⟨T.lg.nd, n2, fun a ha b hb e => ?_⟩
    rcases T.cv a ha with c | c
    · exact n3 a c b hb e
    · obtain ⟨p, hp, rfl⟩ := List.mem_map.mp hb
      have l := Heap.lt_size (S.lg.at_ p (List.mem_append_right _ hp))
      rw [e] at c
      exact absurd l (Nat.not_lt.mpr c)
  · have e1 := S.kp b o e n
    by_cases hb : b ∈ L.map (·.1)
    · rcases S.cv b (by rw [List.map_append]; exact List.mem_append_left _ hb) with c | c
      · exact absurd c n
      · exact absurd (Heap.lt_size e) (Nat.not_lt.mpr c)
    · exact T.kp b o e1 hb
  · rw [List.map_append, List.mem_append] at hq
    rcases hq with hq | hq
    · rcases T.cv q hq with c | c
      · exact S.cv q (by rw [List.map_append]; exact List.mem_append_left _ c)
      · exact .inr (Nat.le_trans S.le (S.sz ▸ c))
    · exact S.cv q (by rw [List.map_append]; exact List.mem_append_right _ hq)
theorem Lg.left {L X : List (Addr × Obj)} {h : Heap} (H : Lg (L ++ X) h) : Lg L h := ⟨fun p hp => H.at_ p (List.mem_append_left _ hp), by have := H.nd; rw [List.map_append, List.nodup_append] at this; exact this.1⟩
end Mine
end
section
namespace Mine
set_option maxHeartbeats 8000000
noncomputable def L119 (w : World) (t114 : Obj) : List (Addr × Obj) := [(2, ob w 2), (119, ob w 119), (118, ob w 118), (3, ob w 3), (0, ob w 0), (114, t114), (4, ob w 4)]
noncomputable def caB : List Stmt := bodyOf (topSt 34)
noncomputable def caS (i : Nat) : Stmt := caB.getD i (.Pass default)
theorem caB_eq : caB = [caS 0, caS 1, cmS, caS 3] := by kernel_rfl
noncomputable def posOfS : Stmt → Pos
  | .FunctionDef _ _ _ _ _ _ _ _ _ p => p
  | _ => default
theorem cmS_eq : cmS = .FunctionDef (nameOfS cmS) (paramsOf cmS) (bodyOf cmS) [] none [] (scopeOf cmS) none (nameOfS cmS) (posOfS cmS) := by kernel_rfl
noncomputable def env119 (N : Nat) : Env := { scope := scopeOf (topSt 34), locals := N, globals := 3, cells := [(sTw, N + 2), (sSz, N + 1)], qual := Str.ofString "_law_comparer.<locals>.", func := some 119, code := .ref 118, frame := some N, builtins := 0 }
noncomputable def cmT (m : Nat) : Obj := tabO [.int 123 0, .int 4 0, .ref (m + 9)]
theorem oLen {w : World} (x : Str) (t : Tok) (tk : Nat) (h : x.length ≤ 1000) : ObOK PG w ⟨.call (.builtin "len") ⟨[.str x t], []⟩, [], tk, .int x.length (tk + 1), 2⟩ := ob_len (by omega)
theorem oAdd {w : World} (x : Str) (t : Tok) (tk : Nat) (h0 : 0 < x.length) (h : x.length ≤ 1000) : ObOK PG w ⟨.call (.builtin "str.__add__") ⟨[.str x t, .str x t], []⟩, [], tk, .str (x ++ x) tk, 1⟩ := by
  have e : (x.length == 0) = false := by rw [beq_eq_false_iff_ne]; omega
  refine ob_add e e ?_
  rw [sizeLine_eq]
  have : (x ++ x).length = x.length + x.length := by
    show (x.cps ++ x.cps).size = _
    rw [Array.size_append]; rfl
  omega
theorem Bd.deeper {m : Nat} {A : Around} (h : Bd m A) (e : Env) : Bd (m + 60) (A.deeper e) := by
  obtain ⟨h1, h2, h3⟩ := h
  refine ⟨?_, ?_, ?_⟩
  · show A.depth + 1 ≤ m + 60
    omega
  · show A.units + 3 ≤ m + 60
    omega
  · exact h3
theorem cc_enter {D : Nat} {w : World} {h : Heap} {g : Array GenState} {d : Drawn} {tk : Nat} {os : OsState} {N : Nat} {x : Str} {t : Tok} {t114 : Obj} {A : Around} {R : Result → Shared → Prop}
    (hD : D ≤ 700) (hA : Bd D A) (H : Lg (L119 w t114) h) (hN : h.objs.size = N)
    (hR : ∀ h' A', Bd (D + 60) A' → Sg (L119 w t114) h (L119 w t114 ++ [(N, frO [en w "text" tk (.str x t)] 1), (N + 1, cellO none), (N + 2, cellO none)]) (N + 3) h' →
      wpAny (model PG w) A' (execs caB (env119 N)) (fun fl s' => R (.ok (.ret (match fl with | .ret v => v | _ => .none))) s') (fun _ _ => False) ⟨h', g, d, tk + 1, os⟩) :
    codeAny (model PG w) A (.call (.ref 119) ⟨[.str x t], []⟩) R ⟨h, g, d, tk, os⟩ := by
  have hr : recursionLimit = 1000 := rfl
  have S : Sg (L119 w t114) h (L119 w t114) N h := Sg.start H hN
  refine fn_call (body := caB) (fd := fdOf (ob w 119)) (by have := hA.1; omega) (S.lg.get (i := 1) rfl) (by kernel_rfl) (by kernel_rfl) (by kernel_rfl) (by kernel_rfl) (code119 (S.lg.get (i := 2) rfl)) (binds := [(Str.ofString "text", .str x t)]) (by kernel_rfl) ?_
  refine opS S [.al, .al, .al, .fr, .ld 7, .up 7] (env119 N) (L119 w t114 ++ [(N, frO [en w "text" tk (.str x t)] 1), (N + 1, cellO none), (N + 2, cellO none)]) (N + 3) (tk + 1) (by kernel_rfl) (by kernel_rfl) fun h1 S1 => ?_
  refine ⟨noLimit_of (n := 0) (S1.lg.get (i := 0) rfl) (by kernel_rfl), codeAny_func ?_⟩
  exact wpAny_mono (hR h1 _ (hA.deeper (env119 N)) S1) (fun _ _ q => q) fun _ _ q => q.elim
noncomputable def cmFO (N : Nat) (mm : Nat) : Obj := fnO (cmFD (N + 1) (N + 2) (mm + 9) (N + 3))
theorem mkF_eq : @makeFunction = PySem.W.Fast.tw8546552352650244325 := PySem.W.Fast.te8546552352650244325
theorem cc1 {D : Nat} {w : World} {h : Heap} {g : Array GenState} {d : Drawn} {tk : Nat} {os : OsState} {N : Nat} {x : Str} {t : Tok} {A : Around} {R : Result → Shared → Prop}
    (hD : D ≤ 700) (hA : Bd D A) (hx0 : 0 < x.length) (hx : x.length ≤ 1000) (H : Lg (L119 w (tabO [])) h) (hN : h.objs.size = N)
    (hR : ∀ h', Sg (L119 w (tabO [])) h (L119 w (cmT N) ++ (⟨N + 10, N + 1, N + 2, N + 3, N, tk, x.length, tk + 2, x ++ x, tk + 3⟩ : Cm).L) (N + 11) h' → R (.ok (.ret (.ref (N + 10)))) ⟨h', g, d, tk + 16, os⟩) :
    codeAny (model PG w) A (.call (.ref 119) ⟨[.str x t], []⟩) R ⟨h, g, d, tk, os⟩ := by
  refine cc_enter hD hA H hN fun h1 A1 a1 S1 => ?_
  rw [caB_eq]
  refine wpAny_execs_cons (opTop (D := D + 60) fun W hW => opX hW (by first | exact dD hD rfl | exact dD0 hD rfl | omega) a1 S1 0 [.go [.ld 3, .ld 4, .ld 7], .ct (.int x.length (tk + 2)) 2 [], .go [.ld 8, .up 8]] (List.range 10) _ .next (L119 w (tabO []) ++ [(N, frO [en w "text" tk (.str x t)] 1), (N + 1, cellO (some (.int x.length (tk + 2)))), (N + 2, cellO none)]) (N + 3) (tk + 3) (fun b => by cases b <;> kernel_rfl) (by decide)
    (.cons (oLen x t (tk + 1) hx) .nil) fun h2 S2 => ?_)
  refine wpAny_execs_cons (opTop (D := D + 60) fun W hW => opX hW (by first | exact dD hD rfl | exact dD0 hD rfl | omega) a1 S2 0 [.go [.ld 7, .ld 7], .ct (.str (x ++ x) (tk + 3)) 1 [], .go [.ld 9, .up 9]] (List.range 10) _ .next (L119 w (tabO []) ++ [(N, frO [en w "text" tk (.str x t)] 1), (N + 1, cellO (some (.int x.length (tk + 2)))), (N + 2, cellO (some (.str (x ++ x) (tk + 3))))]) (N + 3) (tk + 4) (fun b => by cases b <;> kernel_rfl) (by decide)
    (.cons (oAdd x t (tk + 3) hx0 hx) .nil) fun h3 S3 => ?_)
  refine wpAny_execs_cons ?_
  rw [cmS_eq, exec_def, mkF_eq]
  refine opTop (D := D + 60) fun W hW => opX hW (by first | exact dD hD rfl | exact dD0 hD rfl | omega) a1 S3 0 [.go [.al, .ld 2, .ld 5, .fr, .fr, .fr, .fr, .fr, .al, .al, .fr, .fr, .fr, .fr, .al, .al, .al, .fr, .fr, .al, .ld 5, .up 5, .ld 5, .ld 3, .ld 6, .ld 3, .al, .fr, .ld 7, .up 7]] (List.range 7 ++ [7, 17, 16, 8, 9]) [] .next (L119 w (cmT N) ++ [(N, frO [en w "text" tk (.str x t), en w "_law_compared" (tk + 15) (.ref (N + 10))] 2)] ++ (⟨N + 10, N + 1, N + 2, N + 3, N, tk, x.length, tk + 2, x ++ x, tk + 3⟩ : Cm).L) (N + 11) (tk + 16) (fun b => by cases b <;> kernel_rfl) (by decide) .nil fun h4 S4 => ?_
  refine wpAny_execs_cons (opTop (D := D + 60) fun W hW => opX hW (by first | exact dD hD rfl | exact dD0 hD rfl | omega) a1 S4 0 [.go [.ld 7]] [0, 1, 2, 3, 4, 5, 6, 8, 9, 10, 11] [] (.ret (.ref (N + 10))) (L119 w (cmT N) ++ (⟨N + 10, N + 1, N + 2, N + 3, N, tk, x.length, tk + 2, x ++ x, tk + 3⟩ : Cm).L) (N + 11) (tk + 16) (fun b => by cases b <;> kernel_rfl) (by decide) .nil fun h5 S5 => ?_)
  exact hR h5 S5
noncomputable def L119b (w : World) (mm mu : Nat) : List (Addr × Obj) := L119 w (cmT mm) ++ [(mm + 9, cmCode mm mu)]
theorem cc2 {D : Nat} {w : World} {h : Heap} {g : Array GenState} {d : Drawn} {tk : Nat} {os : OsState} {N : Nat} {x : Str} {t : Tok} {mm mu : Nat} {A : Around} {R : Result → Shared → Prop}
    (hD : D ≤ 700) (hA : Bd D A) (hx0 : 0 < x.length) (hx : x.length ≤ 1000) (H : Lg (L119b w mm mu) h) (hN : h.objs.size = N)
    (hR : ∀ h', Sg (L119b w mm mu) h (L119 w (cmT mm) ++ (⟨N + 4, N + 1, N + 2, N + 3, mm, mu, x.length, tk + 2, x ++ x, tk + 3⟩ : Cm).L) (N + 5) h' → R (.ok (.ret (.ref (N + 4)))) ⟨h', g, d, tk + 5, os⟩) :
    codeAny (model PG w) A (.call (.ref 119) ⟨[.str x t], []⟩) R ⟨h, g, d, tk, os⟩ := by
  refine cc_enter hD hA (t114 := cmT mm) H.left hN fun h1 A1 a1 T1 => ?_
  have S1 := (Sg.start H hN).frame T1
  rw [caB_eq]
  refine wpAny_execs_cons (opTop (D := D + 60) fun W hW => opX hW (by first | exact dD hD rfl | exact dD0 hD rfl | omega) a1 S1 0 [.go [.ld 3, .ld 4, .ld 7], .ct (.int x.length (tk + 2)) 2 [], .go [.ld 8, .up 8]] (List.range 11) _ .next (L119 w (cmT mm) ++ [(N, frO [en w "text" tk (.str x t)] 1), (N + 1, cellO (some (.int x.length (tk + 2)))), (N + 2, cellO none)] ++ [(mm + 9, cmCode mm mu)]) (N + 3) (tk + 3) (fun b => by cases b <;> kernel_rfl) (by decide)
    (.cons (oLen x t (tk + 1) hx) .nil) fun h2 S2 => ?_)
  refine wpAny_execs_cons (opTop (D := D + 60) fun W hW => opX hW (by first | exact dD hD rfl | exact dD0 hD rfl | omega) a1 S2 0 [.go [.ld 7, .ld 7], .ct (.str (x ++ x) (tk + 3)) 1 [], .go [.ld 9, .up 9]] (List.range 11) _ .next (L119 w (cmT mm) ++ [(N, frO [en w "text" tk (.str x t)] 1), (N + 1, cellO (some (.int x.length (tk + 2)))), (N + 2, cellO (some (.str (x ++ x) (tk + 3))))] ++ [(mm + 9, cmCode mm mu)]) (N + 3) (tk + 4) (fun b => by cases b <;> kernel_rfl) (by decide)
    (.cons (oAdd x t (tk + 3) hx0 hx) .nil) fun h3 S3 => ?_)
  refine wpAny_execs_cons ?_
  rw [cmS_eq, exec_def]
  refine opTop (D := D + 60) fun W hW => opX hW (by first | exact dD hD rfl | exact dD0 hD rfl | omega) a1 S3 0 [.go [.al, .ld 2, .ld 5, .ld 3, .ld 6, .ld 3, .al, .fr, .ld 7, .up 7]] (List.range 7 ++ [7, 12, 10, 8, 9]) [] .next (L119 w (cmT mm) ++ [(N, frO [en w "text" tk (.str x t), en w "_law_compared" (tk + 4) (.ref (N + 4))] 2)] ++ (⟨N + 4, N + 1, N + 2, N + 3, mm, mu, x.length, tk + 2, x ++ x, tk + 3⟩ : Cm).L) (N + 5) (tk + 5) (fun b => by cases b <;> kernel_rfl) (by decide) .nil fun h4 S4 => ?_
  refine wpAny_execs_cons (opTop (D := D + 60) fun W hW => opX hW (by first | exact dD hD rfl | exact dD0 hD rfl | omega) a1 S4 0 [.go [.ld 7]] [0, 1, 2, 3, 4, 5, 6, 8, 9, 10, 11] [] (.ret (.ref (N + 4))) (L119 w (cmT mm) ++ (⟨N + 4, N + 1, N + 2, N + 3, mm, mu, x.length, tk + 2, x ++ x, tk + 3⟩ : Cm).L) (N + 5) (tk + 5) (fun b => by cases b <;> kernel_rfl) (by decide) .nil fun h5 S5 => ?_)
  exact hR h5 S5
end Mine
end
section
namespace Mine
set_option maxHeartbeats 8000000
noncomputable def cmpL : Expr → Expr
  | .Compare l _ _ _ => l
  | e => e
noncomputable def cmpP : Expr → Pos
  | .Compare _ _ _ p => p
  | _ => default
noncomputable def ifB : Stmt → List Stmt
  | .If _ b _ _ => b
  | _ => []
noncomputable def ifP : Stmt → Pos
  | .If _ _ _ p => p
  | _ => default
noncomputable def SL : Expr := cmpL (ifT (stmtN 8))
theorem st8_eq : stmtN 8 = .If (.Compare SL [.NotEq] [E3] (cmpP (ifT (stmtN 8)))) (ifB (stmtN 8)) [] (ifP (stmtN 8)) := by kernel_rfl
noncomputable def EX (n u m mu : Nat) : List (Addr × Obj) := [(n + 7, codeK n u), (n + 6, tabK n), (n + 15, codeInit n u), (n + 23, codeLt n u), (m + 9, cmCode m mu)]
theorem ints_ofl : ∀ (l : List Value) (f : Nat → Int), (∀ (j : Nat) (v : Value), l[j]? = some v → ∃ t, v = .int (f j) t) → IntsAre l ((List.range l.length).map f)
  | [], _, _ => .nil
  | v :: l, f, h => by
    obtain ⟨t, e⟩ := h 0 v rfl
    rw [e, List.length_cons, List.range_succ_eq_map, List.map_cons, List.map_map]
    exact .cons (f 0) t (ints_ofl l (f ∘ Nat.succ) fun j u hu => h (j + 1) u (by simpa using hu))
theorem ints_of {xs : Array Value} {n : Nat} {f : Nat → Int} (hz : xs.size = n) (h : ∀ (j : Nat) (v : Value), xs[j]? = some v → ∃ t, v = .int (f j) t) : IntsAre xs.toList ((List.range n).map f) := by
  have := ints_ofl xs.toList f fun j v e => h j v (by simpa using e)
  rwa [Array.length_toList, hz] at this
theorem st8r {D : Nat} {w : World} {h0 h : Heap} {L0 : List (Addr × Obj)} {g : Array GenState} {d : Drawn} {tk : Nat} {os : OsState} {Z N : Nat} {A : Around} {Q : Value → Shared → Prop} {E : Value → Shared → Prop} {t114 t37 rg it so fr : Obj} {sc : Addr} {c1 c2 c3 : Option Value} {s : Int} {n : Nat} {ts tn : Tok}
    (hD : D ≤ 600) (hA : Bd D A) (S : Sg L0 h0 (LD w t114 t37 sc so N fr c1 c2 c3 (some (.int (n : Nat) tn)) (some (.int s ts)) rg it) Z h) (hn : 2 ≤ n) (h64 : n < 64)
    (hQ : ∀ h' tk' Z' b xs e, Mk (stF s n) n xs → Sg L0 h0 (LD w t114 t37 sc so N fr c1 c2 c3 (some (.int (n : Nat) tn)) (some (.int s ts)) rg it ++ [(b, seqObj "list" xs e)]) Z' h' → Q (.ref b) ⟨h', g, d, tk', os⟩) :
    wpAny (model PG w) A (eval E3 (lawEnv N)) Q E ⟨h, g, d, tk, os⟩ := by
  refine opTop (D := D) fun W hW => ?_
  refine opM hW (by first | exact dD hD rfl | exact dD0 hD rfl | omega) hA S 0 hS7a (List.range 70) [] (.call (.builtin "range.__iter__") ⟨[.ref Z], []⟩) (LD w t114 t37 sc so N fr c1 c2 c3 (some (.int (n : Nat) tn)) (some (.int s ts)) rg it ++ [(Z, rgO 0 tk (n : Nat) tn 1 (tk + 1))]) (Z + 1) (tk + 2) (fun b => by cases b <;> kernel_rfl) (by decide) .nil fun W2 hW2 h2 S2 A2 a2 => ?_
  refine rg_iter S2 (i := 69) rfl (sz1 n h64).1 fun h3 S3 => ?_
  rw [(sz1 n h64).2] at S3
  refine opM (hW2 _) (by first | exact dD hD rfl | exact dD0 hD rfl | omega) hA S3 0 hS02 (List.range 73) [] (scC E3 (Z + 1) (Z + 2) (cEnv E3 N (Z + 3) (cl3 N))) (LX ⟨t114, t37, sc, so, N, fr, rg, it, Z, rgO 0 tk (n : Nat) tn 1 (tk + 1)⟩ w c1 c2 c3 (some (.int (n : Nat) tn)) (some (.int s ts)) (rgItO 0 (n : Nat) 1) (seqObj "list" #[] 0) (jD w none)) (Z + 4) (tk + 2) (fun b => by cases b <;> kernel_rfl) (by decide) .nil fun W3 hW3 h4 S4 A3 a3 => ?_
  refine lp3 (D := D + 60) (x := ⟨t114, t37, sc, so, N, fr, rg, it, Z, rgO 0 tk (n : Nat) tn 1 (tk + 1)⟩) (by first | exact dD hD rfl | exact dD0 hD rfl | omega) a3 (by omega) h64 S4 fun h5 tk2 io xs e2 o9 hI S5 => ?_
  obtain ⟨jk, jx, jt⟩ := o9
  exact opX (hW3 _) (by first | exact dD hD rfl | exact dD0 hD rfl | omega) hA S5 0 hJd (List.range 69 ++ [71]) [] (.ref (Z + 2)) (LD w t114 t37 sc so N fr c1 c2 c3 (some (.int (n : Nat) tn)) (some (.int s ts)) rg it ++ [(Z + 2, seqObj "list" xs e2)]) (Z + 4 + 2) tk2 (fun b => by cases b <;> kernel_rfl) (by decide) .nil fun h7 S7 => hQ h7 _ _ _ xs e2 hI S7
theorem isList_of {h : Heap} {a : Addr} {xs : Array Value} {c : Nat} (e : h.get? a = some (seqObj "list" xs c)) : h.IsList a xs.toList.toArray := by
  rw [Array.toArray_toList]
  exact ⟨_, e, rfl, c, rfl⟩
theorem units_ok {D : Nat} {A : Around} (hA : Bd D A) (hD : D ≤ 500) : A.units + 64 < cLine := by
  have h1 := hA.2.1
  have h2 : 600 < cLine := by decide
  omega
noncomputable def hS8a : List Hm := (.go [.ld 3, .ld 4, .ld 3, .ld 4, .ld 65] :: [.cl none, .ag none, .cl none, .ag none, .go [.fr, .fr, .al], .rt, .go [.ld 69, .ld 69], .cl none, .go [.ld 69], .ag none, .go [.ld 69], .rt, .rt, .go [.ld 3, .ld 3, .ld 61, .ld 17]])
noncomputable def hS8b : List Hm := (.go [.ld 3, .ld 4, .ld 3, .ld 4, .ld 65] :: [.cl none, .ag none, .cl none, .ag none, .go [.fr, .fr, .al], .rt, .go [.ld 74, .ld 74], .cl none, .go [.ld 74], .ag none, .go [.ld 74], .rt, .rt, .go [.ld 3, .ld 3, .ld 61, .ld 17]])
theorem st8_m {w : World} : (∀ {D : Nat} {h0 h : Heap} {L0 : List (Addr × Obj)} {g : Array GenState} {d : Drawn} {tk : Nat} {os : OsState} {Z N : Nat} {A : Around} {Q : Flow → Shared → Prop} {E : Value → Shared → Prop} {rg it so : Obj} {sc : Addr} {c1 : Option Value} {kk kt : Tok} {m o s : Int} {tm to ts km ko ks kl tx : Tok} {x : Str} {f q : Int} {n s0 : Nat} {tf tq tn ts0 : Tok} {p0 : Array Nat} (hD : D ≤ 500) (hA : Bd D A) (S : Sg L0 h0 (LD w (tabO []) (tabO []) sc so N (lfr w [("k", kk, .int 0 kt), ("more", km, .int m tm), ("mode", ko, .int o to), ("start", ks, .int s ts), ("told", kl, .str x tx)]) c1 (some (.int f tf)) (some (.int q tq)) (some (.int (n : Nat) tn)) (some (.int ((s0 : Nat) : Int) ts0)) rg it) Z h) (hn : 2 ≤ n) (h64 : n < 64) (hx : x.length = n) (hok : ∀ i, i < n → okS (x ++ x) n i = true) (hrun : askRun n (fun i j => lessR (x ++ x) n i j) (kas_sort n) = some p0) (hlt : ∀ j, j < n → p0.getD j 0 < n) (hp : (List.range n).map (fun j => ((p0.getD j 0 : Nat) : Int)) = (List.range n).map (fun j => (((j : Nat) : Int) * ((s0 : Nat) : Int)).fmod n)) (hQ : ∀ h' tk' Z', Sg L0 h0 ((LD w (cmT (Z + 1)) (t37 (Z + 12)) sc so N (lfr w [("k", kk, .int 0 kt), ("more", km, .int m tm), ("mode", ko, .int o to), ("start", ks, .int s ts), ("told", kl, .str x tx)]) c1 (some (.int f tf)) (some (.int q tq)) (some (.int (n : Nat) tn)) (some (.int ((s0 : Nat) : Int) ts0)) rg it) ++ (EX (Z + 12) (tk + 18) (Z + 1) (tk + 2))) Z' h' → Q .next ⟨h', g, d, tk', os⟩), wpAny (model PG w) A (exec (stmtN 8) (lawEnv N)) Q E ⟨h, g, d, tk, os⟩) ∧
    (∀ {D : Nat} {h0 h : Heap} {L0 : List (Addr × Obj)} {g : Array GenState} {d : Drawn} {tk : Nat} {os : OsState} {Z N : Nat} {A : Around} {Q : Flow → Shared → Prop} {E : Value → Shared → Prop} {rg it so : Obj} {sc : Addr} {c1 : Option Value} {kk kt : Tok} {m o s : Int} {tm to ts km ko ks kl tx : Tok} {x : Str} {kn ku mm mu : Nat} {f q : Int} {n s0 : Nat} {tf tq tn ts0 : Tok} {p0 : Array Nat} (hD : D ≤ 500) (hA : Bd D A) (S : Sg L0 h0 ((LD w (cmT mm) (t37 kn) sc so N (lfr w [("k", kk, .int 1 kt), ("more", km, .int m tm), ("mode", ko, .int o to), ("start", ks, .int s ts), ("told", kl, .str x tx)]) c1 (some (.int f tf)) (some (.int q tq)) (some (.int (n : Nat) tn)) (some (.int ((s0 : Nat) : Int) ts0)) rg it) ++ EX kn ku mm mu) Z h) (hn : 2 ≤ n) (h64 : n < 64) (hx : x.length = n) (hok : ∀ i, i < n → okS (x ++ x) n i = true) (hrun : askRun n (fun i j => lessR (x ++ x) n i j) (kas_sort n) = some p0) (hlt : ∀ j, j < n → p0.getD j 0 < n) (hp : (List.range n).map (fun j => ((p0.getD j 0 : Nat) : Int)) = (List.range n).map (fun j => (((j : Nat) : Int) * ((s0 : Nat) : Int)).fmod n)) (hQ : ∀ h' tk' Z', Sg L0 h0 ((LD w (cmT mm) (t37 kn) sc so N (lfr w [("k", kk, .int 1 kt), ("more", km, .int m tm), ("mode", ko, .int o to), ("start", ks, .int s ts), ("told", kl, .str x tx)]) c1 (some (.int f tf)) (some (.int q tq)) (some (.int (n : Nat) tn)) (some (.int ((s0 : Nat) : Int) ts0)) rg it) ++ (EX kn ku mm mu)) Z' h' → Q .next ⟨h', g, d, tk', os⟩), wpAny (model PG w) A (exec (stmtN 8) (lawEnv N)) Q E ⟨h, g, d, tk, os⟩) := by
  refine ⟨?_, ?_⟩
  · intro D h0 h L0 g d tk os Z N A Q E rg it so sc c1 kk kt m o s tm to ts km ko ks kl tx x f q n s0 tf tq tn ts0 p0 hD hA S hn h64 hx hok hrun hlt hp hQ
    have hr : recursionLimit = 1000 := rfl
    rw [st8_eq]
    refine wpAny_If (wpAny_isTrue_Compare1 ?_)
    refine opTop (D := D) fun W hW => ?_
    refine opM hW (by first | exact dD hD rfl | exact dD0 hD rfl | omega) hA S 0 hS8a (List.range 70) [] (.call (.ref 119) ⟨[.str x tx], []⟩) ((LD w (tabO []) (tabO []) sc so N (lfr w [("k", kk, .int 0 kt), ("more", km, .int m tm), ("mode", ko, .int o to), ("start", ks, .int s ts), ("told", kl, .str x tx)]) c1 (some (.int f tf)) (some (.int q tq)) (some (.int (n : Nat) tn)) (some (.int ((s0 : Nat) : Int) ts0)) rg it) ++ [(Z, rgO 0 tk (n : Nat) tn 1 (tk + 1))]) (Z + 1) (tk + 2) (fun b => by cases b <;> kernel_rfl) (by decide) .nil fun Wc hWc hc Sc Ac ac => ?_
    refine cc1 (D := D + 60) (by first | exact dD hD rfl | exact dD0 hD rfl | omega) ac (by omega) (by omega) ((by kernel_rfl : Mine.pick ((LD w (tabO []) (tabO []) sc so N (lfr w [("k", kk, .int 0 kt), ("more", km, .int m tm), ("mode", ko, .int o to), ("start", ks, .int s ts), ("told", kl, .str x tx)]) c1 (some (.int f tf)) (some (.int q tq)) (some (.int (n : Nat) tn)) (some (.int ((s0 : Nat) : Int) ts0)) rg it) ++ [(Z, rgO 0 tk (n : Nat) tn 1 (tk + 1))]) [0, 17, 18, 3, 4, 58, 5] = (L119 w (tabO []))) ▸ Sc.lg.pick (is := [0, 17, 18, 3, 4, 58, 5]) (by decide)) Sc.sz fun hc2 Tc => ?_
    have Sc2 := Sc.join (is := [0, 17, 18, 3, 4, 58, 5]) (js := [1, 2, 6, 7, 8, 9, 10, 11, 12, 13, 14, 15, 16, 19, 20, 21, 22, 23, 24, 25, 26, 27, 28, 29, 30, 31, 32, 33, 34, 35, 36, 37, 38, 39, 40, 41, 42, 43, 44, 45, 46, 47, 48, 49, 50, 51, 52, 53, 54, 55, 56, 57, 59, 60, 61, 62, 63, 64, 65, 66, 67, 68, 69]) (by decide) ((by kernel_rfl : Mine.pick ((LD w (tabO []) (tabO []) sc so N (lfr w [("k", kk, .int 0 kt), ("more", km, .int m tm), ("mode", ko, .int o to), ("start", ks, .int s ts), ("told", kl, .str x tx)]) c1 (some (.int f tf)) (some (.int q tq)) (some (.int (n : Nat) tn)) (some (.int ((s0 : Nat) : Int) ts0)) rg it) ++ [(Z, rgO 0 tk (n : Nat) tn 1 (tk + 1))]) [0, 17, 18, 3, 4, 58, 5] = (L119 w (tabO []))).symm ▸ Tc)
    have S0 : Sg L0 h0 ((LD w (cmT (Z + 1)) (tabO []) sc so N (lfr w [("k", kk, .int 0 kt), ("more", km, .int m tm), ("mode", ko, .int o to), ("start", ks, .int s ts), ("told", kl, .str x tx)]) c1 (some (.int f tf)) (some (.int q tq)) (some (.int (n : Nat) tn)) (some (.int ((s0 : Nat) : Int) ts0)) rg it) ++ [(Z, rgO 0 tk (n : Nat) tn 1 (tk + 1))] ++ Cm.L (⟨Z + 11, Z + 2, Z + 3, Z + 4, Z + 1, tk + 2, x.length, tk + 4, x ++ x, tk + 5⟩ : Cm)) (Z + 12) hc2 := (by kernel_rfl : Mine.pick (Mine.pick ((LD w (tabO []) (tabO []) sc so N (lfr w [("k", kk, .int 0 kt), ("more", km, .int m tm), ("mode", ko, .int o to), ("start", ks, .int s ts), ("told", kl, .str x tx)]) c1 (some (.int f tf)) (some (.int q tq)) (some (.int (n : Nat) tn)) (some (.int ((s0 : Nat) : Int) ts0)) rg it) ++ [(Z, rgO 0 tk (n : Nat) tn 1 (tk + 1))]) [1, 2, 6, 7, 8, 9, 10, 11, 12, 13, 14, 15, 16, 19, 20, 21, 22, 23, 24, 25, 26, 27, 28, 29, 30, 31, 32, 33, 34, 35, 36, 37, 38, 39, 40, 41, 42, 43, 44, 45, 46, 47, 48, 49, 50, 51, 52, 53, 54, 55, 56, 57, 59, 60, 61, 62, 63, 64, 65, 66, 67, 68, 69] ++ ((L119 w (cmT (Z + 1))) ++ Cm.L (⟨Z + 11, Z + 2, Z + 3, Z + 4, Z + 1, tk + 2, x.length, tk + 4, x ++ x, tk + 5⟩ : Cm))) [63, 0, 1, 66, 67, 69, 2, 3, 4, 5, 6, 7, 8, 9, 10, 11, 12, 64, 65, 13, 14, 15, 16, 17, 18, 19, 20, 21, 22, 23, 24, 25, 26, 27, 28, 29, 30, 31, 32, 33, 34, 35, 36, 37, 38, 39, 40, 41, 42, 43, 44, 45, 46, 47, 48, 49, 50, 51, 68, 52, 53, 54, 55, 56, 57, 58, 59, 60, 61, 62, 70, 71, 72, 73] = ((LD w (cmT (Z + 1)) (tabO []) sc so N (lfr w [("k", kk, .int 0 kt), ("more", km, .int m tm), ("mode", ko, .int o to), ("start", ks, .int s ts), ("told", kl, .str x tx)]) c1 (some (.int f tf)) (some (.int q tq)) (some (.int (n : Nat) tn)) (some (.int ((s0 : Nat) : Int) ts0)) rg it) ++ [(Z, rgO 0 tk (n : Nat) tn 1 (tk + 1))] ++ Cm.L (⟨Z + 11, Z + 2, Z + 3, Z + 4, Z + 1, tk + 2, x.length, tk + 4, x ++ x, tk + 5⟩ : Cm))) ▸ Sc2.pick (is := [63, 0, 1, 66, 67, 69, 2, 3, 4, 5, 6, 7, 8, 9, 10, 11, 12, 64, 65, 13, 14, 15, 16, 17, 18, 19, 20, 21, 22, 23, 24, 25, 26, 27, 28, 29, 30, 31, 32, 33, 34, 35, 36, 37, 38, 39, 40, 41, 42, 43, 44, 45, 46, 47, 48, 49, 50, 51, 68, 52, 53, 54, 55, 56, 57, 58, 59, 60, 61, 62, 70, 71, 72, 73]) (by decide)
    refine opM (hWc _) (by first | exact dD hD rfl | exact dD0 hD rfl | omega) hA S0 0 [.go [.ld 19]] (List.range 74) [] (.call (.ref 42) ⟨[.ref (Z + 11)], []⟩) ((LD w (cmT (Z + 1)) (tabO []) sc so N (lfr w [("k", kk, .int 0 kt), ("more", km, .int m tm), ("mode", ko, .int o to), ("start", ks, .int s ts), ("told", kl, .str x tx)]) c1 (some (.int f tf)) (some (.int q tq)) (some (.int (n : Nat) tn)) (some (.int ((s0 : Nat) : Int) ts0)) rg it) ++ [(Z, rgO 0 tk (n : Nat) tn 1 (tk + 1))] ++ Cm.L (⟨Z + 11, Z + 2, Z + 3, Z + 4, Z + 1, tk + 2, x.length, tk + 4, x ++ x, tk + 5⟩ : Cm)) (Z + 12) (tk + 18) (fun b => by cases b <;> kernel_rfl) (by decide) .nil fun W1 hW1 h1 S1 A1 a1 => ?_
    have HK : Lg (L42 w (tabO [])) h1 := (by kernel_rfl : Mine.pick ((LD w (cmT (Z + 1)) (tabO []) sc so N (lfr w [("k", kk, .int 0 kt), ("more", km, .int m tm), ("mode", ko, .int o to), ("start", ks, .int s ts), ("told", kl, .str x tx)]) c1 (some (.int f tf)) (some (.int q tq)) (some (.int (n : Nat) tn)) (some (.int ((s0 : Nat) : Int) ts0)) rg it) ++ [(Z, rgO 0 tk (n : Nat) tn 1 (tk + 1))] ++ Cm.L (⟨Z + 11, Z + 2, Z + 3, Z + 4, Z + 1, tk + 2, x.length, tk + 4, x ++ x, tk + 5⟩ : Cm)) [19, 20, 59, 0, 3, 4, 5] = (L42 w (tabO []))) ▸ S1.lg.pick (is := [19, 20, 59, 0, 3, 4, 5]) (by decide)
    refine ck1_call (w := w) (f := Z + 11) (by have := a1.1; omega) (by have := a1.1; omega) HK S1.sz fun h2 T2 => ?_
    have S2 := S1.join (is := [19, 20, 59, 0, 3, 4, 5]) (js := [1, 2, 6, 7, 8, 9, 10, 11, 12, 13, 14, 15, 16, 17, 18, 21, 22, 23, 24, 25, 26, 27, 28, 29, 30, 31, 32, 33, 34, 35, 36, 37, 38, 39, 40, 41, 42, 43, 44, 45, 46, 47, 48, 49, 50, 51, 52, 53, 54, 55, 56, 57, 58, 60, 61, 62, 63, 64, 65, 66, 67, 68, 69, 70, 71, 72, 73]) (by decide) ((by kernel_rfl : Mine.pick ((LD w (cmT (Z + 1)) (tabO []) sc so N (lfr w [("k", kk, .int 0 kt), ("more", km, .int m tm), ("mode", ko, .int o to), ("start", ks, .int s ts), ("told", kl, .str x tx)]) c1 (some (.int f tf)) (some (.int q tq)) (some (.int (n : Nat) tn)) (some (.int ((s0 : Nat) : Int) ts0)) rg it) ++ [(Z, rgO 0 tk (n : Nat) tn 1 (tk + 1))] ++ Cm.L (⟨Z + 11, Z + 2, Z + 3, Z + 4, Z + 1, tk + 2, x.length, tk + 4, x ++ x, tk + 5⟩ : Cm)) [19, 20, 59, 0, 3, 4, 5] = (L42 w (tabO []))).symm ▸ T2)
    have S3 : Sg L0 h0 (Mine.pick (Mine.pick ((LD w (cmT (Z + 1)) (tabO []) sc so N (lfr w [("k", kk, .int 0 kt), ("more", km, .int m tm), ("mode", ko, .int o to), ("start", ks, .int s ts), ("told", kl, .str x tx)]) c1 (some (.int f tf)) (some (.int q tq)) (some (.int (n : Nat) tn)) (some (.int ((s0 : Nat) : Int) ts0)) rg it) ++ [(Z, rgO 0 tk (n : Nat) tn 1 (tk + 1))] ++ Cm.L (⟨Z + 11, Z + 2, Z + 3, Z + 4, Z + 1, tk + 2, x.length, tk + 4, x ++ x, tk + 5⟩ : Cm)) [1, 2, 6, 7, 8, 9, 10, 11, 12, 13, 14, 15, 16, 17, 18, 21, 22, 23, 24, 25, 26, 27, 28, 29, 30, 31, 32, 33, 34, 35, 36, 37, 38, 39, 40, 41, 42, 43, 44, 45, 46, 47, 48, 49, 50, 51, 52, 53, 54, 55, 56, 57, 58, 60, 61, 62, 63, 64, 65, 66, 67, 68, 69, 70, 71, 72, 73] ++ (LK1 w (Z + 12) (tk + 18) (Z + 11))) [89, 0, 1, 70, 71, 72, 2, 3, 4, 5, 6, 7, 8, 9, 10, 11, 12, 13, 14, 67, 68, 15, 16, 17, 18, 19, 20, 21, 22, 23, 24, 25, 26, 27, 28, 29, 30, 31, 32, 33, 34, 35, 36, 37, 38, 39, 40, 41, 42, 43, 44, 45, 46, 47, 48, 49, 50, 51, 52, 69, 53, 54, 55, 56, 57, 58, 59, 60, 61, 62, 76, 75, 77, 78, 64, 91, 90, 82, 92, 83, 74, 63, 65, 66]) (Z + 12 + 64) h2 := S2.pick (is := [89, 0, 1, 70, 71, 72, 2, 3, 4, 5, 6, 7, 8, 9, 10, 11, 12, 13, 14, 67, 68, 15, 16, 17, 18, 19, 20, 21, 22, 23, 24, 25, 26, 27, 28, 29, 30, 31, 32, 33, 34, 35, 36, 37, 38, 39, 40, 41, 42, 43, 44, 45, 46, 47, 48, 49, 50, 51, 52, 69, 53, 54, 55, 56, 57, 58, 59, 60, 61, 62, 76, 75, 77, 78, 64, 91, 90, 82, 92, 83, 74, 63, 65, 66]) (by decide)
    refine opM (hW1 _) (by first | exact dD hD rfl | exact dD0 hD rfl | omega) hA S3 0 [] (List.range 84) [] (.call (.builtin "sorted") ⟨[.ref Z], [(Str.ofString "key", .ref (Z + 12 + 60))]⟩) (Mine.pick (Mine.pick ((LD w (cmT (Z + 1)) (tabO []) sc so N (lfr w [("k", kk, .int 0 kt), ("more", km, .int m tm), ("mode", ko, .int o to), ("start", ks, .int s ts), ("told", kl, .str x tx)]) c1 (some (.int f tf)) (some (.int q tq)) (some (.int (n : Nat) tn)) (some (.int ((s0 : Nat) : Int) ts0)) rg it) ++ [(Z, rgO 0 tk (n : Nat) tn 1 (tk + 1))] ++ Cm.L (⟨Z + 11, Z + 2, Z + 3, Z + 4, Z + 1, tk + 2, x.length, tk + 4, x ++ x, tk + 5⟩ : Cm)) [1, 2, 6, 7, 8, 9, 10, 11, 12, 13, 14, 15, 16, 17, 18, 21, 22, 23, 24, 25, 26, 27, 28, 29, 30, 31, 32, 33, 34, 35, 36, 37, 38, 39, 40, 41, 42, 43, 44, 45, 46, 47, 48, 49, 50, 51, 52, 53, 54, 55, 56, 57, 58, 60, 61, 62, 63, 64, 65, 66, 67, 68, 69, 70, 71, 72, 73] ++ (LK1 w (Z + 12) (tk + 18) (Z + 11))) [89, 0, 1, 70, 71, 72, 2, 3, 4, 5, 6, 7, 8, 9, 10, 11, 12, 13, 14, 67, 68, 15, 16, 17, 18, 19, 20, 21, 22, 23, 24, 25, 26, 27, 28, 29, 30, 31, 32, 33, 34, 35, 36, 37, 38, 39, 40, 41, 42, 43, 44, 45, 46, 47, 48, 49, 50, 51, 52, 69, 53, 54, 55, 56, 57, 58, 59, 60, 61, 62, 76, 75, 77, 78, 64, 91, 90, 82, 92, 83, 74, 63, 65, 66]) (Z + 12 + 64) (tk + 18 + 78) (fun b => by cases b <;> kernel_rfl) (by decide) .nil fun W2 hW2 h3 S4 A2 a2 => ?_
    have HB : Lg (BL w (kl1 w (Z + 12) (tk + 18) (Z + 11)) (⟨Z + 11, Z + 2, Z + 3, Z + 4, Z + 1, tk + 2, x.length, tk + 4, x ++ x, tk + 5⟩ : Cm)) h3 := (by kernel_rfl : Mine.pick (Mine.pick (Mine.pick ((LD w (cmT (Z + 1)) (tabO []) sc so N (lfr w [("k", kk, .int 0 kt), ("more", km, .int m tm), ("mode", ko, .int o to), ("start", ks, .int s ts), ("told", kl, .str x tx)]) c1 (some (.int f tf)) (some (.int q tq)) (some (.int (n : Nat) tn)) (some (.int ((s0 : Nat) : Int) ts0)) rg it) ++ [(Z, rgO 0 tk (n : Nat) tn 1 (tk + 1))] ++ Cm.L (⟨Z + 11, Z + 2, Z + 3, Z + 4, Z + 1, tk + 2, x.length, tk + 4, x ++ x, tk + 5⟩ : Cm)) [1, 2, 6, 7, 8, 9, 10, 11, 12, 13, 14, 15, 16, 17, 18, 21, 22, 23, 24, 25, 26, 27, 28, 29, 30, 31, 32, 33, 34, 35, 36, 37, 38, 39, 40, 41, 42, 43, 44, 45, 46, 47, 48, 49, 50, 51, 52, 53, 54, 55, 56, 57, 58, 60, 61, 62, 63, 64, 65, 66, 67, 68, 69, 70, 71, 72, 73] ++ (LK1 w (Z + 12) (tk + 18) (Z + 11))) [89, 0, 1, 70, 71, 72, 2, 3, 4, 5, 6, 7, 8, 9, 10, 11, 12, 13, 14, 67, 68, 15, 16, 17, 18, 19, 20, 21, 22, 23, 24, 25, 26, 27, 28, 29, 30, 31, 32, 33, 34, 35, 36, 37, 38, 39, 40, 41, 42, 43, 44, 45, 46, 47, 48, 49, 50, 51, 52, 69, 53, 54, 55, 56, 57, 58, 59, 60, 61, 62, 76, 75, 77, 78, 64, 91, 90, 82, 92, 83, 74, 63, 65, 66]) [0, 75, 76, 77, 72, 78, 79, 73, 80, 81, 74, 82, 83] = BL w (kl1 w (Z + 12) (tk + 18) (Z + 11)) (⟨Z + 11, Z + 2, Z + 3, Z + 4, Z + 1, tk + 2, x.length, tk + 4, x ++ x, tk + 5⟩ : Cm)) ▸ S4.lg.pick (is := [0, 75, 76, 77, 72, 78, 79, 73, 80, 81, 74, 82, 83]) (by decide)
    have hg : h3.get? Z = some (rgO 0 tk (n : Nat) tn 1 (tk + 1)) := S4.lg.get (i := 69) (p := (Z, rgO 0 tk (n : Nat) tn 1 (tk + 1))) (by kernel_rfl)
    have S5 : Sg L0 h0 ((LD w (cmT (Z + 1)) (t37 (Z + 12)) sc so N (lfr w [("k", kk, .int 0 kt), ("more", km, .int m tm), ("mode", ko, .int o to), ("start", ks, .int s ts), ("told", kl, .str x tx)]) c1 (some (.int f tf)) (some (.int q tq)) (some (.int (n : Nat) tn)) (some (.int ((s0 : Nat) : Int) ts0)) rg it) ++ (EX (Z + 12) (tk + 18) (Z + 1) (tk + 2))) (Z + 12 + 64) h3 := (by kernel_rfl : Mine.pick (Mine.pick (Mine.pick ((LD w (cmT (Z + 1)) (tabO []) sc so N (lfr w [("k", kk, .int 0 kt), ("more", km, .int m tm), ("mode", ko, .int o to), ("start", ks, .int s ts), ("told", kl, .str x tx)]) c1 (some (.int f tf)) (some (.int q tq)) (some (.int (n : Nat) tn)) (some (.int ((s0 : Nat) : Int) ts0)) rg it) ++ [(Z, rgO 0 tk (n : Nat) tn 1 (tk + 1))] ++ Cm.L (⟨Z + 11, Z + 2, Z + 3, Z + 4, Z + 1, tk + 2, x.length, tk + 4, x ++ x, tk + 5⟩ : Cm)) [1, 2, 6, 7, 8, 9, 10, 11, 12, 13, 14, 15, 16, 17, 18, 21, 22, 23, 24, 25, 26, 27, 28, 29, 30, 31, 32, 33, 34, 35, 36, 37, 38, 39, 40, 41, 42, 43, 44, 45, 46, 47, 48, 49, 50, 51, 52, 53, 54, 55, 56, 57, 58, 60, 61, 62, 63, 64, 65, 66, 67, 68, 69, 70, 71, 72, 73] ++ (LK1 w (Z + 12) (tk + 18) (Z + 11))) [89, 0, 1, 70, 71, 72, 2, 3, 4, 5, 6, 7, 8, 9, 10, 11, 12, 13, 14, 67, 68, 15, 16, 17, 18, 19, 20, 21, 22, 23, 24, 25, 26, 27, 28, 29, 30, 31, 32, 33, 34, 35, 36, 37, 38, 39, 40, 41, 42, 43, 44, 45, 46, 47, 48, 49, 50, 51, 52, 69, 53, 54, 55, 56, 57, 58, 59, 60, 61, 62, 76, 75, 77, 78, 64, 91, 90, 82, 92, 83, 74, 63, 65, 66]) [0, 1, 2, 3, 4, 5, 6, 7, 8, 9, 10, 11, 12, 13, 14, 15, 16, 17, 18, 19, 20, 21, 22, 23, 24, 25, 26, 27, 28, 29, 30, 31, 32, 33, 34, 35, 36, 37, 38, 39, 40, 41, 42, 43, 44, 45, 46, 47, 48, 49, 50, 51, 52, 53, 54, 55, 56, 57, 58, 59, 60, 61, 62, 63, 64, 65, 66, 67, 68, 70, 71, 72, 73, 74] = ((LD w (cmT (Z + 1)) (t37 (Z + 12)) sc so N (lfr w [("k", kk, .int 0 kt), ("more", km, .int m tm), ("mode", ko, .int o to), ("start", ks, .int s ts), ("told", kl, .str x tx)]) c1 (some (.int f tf)) (some (.int q tq)) (some (.int (n : Nat) tn)) (some (.int ((s0 : Nat) : Int) ts0)) rg it) ++ (EX (Z + 12) (tk + 18) (Z + 1) (tk + 2)))) ▸ S4.pick (is := [0, 1, 2, 3, 4, 5, 6, 7, 8, 9, 10, 11, 12, 13, 14, 15, 16, 17, 18, 19, 20, 21, 22, 23, 24, 25, 26, 27, 28, 29, 30, 31, 32, 33, 34, 35, 36, 37, 38, 39, 40, 41, 42, 43, 44, 45, 46, 47, 48, 49, 50, 51, 52, 53, 54, 55, 56, 57, 58, 59, 60, 61, 62, 63, 64, 65, 66, 67, 68, 70, 71, 72, 73, 74]) (by decide)
    refine srt_sorted (D := D + 60) (n := n) (k := (kl1 w (Z + 12) (tk + 18) (Z + 11))) (c := (⟨Z + 11, Z + 2, Z + 3, Z + 4, Z + 1, tk + 2, x.length, tk + 4, x ++ x, tk + 5⟩ : Cm)) (p0 := p0) (by first | exact dD hD rfl | exact dD0 hD rfl | omega) a2 rfl HB hg (sz1 n h64).1 (sz1 n h64).2 hlt hn h64 (fun i hi => ?_) ?_ fun h4 tk4 c2 out a ho1 ho2 ha hG hZ => ?_
    · show okS (x ++ x) (x.length : Int) i = true
      rw [hx]; exact hok i hi
    · show askRun n (fun i j => lessR (x ++ x) (x.length : Int) i j) (kas_sort n) = some p0
      rw [hx]; exact hrun
    have S6 := S5.addNew hG ha (S5.sz ▸ hZ)
    refine opX (hW2 _) (by first | exact dD hD rfl | exact dD0 hD rfl | omega) hA S6 0 [.go []] (List.range 75) [] (.ref a) ((LD w (cmT (Z + 1)) (t37 (Z + 12)) sc so N (lfr w [("k", kk, .int 0 kt), ("more", km, .int m tm), ("mode", ko, .int o to), ("start", ks, .int s ts), ("told", kl, .str x tx)]) c1 (some (.int f tf)) (some (.int q tq)) (some (.int (n : Nat) tn)) (some (.int ((s0 : Nat) : Int) ts0)) rg it) ++ ((EX (Z + 12) (tk + 18) (Z + 1) (tk + 2)) ++ [(a, seqObj "list" out c2)])) h4.objs.size tk4 (fun b => by cases b <;> kernel_rfl) (by decide) .nil fun h5 S7 => ?_
    refine st8r (D := D) (by first | exact dD hD rfl | exact dD0 hD rfl | omega) hA (Sg.start S7.lg.left rfl) hn h64 fun h6 tk6 Z6 b xs e6 hM T => ?_
    have S8 := S7.frame T
    have hla : h6.get? a = some (seqObj "list" out c2) := S8.lg.at_ _ (List.mem_append_right _ (List.mem_append_right _ (.head _)))
    have hlb : h6.get? b = some (seqObj "list" xs e6) := S8.lg.at_ _ (List.mem_append_left _ (List.mem_append_right _ (.head _)))
    refine ne_intsK (vs := out.toList) (us := xs.toList) (isList_of hla) (ints_of ho1 ho2) (isList_of hlb) (ints_of hM.1 hM.2) (units_ok hA (by omega)) ?_
    rw [hp, decide_eq_true rfl]
    refine wpAny_pure ?_
    refine wpAny_execs_nil ?_
    exact hQ h6 _ _ (S8.sub (by simp))
  · intro D h0 h L0 g d tk os Z N A Q E rg it so sc c1 kk kt m o s tm to ts km ko ks kl tx x kn ku mm mu f q n s0 tf tq tn ts0 p0 hD hA S hn h64 hx hok hrun hlt hp hQ
    have hr : recursionLimit = 1000 := rfl
    rw [st8_eq]
    refine wpAny_If (wpAny_isTrue_Compare1 ?_)
    refine opTop (D := D) fun W hW => ?_
    refine opM hW (by first | exact dD hD rfl | exact dD0 hD rfl | omega) hA S 0 hS8b (List.range 75) [] (.call (.ref 119) ⟨[.str x tx], []⟩) ((LD w (cmT mm) (t37 kn) sc so N (lfr w [("k", kk, .int 1 kt), ("more", km, .int m tm), ("mode", ko, .int o to), ("start", ks, .int s ts), ("told", kl, .str x tx)]) c1 (some (.int f tf)) (some (.int q tq)) (some (.int (n : Nat) tn)) (some (.int ((s0 : Nat) : Int) ts0)) rg it) ++ EX kn ku mm mu ++ [(Z, rgO 0 tk (n : Nat) tn 1 (tk + 1))]) (Z + 1) (tk + 2) (fun b => by cases b <;> kernel_rfl) (by decide) .nil fun Wc hWc hc Sc Ac ac => ?_
    refine cc2 (D := D + 60) (by first | exact dD hD rfl | exact dD0 hD rfl | omega) ac (by omega) (by omega) ((by kernel_rfl : Mine.pick ((LD w (cmT mm) (t37 kn) sc so N (lfr w [("k", kk, .int 1 kt), ("more", km, .int m tm), ("mode", ko, .int o to), ("start", ks, .int s ts), ("told", kl, .str x tx)]) c1 (some (.int f tf)) (some (.int q tq)) (some (.int (n : Nat) tn)) (some (.int ((s0 : Nat) : Int) ts0)) rg it) ++ EX kn ku mm mu ++ [(Z, rgO 0 tk (n : Nat) tn 1 (tk + 1))]) [0, 17, 18, 3, 4, 58, 5, 73] = (L119b w mm mu)) ▸ Sc.lg.pick (is := [0, 17, 18, 3, 4, 58, 5, 73]) (by decide)) Sc.sz fun hc2 Tc => ?_
    have Sc2 := Sc.join (is := [0, 17, 18, 3, 4, 58, 5, 73]) (js := [1, 2, 6, 7, 8, 9, 10, 11, 12, 13, 14, 15, 16, 19, 20, 21, 22, 23, 24, 25, 26, 27, 28, 29, 30, 31, 32, 33, 34, 35, 36, 37, 38, 39, 40, 41, 42, 43, 44, 45, 46, 47, 48, 49, 50, 51, 52, 53, 54, 55, 56, 57, 59, 60, 61, 62, 63, 64, 65, 66, 67, 68, 69, 70, 71, 72, 74]) (by decide) ((by kernel_rfl : Mine.pick ((LD w (cmT mm) (t37 kn) sc so N (lfr w [("k", kk, .int 1 kt), ("more", km, .int m tm), ("mode", ko, .int o to), ("start", ks, .int s ts), ("told", kl, .str x tx)]) c1 (some (.int f tf)) (some (.int q tq)) (some (.int (n : Nat) tn)) (some (.int ((s0 : Nat) : Int) ts0)) rg it) ++ EX kn ku mm mu ++ [(Z, rgO 0 tk (n : Nat) tn 1 (tk + 1))]) [0, 17, 18, 3, 4, 58, 5, 73] = (L119b w mm mu)).symm ▸ Tc)
    have S0 : Sg L0 h0 ((LD w (cmT mm) (t37 kn) sc so N (lfr w [("k", kk, .int 1 kt), ("more", km, .int m tm), ("mode", ko, .int o to), ("start", ks, .int s ts), ("told", kl, .str x tx)]) c1 (some (.int f tf)) (some (.int q tq)) (some (.int (n : Nat) tn)) (some (.int ((s0 : Nat) : Int) ts0)) rg it) ++ EX kn ku mm mu ++ [(Z, rgO 0 tk (n : Nat) tn 1 (tk + 1))] ++ [(Z + 5, fnO (cmFD (Z + 2) (Z + 3) (mm + 9) (Z + 4))), (Z + 2, cellO (some (.int x.length (tk + 4)))), (Z + 3, cellO (some (.str (x ++ x) (tk + 5))))]) (Z + 6) hc2 := (by kernel_rfl : Mine.pick (Mine.pick ((LD w (cmT mm) (t37 kn) sc so N (lfr w [("k", kk, .int 1 kt), ("more", km, .int m tm), ("mode", ko, .int o to), ("start", ks, .int s ts), ("told", kl, .str x tx)]) c1 (some (.int f tf)) (some (.int q tq)) (some (.int (n : Nat) tn)) (some (.int ((s0 : Nat) : Int) ts0)) rg it) ++ EX kn ku mm mu ++ [(Z, rgO 0 tk (n : Nat) tn 1 (tk + 1))]) [1, 2, 6, 7, 8, 9, 10, 11, 12, 13, 14, 15, 16, 19, 20, 21, 22, 23, 24, 25, 26, 27, 28, 29, 30, 31, 32, 33, 34, 35, 36, 37, 38, 39, 40, 41, 42, 43, 44, 45, 46, 47, 48, 49, 50, 51, 52, 53, 54, 55, 56, 57, 59, 60, 61, 62, 63, 64, 65, 66, 67, 68, 69, 70, 71, 72, 74] ++ ((L119 w (cmT mm)) ++ Cm.L (⟨Z + 5, Z + 2, Z + 3, Z + 4, mm, mu, x.length, tk + 4, x ++ x, tk + 5⟩ : Cm))) [67, 0, 1, 70, 71, 73, 2, 3, 4, 5, 6, 7, 8, 9, 10, 11, 12, 68, 69, 13, 14, 15, 16, 17, 18, 19, 20, 21, 22, 23, 24, 25, 26, 27, 28, 29, 30, 31, 32, 33, 34, 35, 36, 37, 38, 39, 40, 41, 42, 43, 44, 45, 46, 47, 48, 49, 50, 51, 72, 52, 53, 54, 55, 56, 57, 58, 59, 60, 61, 62, 63, 64, 65, 75, 66, 74, 76, 77] = ((LD w (cmT mm) (t37 kn) sc so N (lfr w [("k", kk, .int 1 kt), ("more", km, .int m tm), ("mode", ko, .int o to), ("start", ks, .int s ts), ("told", kl, .str x tx)]) c1 (some (.int f tf)) (some (.int q tq)) (some (.int (n : Nat) tn)) (some (.int ((s0 : Nat) : Int) ts0)) rg it) ++ EX kn ku mm mu ++ [(Z, rgO 0 tk (n : Nat) tn 1 (tk + 1))] ++ [(Z + 5, fnO (cmFD (Z + 2) (Z + 3) (mm + 9) (Z + 4))), (Z + 2, cellO (some (.int x.length (tk + 4)))), (Z + 3, cellO (some (.str (x ++ x) (tk + 5))))])) ▸ Sc2.pick (is := [67, 0, 1, 70, 71, 73, 2, 3, 4, 5, 6, 7, 8, 9, 10, 11, 12, 68, 69, 13, 14, 15, 16, 17, 18, 19, 20, 21, 22, 23, 24, 25, 26, 27, 28, 29, 30, 31, 32, 33, 34, 35, 36, 37, 38, 39, 40, 41, 42, 43, 44, 45, 46, 47, 48, 49, 50, 51, 72, 52, 53, 54, 55, 56, 57, 58, 59, 60, 61, 62, 63, 64, 65, 75, 66, 74, 76, 77]) (by decide)
    refine opM (hWc _) (by first | exact dD hD rfl | exact dD0 hD rfl | omega) hA S0 0 [.go [.ld 19]] (List.range 78) [] (.call (.ref 42) ⟨[.ref (Z + 5)], []⟩) ((LD w (cmT mm) (t37 kn) sc so N (lfr w [("k", kk, .int 1 kt), ("more", km, .int m tm), ("mode", ko, .int o to), ("start", ks, .int s ts), ("told", kl, .str x tx)]) c1 (some (.int f tf)) (some (.int q tq)) (some (.int (n : Nat) tn)) (some (.int ((s0 : Nat) : Int) ts0)) rg it) ++ EX kn ku mm mu ++ [(Z, rgO 0 tk (n : Nat) tn 1 (tk + 1))] ++ [(Z + 5, fnO (cmFD (Z + 2) (Z + 3) (mm + 9) (Z + 4))), (Z + 2, cellO (some (.int x.length (tk + 4)))), (Z + 3, cellO (some (.str (x ++ x) (tk + 5))))]) (Z + 6) (tk + 7) (fun b => by cases b <;> kernel_rfl) (by decide) .nil fun W1 hW1 h1 S1 A1 a1 => ?_
    have HK : Lg (L42b w kn ku) h1 := (by kernel_rfl : Mine.pick ((LD w (cmT mm) (t37 kn) sc so N (lfr w [("k", kk, .int 1 kt), ("more", km, .int m tm), ("mode", ko, .int o to), ("start", ks, .int s ts), ("told", kl, .str x tx)]) c1 (some (.int f tf)) (some (.int q tq)) (some (.int (n : Nat) tn)) (some (.int ((s0 : Nat) : Int) ts0)) rg it) ++ EX kn ku mm mu ++ [(Z, rgO 0 tk (n : Nat) tn 1 (tk + 1))] ++ [(Z + 5, fnO (cmFD (Z + 2) (Z + 3) (mm + 9) (Z + 4))), (Z + 2, cellO (some (.int x.length (tk + 4)))), (Z + 3, cellO (some (.str (x ++ x) (tk + 5))))]) [19, 20, 59, 0, 3, 4, 5, 69, 70] = (L42b w kn ku)) ▸ S1.lg.pick (is := [19, 20, 59, 0, 3, 4, 5, 69, 70]) (by decide)
    refine ck2_call (w := w) (n := kn) (u := ku) (f := Z + 5) (by have := a1.1; omega) (by have := a1.1; omega) HK S1.sz fun h2 T2 => ?_
    have S2 := S1.join (is := [19, 20, 59, 0, 3, 4, 5, 69, 70]) (js := [1, 2, 6, 7, 8, 9, 10, 11, 12, 13, 14, 15, 16, 17, 18, 21, 22, 23, 24, 25, 26, 27, 28, 29, 30, 31, 32, 33, 34, 35, 36, 37, 38, 39, 40, 41, 42, 43, 44, 45, 46, 47, 48, 49, 50, 51, 52, 53, 54, 55, 56, 57, 58, 60, 61, 62, 63, 64, 65, 66, 67, 68, 71, 72, 73, 74, 75, 76, 77]) (by decide) ((by kernel_rfl : Mine.pick ((LD w (cmT mm) (t37 kn) sc so N (lfr w [("k", kk, .int 1 kt), ("more", km, .int m tm), ("mode", ko, .int o to), ("start", ks, .int s ts), ("told", kl, .str x tx)]) c1 (some (.int f tf)) (some (.int q tq)) (some (.int (n : Nat) tn)) (some (.int ((s0 : Nat) : Int) ts0)) rg it) ++ EX kn ku mm mu ++ [(Z, rgO 0 tk (n : Nat) tn 1 (tk + 1))] ++ [(Z + 5, fnO (cmFD (Z + 2) (Z + 3) (mm + 9) (Z + 4))), (Z + 2, cellO (some (.int x.length (tk + 4)))), (Z + 3, cellO (some (.str (x ++ x) (tk + 5))))]) [19, 20, 59, 0, 3, 4, 5, 69, 70] = (L42b w kn ku)).symm ▸ T2)
    have S3 : Sg L0 h0 (Mine.pick (Mine.pick ((LD w (cmT mm) (t37 kn) sc so N (lfr w [("k", kk, .int 1 kt), ("more", km, .int m tm), ("mode", ko, .int o to), ("start", ks, .int s ts), ("told", kl, .str x tx)]) c1 (some (.int f tf)) (some (.int q tq)) (some (.int (n : Nat) tn)) (some (.int ((s0 : Nat) : Int) ts0)) rg it) ++ EX kn ku mm mu ++ [(Z, rgO 0 tk (n : Nat) tn 1 (tk + 1))] ++ [(Z + 5, fnO (cmFD (Z + 2) (Z + 3) (mm + 9) (Z + 4))), (Z + 2, cellO (some (.int x.length (tk + 4)))), (Z + 3, cellO (some (.str (x ++ x) (tk + 5))))]) [1, 2, 6, 7, 8, 9, 10, 11, 12, 13, 14, 15, 16, 17, 18, 21, 22, 23, 24, 25, 26, 27, 28, 29, 30, 31, 32, 33, 34, 35, 36, 37, 38, 39, 40, 41, 42, 43, 44, 45, 46, 47, 48, 49, 50, 51, 52, 53, 54, 55, 56, 57, 58, 60, 61, 62, 63, 64, 65, 66, 67, 68, 71, 72, 73, 74, 75, 76, 77] ++ (LK2 w kn ku (Z + 6) (tk + 7) (Z + 5))) [89, 0, 1, 72, 73, 74, 2, 3, 4, 5, 6, 7, 8, 9, 10, 11, 12, 13, 14, 69, 70, 15, 16, 17, 18, 19, 20, 21, 22, 23, 24, 25, 26, 27, 28, 29, 30, 31, 32, 33, 34, 35, 36, 37, 38, 39, 40, 41, 42, 43, 44, 45, 46, 47, 48, 49, 50, 51, 52, 71, 53, 54, 55, 56, 57, 58, 59, 60, 61, 65, 75, 76, 62, 63, 64, 91, 90, 82, 92, 83, 78, 66, 67, 68]) (Z + 6 + 25) h2 := S2.pick (is := [89, 0, 1, 72, 73, 74, 2, 3, 4, 5, 6, 7, 8, 9, 10, 11, 12, 13, 14, 69, 70, 15, 16, 17, 18, 19, 20, 21, 22, 23, 24, 25, 26, 27, 28, 29, 30, 31, 32, 33, 34, 35, 36, 37, 38, 39, 40, 41, 42, 43, 44, 45, 46, 47, 48, 49, 50, 51, 52, 71, 53, 54, 55, 56, 57, 58, 59, 60, 61, 65, 75, 76, 62, 63, 64, 91, 90, 82, 92, 83, 78, 66, 67, 68]) (by decide)
    refine opM (hW1 _) (by first | exact dD hD rfl | exact dD0 hD rfl | omega) hA S3 0 [] (List.range 84) [] (.call (.builtin "sorted") ⟨[.ref Z], [(Str.ofString "key", .ref (Z + 6 + 21))]⟩) (Mine.pick (Mine.pick ((LD w (cmT mm) (t37 kn) sc so N (lfr w [("k", kk, .int 1 kt), ("more", km, .int m tm), ("mode", ko, .int o to), ("start", ks, .int s ts), ("told", kl, .str x tx)]) c1 (some (.int f tf)) (some (.int q tq)) (some (.int (n : Nat) tn)) (some (.int ((s0 : Nat) : Int) ts0)) rg it) ++ EX kn ku mm mu ++ [(Z, rgO 0 tk (n : Nat) tn 1 (tk + 1))] ++ [(Z + 5, fnO (cmFD (Z + 2) (Z + 3) (mm + 9) (Z + 4))), (Z + 2, cellO (some (.int x.length (tk + 4)))), (Z + 3, cellO (some (.str (x ++ x) (tk + 5))))]) [1, 2, 6, 7, 8, 9, 10, 11, 12, 13, 14, 15, 16, 17, 18, 21, 22, 23, 24, 25, 26, 27, 28, 29, 30, 31, 32, 33, 34, 35, 36, 37, 38, 39, 40, 41, 42, 43, 44, 45, 46, 47, 48, 49, 50, 51, 52, 53, 54, 55, 56, 57, 58, 60, 61, 62, 63, 64, 65, 66, 67, 68, 71, 72, 73, 74, 75, 76, 77] ++ (LK2 w kn ku (Z + 6) (tk + 7) (Z + 5))) [89, 0, 1, 72, 73, 74, 2, 3, 4, 5, 6, 7, 8, 9, 10, 11, 12, 13, 14, 69, 70, 15, 16, 17, 18, 19, 20, 21, 22, 23, 24, 25, 26, 27, 28, 29, 30, 31, 32, 33, 34, 35, 36, 37, 38, 39, 40, 41, 42, 43, 44, 45, 46, 47, 48, 49, 50, 51, 52, 71, 53, 54, 55, 56, 57, 58, 59, 60, 61, 65, 75, 76, 62, 63, 64, 91, 90, 82, 92, 83, 78, 66, 67, 68]) (Z + 6 + 25) (tk + 7 + 25) (fun b => by cases b <;> kernel_rfl) (by decide) .nil fun W2 hW2 h3 S4 A2 a2 => ?_
    have HB : Lg (BL w (kl2 w kn ku (Z + 6) (tk + 7) (Z + 5)) (⟨Z + 5, Z + 2, Z + 3, Z + 4, mm, mu, x.length, tk + 4, x ++ x, tk + 5⟩ : Cm)) h3 := (by kernel_rfl : Mine.pick (Mine.pick (Mine.pick ((LD w (cmT mm) (t37 kn) sc so N (lfr w [("k", kk, .int 1 kt), ("more", km, .int m tm), ("mode", ko, .int o to), ("start", ks, .int s ts), ("told", kl, .str x tx)]) c1 (some (.int f tf)) (some (.int q tq)) (some (.int (n : Nat) tn)) (some (.int ((s0 : Nat) : Int) ts0)) rg it) ++ EX kn ku mm mu ++ [(Z, rgO 0 tk (n : Nat) tn 1 (tk + 1))] ++ [(Z + 5, fnO (cmFD (Z + 2) (Z + 3) (mm + 9) (Z + 4))), (Z + 2, cellO (some (.int x.length (tk + 4)))), (Z + 3, cellO (some (.str (x ++ x) (tk + 5))))]) [1, 2, 6, 7, 8, 9, 10, 11, 12, 13, 14, 15, 16, 17, 18, 21, 22, 23, 24, 25, 26, 27, 28, 29, 30, 31, 32, 33, 34, 35, 36, 37, 38, 39, 40, 41, 42, 43, 44, 45, 46, 47, 48, 49, 50, 51, 52, 53, 54, 55, 56, 57, 58, 60, 61, 62, 63, 64, 65, 66, 67, 68, 71, 72, 73, 74, 75, 76, 77] ++ (LK2 w kn ku (Z + 6) (tk + 7) (Z + 5))) [89, 0, 1, 72, 73, 74, 2, 3, 4, 5, 6, 7, 8, 9, 10, 11, 12, 13, 14, 69, 70, 15, 16, 17, 18, 19, 20, 21, 22, 23, 24, 25, 26, 27, 28, 29, 30, 31, 32, 33, 34, 35, 36, 37, 38, 39, 40, 41, 42, 43, 44, 45, 46, 47, 48, 49, 50, 51, 52, 71, 53, 54, 55, 56, 57, 58, 59, 60, 61, 65, 75, 76, 62, 63, 64, 91, 90, 82, 92, 83, 78, 66, 67, 68]) [0, 75, 76, 77, 72, 78, 79, 73, 80, 81, 74, 82, 83] = BL w (kl2 w kn ku (Z + 6) (tk + 7) (Z + 5)) (⟨Z + 5, Z + 2, Z + 3, Z + 4, mm, mu, x.length, tk + 4, x ++ x, tk + 5⟩ : Cm)) ▸ S4.lg.pick (is := [0, 75, 76, 77, 72, 78, 79, 73, 80, 81, 74, 82, 83]) (by decide)
    have hg : h3.get? Z = some (rgO 0 tk (n : Nat) tn 1 (tk + 1)) := S4.lg.get (i := 69) (p := (Z, rgO 0 tk (n : Nat) tn 1 (tk + 1))) (by kernel_rfl)
    have S5 : Sg L0 h0 ((LD w (cmT mm) (t37 kn) sc so N (lfr w [("k", kk, .int 1 kt), ("more", km, .int m tm), ("mode", ko, .int o to), ("start", ks, .int s ts), ("told", kl, .str x tx)]) c1 (some (.int f tf)) (some (.int q tq)) (some (.int (n : Nat) tn)) (some (.int ((s0 : Nat) : Int) ts0)) rg it) ++ (EX kn ku mm mu)) (Z + 6 + 25) h3 := (by kernel_rfl : Mine.pick (Mine.pick (Mine.pick ((LD w (cmT mm) (t37 kn) sc so N (lfr w [("k", kk, .int 1 kt), ("more", km, .int m tm), ("mode", ko, .int o to), ("start", ks, .int s ts), ("told", kl, .str x tx)]) c1 (some (.int f tf)) (some (.int q tq)) (some (.int (n : Nat) tn)) (some (.int ((s0 : Nat) : Int) ts0)) rg it) ++ EX kn ku mm mu ++ [(Z, rgO 0 tk (n : Nat) tn 1 (tk + 1))] ++ [(Z + 5, fnO (cmFD (Z + 2) (Z + 3) (mm + 9) (Z + 4))), (Z + 2, cellO (some (.int x.length (tk + 4)))), (Z + 3, cellO (some (.str (x ++ x) (tk + 5))))]) [1, 2, 6, 7, 8, 9, 10, 11, 12, 13, 14, 15, 16, 17, 18, 21, 22, 23, 24, 25, 26, 27, 28, 29, 30, 31, 32, 33, 34, 35, 36, 37, 38, 39, 40, 41, 42, 43, 44, 45, 46, 47, 48, 49, 50, 51, 52, 53, 54, 55, 56, 57, 58, 60, 61, 62, 63, 64, 65, 66, 67, 68, 71, 72, 73, 74, 75, 76, 77] ++ (LK2 w kn ku (Z + 6) (tk + 7) (Z + 5))) [89, 0, 1, 72, 73, 74, 2, 3, 4, 5, 6, 7, 8, 9, 10, 11, 12, 13, 14, 69, 70, 15, 16, 17, 18, 19, 20, 21, 22, 23, 24, 25, 26, 27, 28, 29, 30, 31, 32, 33, 34, 35, 36, 37, 38, 39, 40, 41, 42, 43, 44, 45, 46, 47, 48, 49, 50, 51, 52, 71, 53, 54, 55, 56, 57, 58, 59, 60, 61, 65, 75, 76, 62, 63, 64, 91, 90, 82, 92, 83, 78, 66, 67, 68]) [0, 1, 2, 3, 4, 5, 6, 7, 8, 9, 10, 11, 12, 13, 14, 15, 16, 17, 18, 19, 20, 21, 22, 23, 24, 25, 26, 27, 28, 29, 30, 31, 32, 33, 34, 35, 36, 37, 38, 39, 40, 41, 42, 43, 44, 45, 46, 47, 48, 49, 50, 51, 52, 53, 54, 55, 56, 57, 58, 59, 60, 61, 62, 63, 64, 65, 66, 67, 68, 70, 71, 72, 73, 74] = ((LD w (cmT mm) (t37 kn) sc so N (lfr w [("k", kk, .int 1 kt), ("more", km, .int m tm), ("mode", ko, .int o to), ("start", ks, .int s ts), ("told", kl, .str x tx)]) c1 (some (.int f tf)) (some (.int q tq)) (some (.int (n : Nat) tn)) (some (.int ((s0 : Nat) : Int) ts0)) rg it) ++ (EX kn ku mm mu))) ▸ S4.pick (is := [0, 1, 2, 3, 4, 5, 6, 7, 8, 9, 10, 11, 12, 13, 14, 15, 16, 17, 18, 19, 20, 21, 22, 23, 24, 25, 26, 27, 28, 29, 30, 31, 32, 33, 34, 35, 36, 37, 38, 39, 40, 41, 42, 43, 44, 45, 46, 47, 48, 49, 50, 51, 52, 53, 54, 55, 56, 57, 58, 59, 60, 61, 62, 63, 64, 65, 66, 67, 68, 70, 71, 72, 73, 74]) (by decide)
    refine srt_sorted (D := D + 60) (n := n) (k := (kl2 w kn ku (Z + 6) (tk + 7) (Z + 5))) (c := (⟨Z + 5, Z + 2, Z + 3, Z + 4, mm, mu, x.length, tk + 4, x ++ x, tk + 5⟩ : Cm)) (p0 := p0) (by first | exact dD hD rfl | exact dD0 hD rfl | omega) a2 rfl HB hg (sz1 n h64).1 (sz1 n h64).2 hlt hn h64 (fun i hi => ?_) ?_ fun h4 tk4 c2 out a ho1 ho2 ha hG hZ => ?_
    · show okS (x ++ x) (x.length : Int) i = true
      rw [hx]; exact hok i hi
    · show askRun n (fun i j => lessR (x ++ x) (x.length : Int) i j) (kas_sort n) = some p0
      rw [hx]; exact hrun
    have S6 := S5.addNew hG ha (S5.sz ▸ hZ)
    refine opX (hW2 _) (by first | exact dD hD rfl | exact dD0 hD rfl | omega) hA S6 0 [.go []] (List.range 75) [] (.ref a) ((LD w (cmT mm) (t37 kn) sc so N (lfr w [("k", kk, .int 1 kt), ("more", km, .int m tm), ("mode", ko, .int o to), ("start", ks, .int s ts), ("told", kl, .str x tx)]) c1 (some (.int f tf)) (some (.int q tq)) (some (.int (n : Nat) tn)) (some (.int ((s0 : Nat) : Int) ts0)) rg it) ++ ((EX kn ku mm mu) ++ [(a, seqObj "list" out c2)])) h4.objs.size tk4 (fun b => by cases b <;> kernel_rfl) (by decide) .nil fun h5 S7 => ?_
    refine st8r (D := D) (by first | exact dD hD rfl | exact dD0 hD rfl | omega) hA (Sg.start S7.lg.left rfl) hn h64 fun h6 tk6 Z6 b xs e6 hM T => ?_
    have S8 := S7.frame T
    have hla : h6.get? a = some (seqObj "list" out c2) := S8.lg.at_ _ (List.mem_append_right _ (List.mem_append_right _ (.head _)))
    have hlb : h6.get? b = some (seqObj "list" xs e6) := S8.lg.at_ _ (List.mem_append_left _ (List.mem_append_right _ (.head _)))
    refine ne_intsK (vs := out.toList) (us := xs.toList) (isList_of hla) (ints_of ho1 ho2) (isList_of hlb) (ints_of hM.1 hM.2) (units_ok hA (by omega)) ?_
    rw [hp, decide_eq_true rfl]
    refine wpAny_pure ?_
    refine wpAny_execs_nil ?_
    exact hQ h6 _ _ (S8.sub (by simp))
theorem st8a {D : Nat} {w : World} {h0 h : Heap} {L0 : List (Addr × Obj)} {g : Array GenState} {d : Drawn} {tk : Nat} {os : OsState} {Z N : Nat} {A : Around} {Q : Flow → Shared → Prop} {E : Value → Shared → Prop} {rg it so : Obj} {sc : Addr} {c1 : Option Value} {kk kt : Tok} {m o s : Int} {tm to ts km ko ks kl tx : Tok} {x : Str}  {f q : Int} {n s0 : Nat} {tf tq tn ts0 : Tok} {p0 : Array Nat}
    (hD : D ≤ 500) (hA : Bd D A) (S : Sg L0 h0 (LD w (tabO []) (tabO []) sc so N (lfr w [("k", kk, .int 0 kt), ("more", km, .int m tm), ("mode", ko, .int o to), ("start", ks, .int s ts), ("told", kl, .str x tx)]) c1 (some (.int f tf)) (some (.int q tq)) (some (.int (n : Nat) tn)) (some (.int ((s0 : Nat) : Int) ts0)) rg it) Z h) (hn : 2 ≤ n) (h64 : n < 64) (hx : x.length = n)
    (hok : ∀ i, i < n → okS (x ++ x) n i = true) (hrun : askRun n (fun i j => lessR (x ++ x) n i j) (kas_sort n) = some p0) (hlt : ∀ j, j < n → p0.getD j 0 < n)
    (hp : (List.range n).map (fun j => ((p0.getD j 0 : Nat) : Int)) = (List.range n).map (fun j => (((j : Nat) : Int) * ((s0 : Nat) : Int)).fmod n))
    (hQ : ∀ h' tk' Z', Sg L0 h0 ((LD w (cmT (Z + 1)) (t37 (Z + 12)) sc so N (lfr w [("k", kk, .int 0 kt), ("more", km, .int m tm), ("mode", ko, .int o to), ("start", ks, .int s ts), ("told", kl, .str x tx)]) c1 (some (.int f tf)) (some (.int q tq)) (some (.int (n : Nat) tn)) (some (.int ((s0 : Nat) : Int) ts0)) rg it) ++ (EX (Z + 12) (tk + 18) (Z + 1) (tk + 2))) Z' h' → Q .next ⟨h', g, d, tk', os⟩) :
    wpAny (model PG w) A (exec (stmtN 8) (lawEnv N)) Q E ⟨h, g, d, tk, os⟩ := @(st8_m (w := w)).1 D h0 h L0 g d tk os Z N A Q E rg it so sc c1 kk kt m o s tm to ts km ko ks kl tx x f q n s0 tf tq tn ts0 p0 hD hA S hn h64 hx hok hrun hlt hp hQ
theorem st8b {D : Nat} {w : World} {h0 h : Heap} {L0 : List (Addr × Obj)} {g : Array GenState} {d : Drawn} {tk : Nat} {os : OsState} {Z N : Nat} {A : Around} {Q : Flow → Shared → Prop} {E : Value → Shared → Prop} {rg it so : Obj} {sc : Addr} {c1 : Option Value} {kk kt : Tok} {m o s : Int} {tm to ts km ko ks kl tx : Tok} {x : Str} {kn ku mm mu : Nat} {f q : Int} {n s0 : Nat} {tf tq tn ts0 : Tok} {p0 : Array Nat}
    (hD : D ≤ 500) (hA : Bd D A) (S : Sg L0 h0 ((LD w (cmT mm) (t37 kn) sc so N (lfr w [("k", kk, .int 1 kt), ("more", km, .int m tm), ("mode", ko, .int o to), ("start", ks, .int s ts), ("told", kl, .str x tx)]) c1 (some (.int f tf)) (some (.int q tq)) (some (.int (n : Nat) tn)) (some (.int ((s0 : Nat) : Int) ts0)) rg it) ++ EX kn ku mm mu) Z h) (hn : 2 ≤ n) (h64 : n < 64) (hx : x.length = n)
    (hok : ∀ i, i < n → okS (x ++ x) n i = true) (hrun : askRun n (fun i j => lessR (x ++ x) n i j) (kas_sort n) = some p0) (hlt : ∀ j, j < n → p0.getD j 0 < n)
    (hp : (List.range n).map (fun j => ((p0.getD j 0 : Nat) : Int)) = (List.range n).map (fun j => (((j : Nat) : Int) * ((s0 : Nat) : Int)).fmod n))
    (hQ : ∀ h' tk' Z', Sg L0 h0 ((LD w (cmT mm) (t37 kn) sc so N (lfr w [("k", kk, .int 1 kt), ("more", km, .int m tm), ("mode", ko, .int o to), ("start", ks, .int s ts), ("told", kl, .str x tx)]) c1 (some (.int f tf)) (some (.int q tq)) (some (.int (n : Nat) tn)) (some (.int ((s0 : Nat) : Int) ts0)) rg it) ++ (EX kn ku mm mu)) Z' h' → Q .next ⟨h', g, d, tk', os⟩) :
    wpAny (model PG w) A (exec (stmtN 8) (lawEnv N)) Q E ⟨h, g, d, tk, os⟩ := @(st8_m (w := w)).2 D h0 h L0 g d tk os Z N A Q E rg it so sc c1 kk kt m o s tm to ts km ko ks kl tx x kn ku mm mu f q n s0 tf tq tn ts0 p0 hD hA S hn h64 hx hok hrun hlt hp hQ
end Mine
end
section
namespace Mine
noncomputable def rotL (l : List Nat) (n i : Nat) : List Nat := ((l ++ l).drop i).take n
theorem rot_eq {l : List Nat} {n i : Nat} (hl : l.length = n) (hi : i < n) : (rot ⟨(l ++ l).toArray⟩ n i).cps.toList = rotL l n i := by
  have hz : (⟨(l ++ l).toArray⟩ : Str).length = n + n := by
    show (l ++ l).toArray.size = _
    simp [hl]
  have e := StrLaws.sliced_plain (⟨(l ++ l).toArray⟩ : Str) (a := i) (b := i + n) (by omega) (by omega)
  show ((Builtin.Str.strSliceIndices (some (i : Int)) (some ((i : Int) + (n : Int))) 1 (⟨(l ++ l).toArray⟩ : Str).length).filterMap ((l ++ l).toArray[·]?)) = _
  rw [← Int.natCast_add]
  have e2 : i + n - i = n := by omega
  rw [e2] at e
  exact e
theorem okS_of {l : List Nat} {n i : Nat} (hl : l.length = n) (hi : i < n) (h64 : n < 64) : okS ⟨(l ++ l).toArray⟩ n i = true := by
  have hz : (⟨(l ++ l).toArray⟩ : Str).length = n + n := by
    show (l ++ l).toArray.size = _
    simp [hl]
  have h1 : (slicePicked ⟨(l ++ l).toArray⟩ (some ((i : Int), 0)) (some ((i : Int) + (n : Int), 0)) none).length = n := by
    show (Builtin.Str.strSliceIndices (some (i : Int)) (some ((i : Int) + (n : Int))) 1 (⟨(l ++ l).toArray⟩ : Str).length).length = n
    rw [← Int.natCast_add, StrLaws.strSliceIndices_plain (by omega) (by omega), List.length_map, List.length_range]
    omega
  have h2 : (rot ⟨(l ++ l).toArray⟩ n i).length = n := by
    show (rot ⟨(l ++ l).toArray⟩ n i).cps.size = n
    rw [← Array.length_toList, rot_eq hl hi]
    unfold rotL
    rw [List.length_take, List.length_drop, List.length_append]
    omega
  unfold okS
  rw [h1, h2, hz, Bool.and_eq_true, Bool.not_eq_true', beq_eq_false_iff_ne]
  exact ⟨by omega, Nat.ble_eq.mpr (by omega)⟩
noncomputable def ltB : List Nat → List Nat → Bool
  | [], [] => false
  | [], _ :: _ => true
  | _ :: _, [] => false
  | a :: r, b :: t => bif Nat.blt a b then true else bif Nat.beq a b then ltB r t else false
theorem ltB_cons (a b : Nat) (r t : List Nat) : ltB (a :: r) (b :: t) = bif Nat.blt a b then true else bif Nat.beq a b then ltB r t else false := rfl
theorem ltB_eq : ∀ a b : List Nat, decide (a < b) = ltB a b
  | [], [] => StrLaws.lt_nil_nil
  | [], b :: t => StrLaws.lt_nil_cons b t
  | a :: r, [] => StrLaws.lt_cons_nil a r
  | a :: r, b :: t => by
    rw [StrLaws.lt_cons_cons, ltB_eq r t, ltB_cons]
    by_cases h : a < b
    · have : Nat.blt a b = true := by rw [Nat.blt_eq]; exact h
      simp [h, this]
    · have h1 : Nat.blt a b = false := by rw [Bool.eq_false_iff]; intro e; exact h (by rwa [Nat.blt_eq] at e)
      by_cases h2 : a = b
      · subst h2
        have : Nat.beq a a = true := Nat.beq_refl a
        simp [h1, this]
      · have : Nat.beq a b = false := by rw [Bool.eq_false_iff]; intro e; exact h2 (Nat.eq_of_beq_eq_true e)
        simp [h, h1, h2, this]
theorem ltB_irrefl : ∀ a : List Nat, ltB a a = false
  | [] => rfl
  | a :: r => by
    rw [ltB_cons]
    have h1 : Nat.blt a a = false := by rw [Bool.eq_false_iff]; intro e; rw [Nat.blt_eq] at e; omega
    have h2 : Nat.beq a a = true := Nat.beq_refl a
    simp [h1, h2, ltB_irrefl r]
theorem lessR_eq {l : List Nat} {n i j : Nat} (hl : l.length = n) (hi : i < n) (hj : j < n) : lessR ⟨(l ++ l).toArray⟩ n i j = ltB (rotL l n i) (rotL l n j) := by
  unfold lessR
  rw [rot_eq hl hi, rot_eq hl hj, ltB_eq]
  by_cases h : rotL l n i = rotL l n j
  · rw [h, ltB_irrefl]; simp
  · have : (rotL l n i == rotL l n j) = false := by rw [beq_eq_false_iff_ne]; exact h
    rw [this]; simp
theorem askRun_congr {α : Type} {n : Nat} {f g : Nat → Nat → Bool} (h : ∀ i j, i < n → j < n → f i j = g i j) : ∀ t : KasT α, askRun n f t = askRun n g t
  | .ret a => rfl
  | .ask i j k => by
    unfold askRun
    by_cases hi : i < n
    · by_cases hj : j < n
      · rw [h i j hi hj, askRun_congr h (k (g i j))]
      · simp [hj]
    · simp [hi]
end Mine
end
section
namespace Mine
set_option maxHeartbeats 8000000
open Builtin Builtin.Str StrLaws
noncomputable def pre : List Nat → List Nat → Bool
  | [], _ => true
  | _ :: _, [] => false
  | a :: y, b :: l => bif Nat.beq a b then pre y l else false
/-- a text with every y put as z, read from the left; of a met y k signs are still to be passed -/
noncomputable def rp (y z : List Nat) : List Nat → Nat → List Nat
  | [], _ => []
  | c :: cs, 0 => bif pre y (c :: cs) then z ++ rp y z cs (y.length - 1) else c :: rp y z cs 0
  | _ :: cs, k + 1 => rp y z cs k
noncomputable def occL (y : List Nat) : List Nat → Nat → Nat → List Nat
  | [], _, _ => []
  | c :: cs, 0, i => bif pre y (c :: cs) then i :: occL y cs (y.length - 1) (i + 1) else occL y cs 0 (i + 1)
  | _ :: cs, k + 1, i => occL y cs k (i + 1)
theorem pre_eq : ∀ y l : List Nat, pre y l = (l.take y.length == y)
  | [], l => by simp [pre]
  | a :: y, [] => by simp [pre]
  | a :: y, b :: l => by
    unfold pre
    rw [pre_eq y l, List.length_cons, List.take_succ_cons]
    by_cases h : a = b
    · subst h
      rw [Nat.beq_refl]
      simp
    · have : Nat.beq a b = false := by rw [Bool.eq_false_iff]; intro e; exact h (Nat.eq_of_beq_eq_true e)
      rw [this]
      have : (b == a) = false := by rw [beq_eq_false_iff_ne]; exact fun e => h e.symm
      simp [this]
theorem pre_len {y l : List Nat} (h : pre y l = true) : y.length ≤ l.length := by
  rw [pre_eq, beq_iff_eq] at h
  have := congrArg List.length h
  rw [List.length_take] at this
  omega
theorem subAt_pre (x y : Str) (i : Nat) : subAt x y i = pre y.cps.toList (x.cps.toList.drop i) := by
  rw [subAt_eq, pre_eq]
  rfl
theorem cps_len (x : Str) : x.cps.toList.length = x.length := by show _ = x.cps.size; simp
theorem occ_run (x y : Str) (hy : 1 ≤ y.length) : ∀ (rest : List Nat) (i free : Nat) (found : Array Nat), x.cps.toList.drop i = rest → i + rest.length = x.length → found.size + rest.length ≤ x.length →
    (forIn (List.range' i (rest.length + 1)) (found, free) (occBody x y x.length (x.length + 1))).run.fst.toList = found.toList ++ occL y.cps.toList rest (free - i) i
  | [], i, free, found, hd, hl, hf => by
    have : ¬ (((found.size < x.length + 1 ∧ free ≤ i) ∧ i + y.length ≤ x.length) ∧ subAt x y i = true) := fun h => by
      have := h.1.2
      simp at hl
      omega
    simp [occBody, this, occL]
  | c :: cs, i, free, found, hd, hl, hf => by
    have hl' : i + cs.length + 1 = x.length := by rw [List.length_cons] at hl; omega
    have hd' : x.cps.toList.drop (i + 1) = cs := by
      have : (x.cps.toList.drop i).drop 1 = cs := by rw [hd]; rfl
      rw [List.drop_drop] at this
      exact this
    have hs : found.size < x.length + 1 := by omega
    rw [List.length_cons, List.range'_succ, List.forIn_cons]
    unfold occBody
    rw [subAt_pre, hd]
    by_cases hfi : free ≤ i
    · rw [Nat.sub_eq_zero_of_le hfi]
      unfold occL
      cases hp : pre y.cps.toList (c :: cs) with
      | true =>
        have h1 := pre_len hp
        rw [List.length_cons, cps_len] at h1
        rw [if_pos ⟨⟨⟨hs, hfi⟩, by omega⟩, rfl⟩]
        have ih := occ_run x y hy cs (i + 1) (i + y.length) (found.push i) hd' (by omega) (by rw [Array.size_push]; rw [List.length_cons] at hf; omega)
        refine Eq.trans ih ?_
        rw [show i + y.length - (i + 1) = y.cps.toList.length - 1 by rw [cps_len]; omega]
        simp
      | false =>
        rw [if_neg (fun h => by cases h.2)]
        have ih := occ_run x y hy cs (i + 1) free found hd' (by omega) (by rw [List.length_cons] at hf; omega)
        refine Eq.trans ih ?_
        rw [Nat.sub_eq_zero_of_le (by omega : free ≤ i + 1)]
        rfl
    · rw [if_neg (fun h => hfi h.1.1.2)]
      have ih := occ_run x y hy cs (i + 1) free found hd' (by omega) (by rw [List.length_cons] at hf; omega)
      refine Eq.trans ih ?_
      obtain ⟨k, hk⟩ : ∃ k, free - i = k + 1 := ⟨free - i - 1, by omega⟩
      rw [hk, show free - (i + 1) = k by omega]
      rfl
theorem occ_list (x y : Str) (hy : 1 ≤ y.length) : occ x y = occL y.cps.toList x.cps.toList 0 0 := by
  unfold occ
  rw [occ_eq]
  have h := occ_run x y hy x.cps.toList 0 0 #[] rfl (by rw [cps_len]; omega) (by rw [cps_len]; simp)
  rw [cps_len] at h
  rw [Nat.sub_zero]
  rw [h]
  simp
noncomputable def cut (l : List Nat) (a b : Nat) : List Nat := (l.drop a).take (b - a)
noncomputable def gl (l z : List Nat) (w : Nat) : Nat → List Nat → List Nat
  | a, [] => cut l a l.length
  | a, c :: cs => cut l a c ++ (z ++ gl l z w (c + w) cs)
theorem sub_list (x : Str) (a b : Nat) : (strSub x a b).cps.toList = cut x.cps.toList a b := by
  show (x.cps.extract a b).toList = _
  rw [Array.toList_extract]
  rfl
theorem fold_list (z : Str) : ∀ (ps : List Str) (acc : Array Nat), (ps.foldl (fun acc p => acc ++ z.cps ++ p.cps) acc).toList = acc.toList ++ ps.flatMap fun p => z.cps.toList ++ p.cps.toList
  | [], acc => by simp
  | p :: ps, acc => by
    rw [List.foldl_cons, fold_list z ps]
    simp
theorem glued_cons (z p : Str) (ps : List Str) : (glued z (p :: ps)).cps.toList = p.cps.toList ++ ps.flatMap fun p => z.cps.toList ++ p.cps.toList := fold_list z ps p.cps
theorem glued_flat (z q : Str) (qs : List Str) : ((q :: qs).flatMap fun p => z.cps.toList ++ p.cps.toList) = z.cps.toList ++ (glued z (q :: qs)).cps.toList := by
  rw [glued_cons, List.flatMap_cons, List.append_assoc]
theorem parts_list (x z : Str) (w : Nat) : ∀ (cuts : List Nat) (a : Nat), (glued z (((a :: cuts.map (· + w)).zip (cuts ++ [x.length])).map fun (i, j) => strSub x i j)).cps.toList = gl x.cps.toList z.cps.toList w a cuts
  | [], a => by
    show (glued z [strSub x a x.length]).cps.toList = cut x.cps.toList a x.cps.toList.length
    rw [glued_cons, sub_list, cps_len]
    simp
  | c :: cs, a => by
    have ih := parts_list x z w cs (c + w)
    show (glued z (strSub x a c :: ((((c + w) :: cs.map (· + w)).zip (cs ++ [x.length])).map fun (i, j) => strSub x i j))).cps.toList = cut x.cps.toList a c ++ (z.cps.toList ++ gl x.cps.toList z.cps.toList w (c + w) cs)
    rw [← ih, glued_cons, sub_list]
    cases cs with
    | nil => exact congrArg _ (glued_flat z _ _)
    | cons c2 cs2 => exact congrArg _ (glued_flat z _ _)
theorem cut_nil {l : List Nat} {a b : Nat} (h : b ≤ a) : cut l a b = [] := by
  unfold cut
  rw [Nat.sub_eq_zero_of_le h]; rfl
theorem cut_snoc {l : List Nat} {a i c : Nat} (h : a ≤ i) (hc : l[i]? = some c) : cut l a (i + 1) = cut l a i ++ [c] := by
  unfold cut
  rw [show i + 1 - a = (i - a) + 1 by omega, List.take_add_one, List.getElem?_drop, show a + (i - a) = i by omega, hc]
  rfl
theorem gl_rp (l y z : List Nat) (hy : 1 ≤ y.length) : ∀ (rest : List Nat) (i a k : Nat), l.drop i = rest → i + rest.length = l.length → (k = 0 ∧ a ≤ i) ∨ (a = i + k ∧ a ≤ l.length) →
    gl l z y.length a (occL y rest k i) = cut l a i ++ rp y z rest k
  | [], i, a, k, hd, hl, hk => by
    have : i = l.length := by simpa using hl
    subst this
    simp [occL, gl, rp]
  | c :: cs, i, a, k, hd, hl, hk => by
    have hl' : i + cs.length + 1 = l.length := by rw [List.length_cons] at hl; omega
    have hd' : l.drop (i + 1) = cs := by
      have : (l.drop i).drop 1 = cs := by rw [hd]; rfl
      rw [List.drop_drop] at this
      exact this
    have hc : l[i]? = some c := by
      have e : (l.drop i)[0]? = l[i]? := by rw [List.getElem?_drop]; rfl
      rw [← e, hd]; rfl
    cases k with
    | zero =>
      have ha : a ≤ i := by omega
      unfold occL rp
      cases hp : pre y (c :: cs) with
      | true =>
        have h1 := pre_len hp
        rw [List.length_cons] at h1
        show gl l z y.length a (i :: occL y cs (y.length - 1) (i + 1)) = cut l a i ++ (z ++ rp y z cs (y.length - 1))
        unfold gl
        rw [gl_rp l y z hy cs (i + 1) (i + y.length) (y.length - 1) hd' (by omega) (.inr ⟨by omega, by omega⟩), cut_nil (l := l) (a := i + y.length) (b := i + 1) (by omega)]
        rfl
      | false =>
        show gl l z y.length a (occL y cs 0 (i + 1)) = cut l a i ++ (c :: rp y z cs 0)
        rw [gl_rp l y z hy cs (i + 1) a 0 hd' (by omega) (.inl ⟨rfl, by omega⟩), cut_snoc ha hc]
        simp
    | succ k =>
      have hk' : a = i + (k + 1) ∧ a ≤ l.length := by
        rcases hk with h | h
        · exact absurd h.1 (by omega)
        · exact h
      show gl l z y.length a (occL y cs k (i + 1)) = cut l a i ++ rp y z cs k
      rw [gl_rp l y z hy cs (i + 1) a k hd' (by omega) (.inr ⟨by omega, hk'.2⟩), cut_nil (l := l) (a := a) (b := i + 1) (by omega), cut_nil (l := l) (a := a) (b := i) (by omega)]
theorem str_same : ∀ {x : Str} {l : List Nat}, x.cps.toList = l → x = ⟨l.toArray⟩
  | ⟨⟨a⟩⟩, l, h => by
    have : a = l := h
    rw [this]
theorem repl_list (x y z : Str) (hy : 1 ≤ y.length) : (repl x y z).cps.toList = rp y.cps.toList z.cps.toList x.cps.toList 0 := by
  unfold repl partsBetween
  rw [occ_list x y hy]
  have h := parts_list x z y.length (occL y.cps.toList x.cps.toList 0 0) 0
  refine Eq.trans h ?_
  rw [← cps_len y, gl_rp x.cps.toList y.cps.toList z.cps.toList (by rw [cps_len]; exact hy) x.cps.toList 0 0 0 rfl (by simp) (.inl ⟨rfl, Nat.le_refl _⟩)]
  rfl
noncomputable def hasL (y : List Nat) : List Nat → Bool
  | [] => false
  | c :: cs => bif pre y (c :: cs) then true else hasL y cs
theorem hasL_iff (y : List Nat) (hy : 1 ≤ y.length) : ∀ l : List Nat, hasL y l = true ↔ ∃ i, pre y (l.drop i) = true
  | [] => by
    constructor
    · intro h; cases h
    · rintro ⟨i, h⟩
      have := pre_len h
      rw [List.drop_nil, List.length_nil] at this
      omega
  | c :: cs => by
    unfold hasL
    cases hp : pre y (c :: cs) with
    | true => exact ⟨fun _ => ⟨0, hp⟩, fun _ => rfl⟩
    | false =>
      refine Iff.trans (hasL_iff y hy cs) ⟨fun ⟨i, h⟩ => ⟨i + 1, h⟩, fun ⟨i, h⟩ => ?_⟩
      cases i with
      | zero => rw [List.drop_zero, hp] at h; cases h
      | succ i => exact ⟨i, h⟩
theorem has_list (x y : Str) (hy : 1 ≤ y.length) : has x y = hasL y.cps.toList x.cps.toList := by
  unfold has
  rw [Bool.eq_iff_iff, found_iff, hasL_iff _ (by rw [cps_len]; exact hy)]
  constructor
  · rintro ⟨i, _, h⟩
    exact ⟨i, by rw [← subAt_pre]; exact h⟩
  · rintro ⟨i, h⟩
    refine ⟨i, ?_, by rw [subAt_pre]; exact h⟩
    have := pre_len h
    rw [List.length_drop, cps_len, cps_len] at this
    omega
/-- the texts of the two ways, as lists -/
noncomputable def okRL (y z l : List Nat) : Bool := !(occL y l 0 0).isEmpty && (!(y == z) && (!tooLong (l.length + (occL y l 0 0).length * z.length) && Nat.ble (rp y z l 0).length 100000))
theorem okR_list {x y z : Str} (hy : 1 ≤ y.length) (h : okRL y.cps.toList z.cps.toList x.cps.toList = true) : okR x y z = true := by
  unfold okRL at h
  simp only [Bool.and_eq_true, Bool.not_eq_true'] at h
  obtain ⟨h1, h2, h3, h4⟩ := h
  unfold okR
  rw [occ_list x y hy, h1]
  rw [cps_len, cps_len] at h3
  rw [h3]
  have hl : (repl x y z).length = (rp y.cps.toList z.cps.toList x.cps.toList 0).length := by rw [← cps_len, repl_list x y z hy]
  rw [hl, h4]
  have e0 : (y.length == 0) = false := by rw [beq_eq_false_iff_ne]; omega
  have e1 : (y == z) = false := by
    rw [beq_eq_false_iff_ne] at h2 ⊢
    exact fun e => h2 (by rw [e])
  rw [e0, e1]
  rfl
theorem has_of (l ly : List Nat) (y : Str) (e : y = ⟨ly.toArray⟩) (hy : 1 ≤ ly.length) : has ⟨l.toArray⟩ y = hasL ly l := by
  subst e
  exact has_list _ _ hy
theorem repl_of (l ly lz : List Nat) (y z : Str) (e : y = ⟨ly.toArray⟩) (e2 : z = ⟨lz.toArray⟩) (hy : 1 ≤ ly.length) : repl ⟨l.toArray⟩ y z = ⟨(rp ly lz l 0).toArray⟩ := by
  subst e e2
  exact str_same (repl_list _ _ _ hy)
theorem okR_of (l ly lz : List Nat) (y z : Str) (e : y = ⟨ly.toArray⟩) (e2 : z = ⟨lz.toArray⟩) (hy : 1 ≤ ly.length) (h : okRL ly lz l = true) : okR ⟨l.toArray⟩ y z = true := by
  subst e e2
  exact okR_list hy h
noncomputable def cA : List Nat := [38]
noncomputable def cLt : List Nat := [60]
noncomputable def cGt : List Nat := [62]
noncomputable def cDot : List Nat := [46]
noncomputable def cQ : List Nat := [34]
noncomputable def cAmp : List Nat := [38, 97, 109, 112, 59]
noncomputable def cAm : List Nat := [97, 109, 112, 59]
noncomputable def cLtR : List Nat := [38, 108, 116, 59]
noncomputable def cAL : List Nat := [38, 60]
theorem eA : sA = ⟨cA.toArray⟩ := by kernel_rfl
theorem eLt : sLt = ⟨cLt.toArray⟩ := by kernel_rfl
theorem eGt : sGt = ⟨cGt.toArray⟩ := by kernel_rfl
theorem eDot : sDot = ⟨cDot.toArray⟩ := by kernel_rfl
theorem eQ : sQ = ⟨cQ.toArray⟩ := by kernel_rfl
theorem eAmp : sAmp = ⟨cAmp.toArray⟩ := by kernel_rfl
theorem eAm : sAm = ⟨cAm.toArray⟩ := by kernel_rfl
theorem eLtR : sLtR = ⟨cLtR.toArray⟩ := by kernel_rfl
theorem eAL : sAL = ⟨cAL.toArray⟩ := by kernel_rfl
/-- one text led by one flag, the texts written out -/
noncomputable def leT (x y : List Nat) : Bool := (fun g => hasL cA x && (okRL cA cAmp x && (!hasL cGt g && (!hasL cQ g && (okRL cAm cLt g && (rp cAm cLt g 0 == y)))))) (rp cA cAmp x 0)
noncomputable def leF (x y : List Nat) : Bool := (fun x1 => (fun x2 => (fun x3 => (fun x4 => (fun x5 => (fun x6 => okRL cA cDot x && (okRL cLt cA x1 && (okRL cDot cLt x2 && (hasL cA x3 && (okRL cA cAmp x3 && (hasL cLt x4 && (okRL cLt cLtR x4 && (!hasL cGt x5 && (okRL cLtR cA x5 && (okRL cAmp cAL x6 && (rp cAmp cAL x6 0 == y))))))))))) (rp cLtR cA x5 0)) (rp cLt cLtR x4 0)) (rp cA cAmp x3 0)) (rp cDot cLt x2 0)) (rp cLt cA x1 0)) (rp cA cDot x 0)
theorem leT_of {x y : List Nat} (h : leT x y = true) : okL true ⟨x.toArray⟩ = true ∧ led true ⟨x.toArray⟩ = ⟨y.toArray⟩ := by
  unfold leT at h
  simp only [Bool.and_eq_true, Bool.not_eq_true'] at h
  obtain ⟨h1, h2, h3, h4, h5, h6⟩ := h
  have h6 := eq_of_beq h6
  have e1 : g1 ⟨x.toArray⟩ = ⟨(rp cA cAmp x 0).toArray⟩ := repl_of _ _ _ _ _ eA eAmp (by decide)
  refine ⟨?_, ?_⟩
  · show okG _ = true
    unfold okG
    rw [e1, has_of _ _ _ eA (by decide), has_of _ _ _ eGt (by decide), has_of _ _ _ eQ (by decide), okR_of _ _ _ _ _ eA eAmp (by decide) h2, okR_of _ _ _ _ _ eAm eLt (by decide) h5, h1, h3, h4]
    rfl
  · show g2 _ = _
    unfold g2
    rw [e1, repl_of _ _ _ _ _ eAm eLt (by decide), h6]
theorem leF_of {x y : List Nat} (h : leF x y = true) : okL false ⟨x.toArray⟩ = true ∧ led false ⟨x.toArray⟩ = ⟨y.toArray⟩ := by
  unfold leF at h
  dsimp only at h
  have e1 : b1 ⟨x.toArray⟩ = ⟨(rp cA cDot x 0).toArray⟩ := by unfold b1; rw [repl_of _ _ _ _ _ eA eDot (by decide)]
  generalize rp cA cDot x 0 = x1 at h e1
  have e2 : b2 ⟨x.toArray⟩ = ⟨(rp cLt cA x1 0).toArray⟩ := by unfold b2; rw [e1, repl_of _ _ _ _ _ eLt eA (by decide)]
  generalize rp cLt cA x1 0 = x2 at h e2
  have e3 : b3 ⟨x.toArray⟩ = ⟨(rp cDot cLt x2 0).toArray⟩ := by unfold b3; rw [e2, repl_of _ _ _ _ _ eDot eLt (by decide)]
  generalize rp cDot cLt x2 0 = x3 at h e3
  have e4 : b4 ⟨x.toArray⟩ = ⟨(rp cA cAmp x3 0).toArray⟩ := by unfold b4; rw [e3, repl_of _ _ _ _ _ eA eAmp (by decide)]
  generalize rp cA cAmp x3 0 = x4 at h e4
  have e5 : b5 ⟨x.toArray⟩ = ⟨(rp cLt cLtR x4 0).toArray⟩ := by unfold b5; rw [e4, repl_of _ _ _ _ _ eLt eLtR (by decide)]
  generalize rp cLt cLtR x4 0 = x5 at h e5
  have e6 : b6 ⟨x.toArray⟩ = ⟨(rp cLtR cA x5 0).toArray⟩ := by unfold b6; rw [e5, repl_of _ _ _ _ _ eLtR eA (by decide)]
  generalize rp cLtR cA x5 0 = x6 at h e6
  simp only [Bool.and_eq_true, Bool.not_eq_true'] at h
  obtain ⟨k1, k2, k3, k4, k5, k6, k7, k8, k9, k10, q7⟩ := h
  have e7 : b7 ⟨x.toArray⟩ = ⟨y.toArray⟩ := by unfold b7; rw [e6, repl_of _ _ _ _ _ eAmp eAL (by decide), eq_of_beq q7]
  refine ⟨?_, e7⟩
  show okB _ = true
  unfold okB
  rw [e1, e2, e3, e4, e5, e6, okR_of _ _ _ _ _ eA eDot (by decide) k1, okR_of _ _ _ _ _ eLt eA (by decide) k2, okR_of _ _ _ _ _ eDot eLt (by decide) k3, has_of _ _ _ eA (by decide), k4,
    okR_of _ _ _ _ _ eA eAmp (by decide) k5, has_of _ _ _ eLt (by decide), k6, okR_of _ _ _ _ _ eLt eLtR (by decide) k7, has_of _ _ _ eGt (by decide), k8, okR_of _ _ _ _ _ eLtR eA (by decide) k9, okR_of _ _ _ _ _ eAmp eAL (by decide) k10]
  rfl
end Mine
end
section
namespace Mine
set_option maxHeartbeats 8000000
structure Fit (qs : List Bool) (n s0 : Nat) (p0 : Array Nat) : Prop where
  okf : okF qs sAL = true
  sum : (nums qs).1 + (nums qs).2 = (n : Int)
  two : 2 ≤ n
  lim : n < 64
  jok : joinOk (wordL (nums qs).1 (nums qs).2 n n) = true
  glu : folded qs sAL = Builtin.Str.glued sE (wordL (nums qs).1 (nums qs).2 n n)
  len : (folded qs sAL).length = n
  hs0 : ((List.range n).filter (fun j => (((j : Nat) : Int) * (nums qs).2).fmod n == 1)).head? = some s0
  oks : ∀ i : Nat, i < n → okS (folded qs sAL ++ folded qs sAL) n i = true
  run : askRun n (fun i j => lessR (folded qs sAL ++ folded qs sAL) n i j) (kas_sort n) = some p0
  lt : ∀ j, j < n → p0.getD j 0 < n
  hp : (List.range n).map (fun j => ((p0.getD j 0 : Nat) : Int)) = (List.range n).map (fun j => (((j : Nat) : Int) * ((s0 : Nat) : Int)).fmod n)
theorem str_ext : ∀ {x y : Str}, (x.cps.toList == y.cps.toList) = true → x = y
  | ⟨⟨a⟩⟩, ⟨⟨b⟩⟩, h => by
    have : a = b := eq_of_beq h
    rw [this]
noncomputable def chkL (qs : List Bool) (x : List Nat) (n s0 : Nat) (p0 : List Nat) : Bool :=
  decide ((nums qs).1 + (nums qs).2 = (n : Int)) && (Nat.ble 2 n && (Nat.ble (n + 1) 64 && (joinOk (wordL (nums qs).1 (nums qs).2 n n) &&
  (x == (Builtin.Str.glued sE (wordL (nums qs).1 (nums qs).2 n n)).cps.toList && (Nat.beq x.length n &&
  ((((List.range n).filter (fun j => (((j : Nat) : Int) * (nums qs).2).fmod n == 1)).head? == some s0) &&
  ((List.range n).all (fun j => Nat.ble (p0.toArray.getD j 0 + 1) n) &&
  ((List.range n).map (fun j => ((p0.toArray.getD j 0 : Nat) : Int)) == (List.range n).map (fun j => (((j : Nat) : Int) * ((s0 : Nat) : Int)).fmod n)))))))))
inductive Chain : List Bool → List Nat → List Nat → Prop
  | nil {x : List Nat} : Chain [] x x
  | t {bs : List Bool} {x y z : List Nat} (h : leT x y = true) (t : Chain bs y z) : Chain (true :: bs) x z
  | f {bs : List Bool} {x y z : List Nat} (h : leF x y = true) (t : Chain bs y z) : Chain (false :: bs) x z
theorem chain_of {bs : List Bool} {x z : List Nat} (c : Chain bs x z) : okF bs ⟨x.toArray⟩ = true ∧ folded bs ⟨x.toArray⟩ = ⟨z.toArray⟩ := by
  induction c with
  | nil => exact ⟨rfl, rfl⟩
  | @t bs x y z h t ih =>
    obtain ⟨h1, e⟩ := leT_of h
    refine ⟨?_, ?_⟩
    · show (okL true ⟨x.toArray⟩ && okF bs (led true ⟨x.toArray⟩)) = true
      rw [e, h1, ih.1]; rfl
    · show folded bs (led true ⟨x.toArray⟩) = _
      rw [e]; exact ih.2
  | @f bs x y z h t ih =>
    obtain ⟨h1, e⟩ := leF_of h
    refine ⟨?_, ?_⟩
    · show (okL false ⟨x.toArray⟩ && okF bs (led false ⟨x.toArray⟩)) = true
      rw [e, h1, ih.1]; rfl
    · show folded bs (led false ⟨x.toArray⟩) = _
      rw [e]; exact ih.2
theorem sAL_eq : sAL = ⟨([38, 60] : List Nat).toArray⟩ := by kernel_rfl
noncomputable def chkR (x : List Nat) (n : Nat) (p0 : List Nat) : Bool := (match askRun n (fun i j => ltB (rotL x n i) (rotL x n j)) (kas_sort n) with | some a => a.toList == p0 | none => false)
theorem fit_of {qs : List Bool} {x p0 : List Nat} {n s0 : Nat} (h0 : Chain qs [38, 60] x) (h1 : chkL qs x n s0 p0 = true) (h2 : chkR x n p0 = true) : ∃ n s0 p0, Fit qs n s0 p0 := by
  unfold chkL at h1
  simp only [Bool.and_eq_true] at h1
  obtain ⟨a3, a4, a5, a6, a7, a8, a9, a10, a11⟩ := h1
  have hl : x.length = n := Nat.eq_of_beq_eq_true a8
  have hlim : n < 64 := Nat.ble_eq.mp a5
  obtain ⟨a2, hf⟩ := chain_of h0
  rw [← sAL_eq] at a2 hf
  have hff : folded qs sAL ++ folded qs sAL = ⟨(x ++ x).toArray⟩ := by
    rw [hf]
    show (⟨x.toArray ++ x.toArray⟩ : Str) = _
    rw [List.append_toArray]
  refine ⟨n, s0, p0.toArray, a2, of_decide_eq_true a3, Nat.ble_eq.mp a4, hlim, a6, ?_, ?_, eq_of_beq a9, ?_, ?_, ?_, eq_of_beq a11⟩
  · rw [hf]; exact str_ext a7
  · rw [hf]; exact hl
  · intro i hi; rw [hff]; exact okS_of hl hi hlim
  · rw [hff, askRun_congr (g := fun i j => ltB (rotL x n i) (rotL x n j)) fun i j hi hj => lessR_eq hl hi hj]
    unfold chkR at h2
    split at h2
    · rename_i a e
      have : a.toList = p0 := eq_of_beq h2
      rw [e, ← this]
    · cases h2
  · intro j hj; exact Nat.ble_eq.mp (List.all_eq_true.mp a10 j (List.mem_range.mpr hj))
theorem ndf : leF [38, 60] [38, 38, 60] = true := by kernel_rfl
theorem ndt : leT [38, 60] [38, 60, 60] = true := by kernel_rfl
theorem ndff : leF [38, 38, 60] [38, 38, 38, 60] = true := by kernel_rfl
theorem ndft : leT [38, 38, 60] [38, 60, 38, 60, 60] = true := by kernel_rfl
theorem ndtf : leF [38, 60, 60] [38, 38, 60, 38, 60] = true := by kernel_rfl
theorem ndtt : leT [38, 60, 60] [38, 60, 60, 60] = true := by kernel_rfl
theorem ndfff : leF [38, 38, 38, 60] [38, 38, 38, 38, 60] = true := by kernel_rfl
theorem ndfft : leT [38, 38, 38, 60] [38, 60, 38, 60, 38, 60, 60] = true := by kernel_rfl
theorem ndftf : leF [38, 60, 38, 60, 60] [38, 38, 60, 38, 38, 60, 38, 60] = true := by kernel_rfl
theorem ndftt : leT [38, 60, 38, 60, 60] [38, 60, 60, 38, 60, 60, 60] = true := by kernel_rfl
theorem ndtff : leF [38, 38, 60, 38, 60] [38, 38, 38, 60, 38, 38, 60] = true := by kernel_rfl
theorem ndtft : leT [38, 38, 60, 38, 60] [38, 60, 38, 60, 60, 38, 60, 60] = true := by kernel_rfl
theorem ndttf : leF [38, 60, 60, 60] [38, 38, 60, 38, 60, 38, 60] = true := by kernel_rfl
theorem ndttt : leT [38, 60, 60, 60] [38, 60, 60, 60, 60] = true := by kernel_rfl
theorem ndffff : leF [38, 38, 38, 38, 60] [38, 38, 38, 38, 38, 60] = true := by kernel_rfl
theorem ndffft : leT [38, 38, 38, 38, 60] [38, 60, 38, 60, 38, 60, 38, 60, 60] = true := by kernel_rfl
theorem ndfftf : leF [38, 60, 38, 60, 38, 60, 60] [38, 38, 60, 38, 38, 60, 38, 38, 60, 38, 60] = true := by kernel_rfl
theorem ndfftt : leT [38, 60, 38, 60, 38, 60, 60] [38, 60, 60, 38, 60, 60, 38, 60, 60, 60] = true := by kernel_rfl
theorem ndftff : leF [38, 38, 60, 38, 38, 60, 38, 60] [38, 38, 38, 60, 38, 38, 38, 60, 38, 38, 60] = true := by kernel_rfl
theorem ndftft : leT [38, 38, 60, 38, 38, 60, 38, 60] [38, 60, 38, 60, 60, 38, 60, 38, 60, 60, 38, 60, 60] = true := by kernel_rfl
theorem ndfttf : leF [38, 60, 60, 38, 60, 60, 60] [38, 38, 60, 38, 60, 38, 38, 60, 38, 60, 38, 60] = true := by kernel_rfl
theorem ndfttt : leT [38, 60, 60, 38, 60, 60, 60] [38, 60, 60, 60, 38, 60, 60, 60, 60] = true := by kernel_rfl
theorem ndtfff : leF [38, 38, 38, 60, 38, 38, 60] [38, 38, 38, 38, 60, 38, 38, 38, 60] = true := by kernel_rfl
theorem ndtfft : leT [38, 38, 38, 60, 38, 38, 60] [38, 60, 38, 60, 38, 60, 60, 38, 60, 38, 60, 60] = true := by kernel_rfl
theorem ndtftf : leF [38, 60, 38, 60, 60, 38, 60, 60] [38, 38, 60, 38, 38, 60, 38, 60, 38, 38, 60, 38, 60] = true := by kernel_rfl
theorem ndtftt : leT [38, 60, 38, 60, 60, 38, 60, 60] [38, 60, 60, 38, 60, 60, 60, 38, 60, 60, 60] = true := by kernel_rfl
theorem ndttff : leF [38, 38, 60, 38, 60, 38, 60] [38, 38, 38, 60, 38, 38, 60, 38, 38, 60] = true := by kernel_rfl
theorem ndttft : leT [38, 38, 60, 38, 60, 38, 60] [38, 60, 38, 60, 60, 38, 60, 60, 38, 60, 60] = true := by kernel_rfl
theorem ndtttf : leF [38, 60, 60, 60, 60] [38, 38, 60, 38, 60, 38, 60, 38, 60] = true := by kernel_rfl
theorem ndtttt : leT [38, 60, 60, 60, 60] [38, 60, 60, 60, 60, 60] = true := by kernel_rfl
theorem ndfffff : leF [38, 38, 38, 38, 38, 60] [38, 38, 38, 38, 38, 38, 60] = true := by kernel_rfl
theorem ndfffft : leT [38, 38, 38, 38, 38, 60] [38, 60, 38, 60, 38, 60, 38, 60, 38, 60, 60] = true := by kernel_rfl
theorem ndffftf : leF [38, 60, 38, 60, 38, 60, 38, 60, 60] [38, 38, 60, 38, 38, 60, 38, 38, 60, 38, 38, 60, 38, 60] = true := by kernel_rfl
theorem ndffftt : leT [38, 60, 38, 60, 38, 60, 38, 60, 60] [38, 60, 60, 38, 60, 60, 38, 60, 60, 38, 60, 60, 60] = true := by kernel_rfl
theorem ndfftff : leF [38, 38, 60, 38, 38, 60, 38, 38, 60, 38, 60] [38, 38, 38, 60, 38, 38, 38, 60, 38, 38, 38, 60, 38, 38, 60] = true := by kernel_rfl
theorem ndfftft : leT [38, 38, 60, 38, 38, 60, 38, 38, 60, 38, 60] [38, 60, 38, 60, 60, 38, 60, 38, 60, 60, 38, 60, 38, 60, 60, 38, 60, 60] = true := by kernel_rfl
theorem ndffttf : leF [38, 60, 60, 38, 60, 60, 38, 60, 60, 60] [38, 38, 60, 38, 60, 38, 38, 60, 38, 60, 38, 38, 60, 38, 60, 38, 60] = true := by kernel_rfl
theorem ndffttt : leT [38, 60, 60, 38, 60, 60, 38, 60, 60, 60] [38, 60, 60, 60, 38, 60, 60, 60, 38, 60, 60, 60, 60] = true := by kernel_rfl
theorem ndftfff : leF [38, 38, 38, 60, 38, 38, 38, 60, 38, 38, 60] [38, 38, 38, 38, 60, 38, 38, 38, 38, 60, 38, 38, 38, 60] = true := by kernel_rfl
theorem ndftfft : leT [38, 38, 38, 60, 38, 38, 38, 60, 38, 38, 60] [38, 60, 38, 60, 38, 60, 60, 38, 60, 38, 60, 38, 60, 60, 38, 60, 38, 60, 60] = true := by kernel_rfl
theorem ndftftf : leF [38, 60, 38, 60, 60, 38, 60, 38, 60, 60, 38, 60, 60] [38, 38, 60, 38, 38, 60, 38, 60, 38, 38, 60, 38, 38, 60, 38, 60, 38, 38, 60, 38, 60] = true := by kernel_rfl
theorem ndftftt : leT [38, 60, 38, 60, 60, 38, 60, 38, 60, 60, 38, 60, 60] [38, 60, 60, 38, 60, 60, 60, 38, 60, 60, 38, 60, 60, 60, 38, 60, 60, 60] = true := by kernel_rfl
theorem ndfttff : leF [38, 38, 60, 38, 60, 38, 38, 60, 38, 60, 38, 60] [38, 38, 38, 60, 38, 38, 60, 38, 38, 38, 60, 38, 38, 60, 38, 38, 60] = true := by kernel_rfl
theorem ndfttft : leT [38, 38, 60, 38, 60, 38, 38, 60, 38, 60, 38, 60] [38, 60, 38, 60, 60, 38, 60, 60, 38, 60, 38, 60, 60, 38, 60, 60, 38, 60, 60] = true := by kernel_rfl
theorem ndftttf : leF [38, 60, 60, 60, 38, 60, 60, 60, 60] [38, 38, 60, 38, 60, 38, 60, 38, 38, 60, 38, 60, 38, 60, 38, 60] = true := by kernel_rfl
theorem ndftttt : leT [38, 60, 60, 60, 38, 60, 60, 60, 60] [38, 60, 60, 60, 60, 38, 60, 60, 60, 60, 60] = true := by kernel_rfl
theorem ndtffff : leF [38, 38, 38, 38, 60, 38, 38, 38, 60] [38, 38, 38, 38, 38, 60, 38, 38, 38, 38, 60] = true := by kernel_rfl
theorem ndtffft : leT [38, 38, 38, 38, 60, 38, 38, 38, 60] [38, 60, 38, 60, 38, 60, 38, 60, 60, 38, 60, 38, 60, 38, 60, 60] = true := by kernel_rfl
theorem ndtfftf : leF [38, 60, 38, 60, 38, 60, 60, 38, 60, 38, 60, 60] [38, 38, 60, 38, 38, 60, 38, 38, 60, 38, 60, 38, 38, 60, 38, 38, 60, 38, 60] = true := by kernel_rfl
theorem ndtfftt : leT [38, 60, 38, 60, 38, 60, 60, 38, 60, 38, 60, 60] [38, 60, 60, 38, 60, 60, 38, 60, 60, 60, 38, 60, 60, 38, 60, 60, 60] = true := by kernel_rfl
theorem ndtftff : leF [38, 38, 60, 38, 38, 60, 38, 60, 38, 38, 60, 38, 60] [38, 38, 38, 60, 38, 38, 38, 60, 38, 38, 60, 38, 38, 38, 60, 38, 38, 60] = true := by kernel_rfl
theorem ndtftft : leT [38, 38, 60, 38, 38, 60, 38, 60, 38, 38, 60, 38, 60] [38, 60, 38, 60, 60, 38, 60, 38, 60, 60, 38, 60, 60, 38, 60, 38, 60, 60, 38, 60, 60] = true := by kernel_rfl
theorem ndtfttf : leF [38, 60, 60, 38, 60, 60, 60, 38, 60, 60, 60] [38, 38, 60, 38, 60, 38, 38, 60, 38, 60, 38, 60, 38, 38, 60, 38, 60, 38, 60] = true := by kernel_rfl
theorem ndtfttt : leT [38, 60, 60, 38, 60, 60, 60, 38, 60, 60, 60] [38, 60, 60, 60, 38, 60, 60, 60, 60, 38, 60, 60, 60, 60] = true := by kernel_rfl
theorem ndttfff : leF [38, 38, 38, 60, 38, 38, 60, 38, 38, 60] [38, 38, 38, 38, 60, 38, 38, 38, 60, 38, 38, 38, 60] = true := by kernel_rfl
theorem ndttfft : leT [38, 38, 38, 60, 38, 38, 60, 38, 38, 60] [38, 60, 38, 60, 38, 60, 60, 38, 60, 38, 60, 60, 38, 60, 38, 60, 60] = true := by kernel_rfl
theorem ndttftf : leF [38, 60, 38, 60, 60, 38, 60, 60, 38, 60, 60] [38, 38, 60, 38, 38, 60, 38, 60, 38, 38, 60, 38, 60, 38, 38, 60, 38, 60] = true := by kernel_rfl
theorem ndttftt : leT [38, 60, 38, 60, 60, 38, 60, 60, 38, 60, 60] [38, 60, 60, 38, 60, 60, 60, 38, 60, 60, 60, 38, 60, 60, 60] = true := by kernel_rfl
theorem ndtttff : leF [38, 38, 60, 38, 60, 38, 60, 38, 60] [38, 38, 38, 60, 38, 38, 60, 38, 38, 60, 38, 38, 60] = true := by kernel_rfl
theorem ndtttft : leT [38, 38, 60, 38, 60, 38, 60, 38, 60] [38, 60, 38, 60, 60, 38, 60, 60, 38, 60, 60, 38, 60, 60] = true := by kernel_rfl
theorem ndttttf : leF [38, 60, 60, 60, 60, 60] [38, 38, 60, 38, 60, 38, 60, 38, 60, 38, 60] = true := by kernel_rfl
theorem ndttttt : leT [38, 60, 60, 60, 60, 60] [38, 60, 60, 60, 60, 60, 60] = true := by kernel_rfl
theorem ndffffff : leF [38, 38, 38, 38, 38, 38, 60] [38, 38, 38, 38, 38, 38, 38, 60] = true := by kernel_rfl
theorem ndffffft : leT [38, 38, 38, 38, 38, 38, 60] [38, 60, 38, 60, 38, 60, 38, 60, 38, 60, 38, 60, 60] = true := by kernel_rfl
theorem ndfffftf : leF [38, 60, 38, 60, 38, 60, 38, 60, 38, 60, 60] [38, 38, 60, 38, 38, 60, 38, 38, 60, 38, 38, 60, 38, 38, 60, 38, 60] = true := by kernel_rfl
theorem ndfffftt : leT [38, 60, 38, 60, 38, 60, 38, 60, 38, 60, 60] [38, 60, 60, 38, 60, 60, 38, 60, 60, 38, 60, 60, 38, 60, 60, 60] = true := by kernel_rfl
theorem ndffftff : leF [38, 38, 60, 38, 38, 60, 38, 38, 60, 38, 38, 60, 38, 60] [38, 38, 38, 60, 38, 38, 38, 60, 38, 38, 38, 60, 38, 38, 38, 60, 38, 38, 60] = true := by kernel_rfl
theorem ndffftft : leT [38, 38, 60, 38, 38, 60, 38, 38, 60, 38, 38, 60, 38, 60] [38, 60, 38, 60, 60, 38, 60, 38, 60, 60, 38, 60, 38, 60, 60, 38, 60, 38, 60, 60, 38, 60, 60] = true := by kernel_rfl
theorem ndfffttf : leF [38, 60, 60, 38, 60, 60, 38, 60, 60, 38, 60, 60, 60] [38, 38, 60, 38, 60, 38, 38, 60, 38, 60, 38, 38, 60, 38, 60, 38, 38, 60, 38, 60, 38, 60] = true := by kernel_rfl
theorem ndfffttt : leT [38, 60, 60, 38, 60, 60, 38, 60, 60, 38, 60, 60, 60] [38, 60, 60, 60, 38, 60, 60, 60, 38, 60, 60, 60, 38, 60, 60, 60, 60] = true := by kernel_rfl
theorem ndfftfff : leF [38, 38, 38, 60, 38, 38, 38, 60, 38, 38, 38, 60, 38, 38, 60] [38, 38, 38, 38, 60, 38, 38, 38, 38, 60, 38, 38, 38, 38, 60, 38, 38, 38, 60] = true := by kernel_rfl
theorem ndfftfft : leT [38, 38, 38, 60, 38, 38, 38, 60, 38, 38, 38, 60, 38, 38, 60] [38, 60, 38, 60, 38, 60, 60, 38, 60, 38, 60, 38, 60, 60, 38, 60, 38, 60, 38, 60, 60, 38, 60, 38, 60, 60] = true := by kernel_rfl
theorem ndfftftf : leF [38, 60, 38, 60, 60, 38, 60, 38, 60, 60, 38, 60, 38, 60, 60, 38, 60, 60] [38, 38, 60, 38, 38, 60, 38, 60, 38, 38, 60, 38, 38, 60, 38, 60, 38, 38, 60, 38, 38, 60, 38, 60, 38, 38, 60, 38, 60] = true := by kernel_rfl
theorem ndfftftt : leT [38, 60, 38, 60, 60, 38, 60, 38, 60, 60, 38, 60, 38, 60, 60, 38, 60, 60] [38, 60, 60, 38, 60, 60, 60, 38, 60, 60, 38, 60, 60, 60, 38, 60, 60, 38, 60, 60, 60, 38, 60, 60, 60] = true := by kernel_rfl
theorem ndffttff : leF [38, 38, 60, 38, 60, 38, 38, 60, 38, 60, 38, 38, 60, 38, 60, 38, 60] [38, 38, 38, 60, 38, 38, 60, 38, 38, 38, 60, 38, 38, 60, 38, 38, 38, 60, 38, 38, 60, 38, 38, 60] = true := by kernel_rfl
theorem ndffttft : leT [38, 38, 60, 38, 60, 38, 38, 60, 38, 60, 38, 38, 60, 38, 60, 38, 60] [38, 60, 38, 60, 60, 38, 60, 60, 38, 60, 38, 60, 60, 38, 60, 60, 38, 60, 38, 60, 60, 38, 60, 60, 38, 60, 60] = true := by kernel_rfl
theorem ndfftttf : leF [38, 60, 60, 60, 38, 60, 60, 60, 38, 60, 60, 60, 60] [38, 38, 60, 38, 60, 38, 60, 38, 38, 60, 38, 60, 38, 60, 38, 38, 60, 38, 60, 38, 60, 38, 60] = true := by kernel_rfl
theorem ndfftttt : leT [38, 60, 60, 60, 38, 60, 60, 60, 38, 60, 60, 60, 60] [38, 60, 60, 60, 60, 38, 60, 60, 60, 60, 38, 60, 60, 60, 60, 60] = true := by kernel_rfl
theorem ndftffff : leF [38, 38, 38, 38, 60, 38, 38, 38, 38, 60, 38, 38, 38, 60] [38, 38, 38, 38, 38, 60, 38, 38, 38, 38, 38, 60, 38, 38, 38, 38, 60] = true := by kernel_rfl
theorem ndftffft : leT [38, 38, 38, 38, 60, 38, 38, 38, 38, 60, 38, 38, 38, 60] [38, 60, 38, 60, 38, 60, 38, 60, 60, 38, 60, 38, 60, 38, 60, 38, 60, 60, 38, 60, 38, 60, 38, 60, 60] = true := by kernel_rfl
theorem ndftfftf : leF [38, 60, 38, 60, 38, 60, 60, 38, 60, 38, 60, 38, 60, 60, 38, 60, 38, 60, 60] [38, 38, 60, 38, 38, 60, 38, 38, 60, 38, 60, 38, 38, 60, 38, 38, 60, 38, 38, 60, 38, 60, 38, 38, 60, 38, 38, 60, 38, 60] = true := by kernel_rfl
theorem ndftfftt : leT [38, 60, 38, 60, 38, 60, 60, 38, 60, 38, 60, 38, 60, 60, 38, 60, 38, 60, 60] [38, 60, 60, 38, 60, 60, 38, 60, 60, 60, 38, 60, 60, 38, 60, 60, 38, 60, 60, 60, 38, 60, 60, 38, 60, 60, 60] = true := by kernel_rfl
theorem ndftftff : leF [38, 38, 60, 38, 38, 60, 38, 60, 38, 38, 60, 38, 38, 60, 38, 60, 38, 38, 60, 38, 60] [38, 38, 38, 60, 38, 38, 38, 60, 38, 38, 60, 38, 38, 38, 60, 38, 38, 38, 60, 38, 38, 60, 38, 38, 38, 60, 38, 38, 60] = true := by kernel_rfl
theorem ndftftft : leT [38, 38, 60, 38, 38, 60, 38, 60, 38, 38, 60, 38, 38, 60, 38, 60, 38, 38, 60, 38, 60] [38, 60, 38, 60, 60, 38, 60, 38, 60, 60, 38, 60, 60, 38, 60, 38, 60, 60, 38, 60, 38, 60, 60, 38, 60, 60, 38, 60, 38, 60, 60, 38, 60, 60] = true := by kernel_rfl
theorem ndftfttf : leF [38, 60, 60, 38, 60, 60, 60, 38, 60, 60, 38, 60, 60, 60, 38, 60, 60, 60] [38, 38, 60, 38, 60, 38, 38, 60, 38, 60, 38, 60, 38, 38, 60, 38, 60, 38, 38, 60, 38, 60, 38, 60, 38, 38, 60, 38, 60, 38, 60] = true := by kernel_rfl
theorem ndftfttt : leT [38, 60, 60, 38, 60, 60, 60, 38, 60, 60, 38, 60, 60, 60, 38, 60, 60, 60] [38, 60, 60, 60, 38, 60, 60, 60, 60, 38, 60, 60, 60, 38, 60, 60, 60, 60, 38, 60, 60, 60, 60] = true := by kernel_rfl
theorem ndfttfff : leF [38, 38, 38, 60, 38, 38, 60, 38, 38, 38, 60, 38, 38, 60, 38, 38, 60] [38, 38, 38, 38, 60, 38, 38, 38, 60, 38, 38, 38, 38, 60, 38, 38, 38, 60, 38, 38, 38, 60] = true := by kernel_rfl
theorem ndfttfft : leT [38, 38, 38, 60, 38, 38, 60, 38, 38, 38, 60, 38, 38, 60, 38, 38, 60] [38, 60, 38, 60, 38, 60, 60, 38, 60, 38, 60, 60, 38, 60, 38, 60, 38, 60, 60, 38, 60, 38, 60, 60, 38, 60, 38, 60, 60] = true := by kernel_rfl
theorem ndfttftf : leF [38, 60, 38, 60, 60, 38, 60, 60, 38, 60, 38, 60, 60, 38, 60, 60, 38, 60, 60] [38, 38, 60, 38, 38, 60, 38, 60, 38, 38, 60, 38, 60, 38, 38, 60, 38, 38, 60, 38, 60, 38, 38, 60, 38, 60, 38, 38, 60, 38, 60] = true := by kernel_rfl
theorem ndfttftt : leT [38, 60, 38, 60, 60, 38, 60, 60, 38, 60, 38, 60, 60, 38, 60, 60, 38, 60, 60] [38, 60, 60, 38, 60, 60, 60, 38, 60, 60, 60, 38, 60, 60, 38, 60, 60, 60, 38, 60, 60, 60, 38, 60, 60, 60] = true := by kernel_rfl
theorem ndftttff : leF [38, 38, 60, 38, 60, 38, 60, 38, 38, 60, 38, 60, 38, 60, 38, 60] [38, 38, 38, 60, 38, 38, 60, 38, 38, 60, 38, 38, 38, 60, 38, 38, 60, 38, 38, 60, 38, 38, 60] = true := by kernel_rfl
theorem ndftttft : leT [38, 38, 60, 38, 60, 38, 60, 38, 38, 60, 38, 60, 38, 60, 38, 60] [38, 60, 38, 60, 60, 38, 60, 60, 38, 60, 60, 38, 60, 38, 60, 60, 38, 60, 60, 38, 60, 60, 38, 60, 60] = true := by kernel_rfl
theorem ndfttttf : leF [38, 60, 60, 60, 60, 38, 60, 60, 60, 60, 60] [38, 38, 60, 38, 60, 38, 60, 38, 60, 38, 38, 60, 38, 60, 38, 60, 38, 60, 38, 60] = true := by kernel_rfl
theorem ndfttttt : leT [38, 60, 60, 60, 60, 38, 60, 60, 60, 60, 60] [38, 60, 60, 60, 60, 60, 38, 60, 60, 60, 60, 60, 60] = true := by kernel_rfl
theorem ndtfffff : leF [38, 38, 38, 38, 38, 60, 38, 38, 38, 38, 60] [38, 38, 38, 38, 38, 38, 60, 38, 38, 38, 38, 38, 60] = true := by kernel_rfl
theorem ndtfffft : leT [38, 38, 38, 38, 38, 60, 38, 38, 38, 38, 60] [38, 60, 38, 60, 38, 60, 38, 60, 38, 60, 60, 38, 60, 38, 60, 38, 60, 38, 60, 60] = true := by kernel_rfl
theorem ndtffftf : leF [38, 60, 38, 60, 38, 60, 38, 60, 60, 38, 60, 38, 60, 38, 60, 60] [38, 38, 60, 38, 38, 60, 38, 38, 60, 38, 38, 60, 38, 60, 38, 38, 60, 38, 38, 60, 38, 38, 60, 38, 60] = true := by kernel_rfl
theorem ndtffftt : leT [38, 60, 38, 60, 38, 60, 38, 60, 60, 38, 60, 38, 60, 38, 60, 60] [38, 60, 60, 38, 60, 60, 38, 60, 60, 38, 60, 60, 60, 38, 60, 60, 38, 60, 60, 38, 60, 60, 60] = true := by kernel_rfl
theorem ndtfftff : leF [38, 38, 60, 38, 38, 60, 38, 38, 60, 38, 60, 38, 38, 60, 38, 38, 60, 38, 60] [38, 38, 38, 60, 38, 38, 38, 60, 38, 38, 38, 60, 38, 38, 60, 38, 38, 38, 60, 38, 38, 38, 60, 38, 38, 60] = true := by kernel_rfl
theorem ndtfftft : leT [38, 38, 60, 38, 38, 60, 38, 38, 60, 38, 60, 38, 38, 60, 38, 38, 60, 38, 60] [38, 60, 38, 60, 60, 38, 60, 38, 60, 60, 38, 60, 38, 60, 60, 38, 60, 60, 38, 60, 38, 60, 60, 38, 60, 38, 60, 60, 38, 60, 60] = true := by kernel_rfl
theorem ndtffttf : leF [38, 60, 60, 38, 60, 60, 38, 60, 60, 60, 38, 60, 60, 38, 60, 60, 60] [38, 38, 60, 38, 60, 38, 38, 60, 38, 60, 38, 38, 60, 38, 60, 38, 60, 38, 38, 60, 38, 60, 38, 38, 60, 38, 60, 38, 60] = true := by kernel_rfl
theorem ndtffttt : leT [38, 60, 60, 38, 60, 60, 38, 60, 60, 60, 38, 60, 60, 38, 60, 60, 60] [38, 60, 60, 60, 38, 60, 60, 60, 38, 60, 60, 60, 60, 38, 60, 60, 60, 38, 60, 60, 60, 60] = true := by kernel_rfl
theorem ndtftfff : leF [38, 38, 38, 60, 38, 38, 38, 60, 38, 38, 60, 38, 38, 38, 60, 38, 38, 60] [38, 38, 38, 38, 60, 38, 38, 38, 38, 60, 38, 38, 38, 60, 38, 38, 38, 38, 60, 38, 38, 38, 60] = true := by kernel_rfl
theorem ndtftfft : leT [38, 38, 38, 60, 38, 38, 38, 60, 38, 38, 60, 38, 38, 38, 60, 38, 38, 60] [38, 60, 38, 60, 38, 60, 60, 38, 60, 38, 60, 38, 60, 60, 38, 60, 38, 60, 60, 38, 60, 38, 60, 38, 60, 60, 38, 60, 38, 60, 60] = true := by kernel_rfl
theorem ndtftftf : leF [38, 60, 38, 60, 60, 38, 60, 38, 60, 60, 38, 60, 60, 38, 60, 38, 60, 60, 38, 60, 60] [38, 38, 60, 38, 38, 60, 38, 60, 38, 38, 60, 38, 38, 60, 38, 60, 38, 38, 60, 38, 60, 38, 38, 60, 38, 38, 60, 38, 60, 38, 38, 60, 38, 60] = true := by kernel_rfl
theorem ndtftftt : leT [38, 60, 38, 60, 60, 38, 60, 38, 60, 60, 38, 60, 60, 38, 60, 38, 60, 60, 38, 60, 60] [38, 60, 60, 38, 60, 60, 60, 38, 60, 60, 38, 60, 60, 60, 38, 60, 60, 60, 38, 60, 60, 38, 60, 60, 60, 38, 60, 60, 60] = true := by kernel_rfl
theorem ndtfttff : leF [38, 38, 60, 38, 60, 38, 38, 60, 38, 60, 38, 60, 38, 38, 60, 38, 60, 38, 60] [38, 38, 38, 60, 38, 38, 60, 38, 38, 38, 60, 38, 38, 60, 38, 38, 60, 38, 38, 38, 60, 38, 38, 60, 38, 38, 60] = true := by kernel_rfl
theorem ndtfttft : leT [38, 38, 60, 38, 60, 38, 38, 60, 38, 60, 38, 60, 38, 38, 60, 38, 60, 38, 60] [38, 60, 38, 60, 60, 38, 60, 60, 38, 60, 38, 60, 60, 38, 60, 60, 38, 60, 60, 38, 60, 38, 60, 60, 38, 60, 60, 38, 60, 60] = true := by kernel_rfl
theorem ndtftttf : leF [38, 60, 60, 60, 38, 60, 60, 60, 60, 38, 60, 60, 60, 60] [38, 38, 60, 38, 60, 38, 60, 38, 38, 60, 38, 60, 38, 60, 38, 60, 38, 38, 60, 38, 60, 38, 60, 38, 60] = true := by kernel_rfl
theorem ndtftttt : leT [38, 60, 60, 60, 38, 60, 60, 60, 60, 38, 60, 60, 60, 60] [38, 60, 60, 60, 60, 38, 60, 60, 60, 60, 60, 38, 60, 60, 60, 60, 60] = true := by kernel_rfl
theorem ndttffff : leF [38, 38, 38, 38, 60, 38, 38, 38, 60, 38, 38, 38, 60] [38, 38, 38, 38, 38, 60, 38, 38, 38, 38, 60, 38, 38, 38, 38, 60] = true := by kernel_rfl
theorem ndttffft : leT [38, 38, 38, 38, 60, 38, 38, 38, 60, 38, 38, 38, 60] [38, 60, 38, 60, 38, 60, 38, 60, 60, 38, 60, 38, 60, 38, 60, 60, 38, 60, 38, 60, 38, 60, 60] = true := by kernel_rfl
theorem ndttfftf : leF [38, 60, 38, 60, 38, 60, 60, 38, 60, 38, 60, 60, 38, 60, 38, 60, 60] [38, 38, 60, 38, 38, 60, 38, 38, 60, 38, 60, 38, 38, 60, 38, 38, 60, 38, 60, 38, 38, 60, 38, 38, 60, 38, 60] = true := by kernel_rfl
theorem ndttfftt : leT [38, 60, 38, 60, 38, 60, 60, 38, 60, 38, 60, 60, 38, 60, 38, 60, 60] [38, 60, 60, 38, 60, 60, 38, 60, 60, 60, 38, 60, 60, 38, 60, 60, 60, 38, 60, 60, 38, 60, 60, 60] = true := by kernel_rfl
theorem ndttftff : leF [38, 38, 60, 38, 38, 60, 38, 60, 38, 38, 60, 38, 60, 38, 38, 60, 38, 60] [38, 38, 38, 60, 38, 38, 38, 60, 38, 38, 60, 38, 38, 38, 60, 38, 38, 60, 38, 38, 38, 60, 38, 38, 60] = true := by kernel_rfl
theorem ndttftft : leT [38, 38, 60, 38, 38, 60, 38, 60, 38, 38, 60, 38, 60, 38, 38, 60, 38, 60] [38, 60, 38, 60, 60, 38, 60, 38, 60, 60, 38, 60, 60, 38, 60, 38, 60, 60, 38, 60, 60, 38, 60, 38, 60, 60, 38, 60, 60] = true := by kernel_rfl
theorem ndttfttf : leF [38, 60, 60, 38, 60, 60, 60, 38, 60, 60, 60, 38, 60, 60, 60] [38, 38, 60, 38, 60, 38, 38, 60, 38, 60, 38, 60, 38, 38, 60, 38, 60, 38, 60, 38, 38, 60, 38, 60, 38, 60] = true := by kernel_rfl
theorem ndttfttt : leT [38, 60, 60, 38, 60, 60, 60, 38, 60, 60, 60, 38, 60, 60, 60] [38, 60, 60, 60, 38, 60, 60, 60, 60, 38, 60, 60, 60, 60, 38, 60, 60, 60, 60] = true := by kernel_rfl
theorem ndtttfff : leF [38, 38, 38, 60, 38, 38, 60, 38, 38, 60, 38, 38, 60] [38, 38, 38, 38, 60, 38, 38, 38, 60, 38, 38, 38, 60, 38, 38, 38, 60] = true := by kernel_rfl
theorem ndtttfft : leT [38, 38, 38, 60, 38, 38, 60, 38, 38, 60, 38, 38, 60] [38, 60, 38, 60, 38, 60, 60, 38, 60, 38, 60, 60, 38, 60, 38, 60, 60, 38, 60, 38, 60, 60] = true := by kernel_rfl
theorem ndtttftf : leF [38, 60, 38, 60, 60, 38, 60, 60, 38, 60, 60, 38, 60, 60] [38, 38, 60, 38, 38, 60, 38, 60, 38, 38, 60, 38, 60, 38, 38, 60, 38, 60, 38, 38, 60, 38, 60] = true := by kernel_rfl
theorem ndtttftt : leT [38, 60, 38, 60, 60, 38, 60, 60, 38, 60, 60, 38, 60, 60] [38, 60, 60, 38, 60, 60, 60, 38, 60, 60, 60, 38, 60, 60, 60, 38, 60, 60, 60] = true := by kernel_rfl
theorem ndttttff : leF [38, 38, 60, 38, 60, 38, 60, 38, 60, 38, 60] [38, 38, 38, 60, 38, 38, 60, 38, 38, 60, 38, 38, 60, 38, 38, 60] = true := by kernel_rfl
theorem ndttttft : leT [38, 38, 60, 38, 60, 38, 60, 38, 60, 38, 60] [38, 60, 38, 60, 60, 38, 60, 60, 38, 60, 60, 38, 60, 60, 38, 60, 60] = true := by kernel_rfl
theorem ndtttttf : leF [38, 60, 60, 60, 60, 60, 60] [38, 38, 60, 38, 60, 38, 60, 38, 60, 38, 60, 38, 60] = true := by kernel_rfl
theorem ndtttttt : leT [38, 60, 60, 60, 60, 60, 60] [38, 60, 60, 60, 60, 60, 60, 60] = true := by kernel_rfl
theorem fcl0 : chkL [false, false, false, false, false, false] [38, 38, 38, 38, 38, 38, 38, 60] 8 1 [0, 1, 2, 3, 4, 5, 6, 7] = true := by kernel_rfl
theorem fcr0 : chkR [38, 38, 38, 38, 38, 38, 38, 60] 8 [0, 1, 2, 3, 4, 5, 6, 7] = true := by kernel_rfl
theorem fcl1 : chkL [false, false, false, false, false, true] [38, 60, 38, 60, 38, 60, 38, 60, 38, 60, 38, 60, 60] 13 2 [0, 2, 4, 6, 8, 10, 12, 1, 3, 5, 7, 9, 11] = true := by kernel_rfl
theorem fcr1 : chkR [38, 60, 38, 60, 38, 60, 38, 60, 38, 60, 38, 60, 60] 13 [0, 2, 4, 6, 8, 10, 12, 1, 3, 5, 7, 9, 11] = true := by kernel_rfl
theorem fcl2 : chkL [false, false, false, false, true, false] [38, 38, 60, 38, 38, 60, 38, 38, 60, 38, 38, 60, 38, 38, 60, 38, 60] 17 3 [0, 3, 6, 9, 12, 15, 1, 4, 7, 10, 13, 16, 2, 5, 8, 11, 14] = true := by kernel_rfl
theorem fcr2 : chkR [38, 38, 60, 38, 38, 60, 38, 38, 60, 38, 38, 60, 38, 38, 60, 38, 60] 17 [0, 3, 6, 9, 12, 15, 1, 4, 7, 10, 13, 16, 2, 5, 8, 11, 14] = true := by kernel_rfl
theorem fcl3 : chkL [false, false, false, false, true, true] [38, 60, 60, 38, 60, 60, 38, 60, 60, 38, 60, 60, 38, 60, 60, 60] 16 3 [0, 3, 6, 9, 12, 15, 2, 5, 8, 11, 14, 1, 4, 7, 10, 13] = true := by kernel_rfl
theorem fcr3 : chkR [38, 60, 60, 38, 60, 60, 38, 60, 60, 38, 60, 60, 38, 60, 60, 60] 16 [0, 3, 6, 9, 12, 15, 2, 5, 8, 11, 14, 1, 4, 7, 10, 13] = true := by kernel_rfl
theorem fcl4 : chkL [false, false, false, true, false, false] [38, 38, 38, 60, 38, 38, 38, 60, 38, 38, 38, 60, 38, 38, 38, 60, 38, 38, 60] 19 4 [0, 4, 8, 12, 16, 1, 5, 9, 13, 17, 2, 6, 10, 14, 18, 3, 7, 11, 15] = true := by kernel_rfl
theorem fcr4 : chkR [38, 38, 38, 60, 38, 38, 38, 60, 38, 38, 38, 60, 38, 38, 38, 60, 38, 38, 60] 19 [0, 4, 8, 12, 16, 1, 5, 9, 13, 17, 2, 6, 10, 14, 18, 3, 7, 11, 15] = true := by kernel_rfl
theorem fcl5 : chkL [false, false, false, true, false, true] [38, 60, 38, 60, 60, 38, 60, 38, 60, 60, 38, 60, 38, 60, 60, 38, 60, 38, 60, 60, 38, 60, 60] 23 5 [0, 5, 10, 15, 20, 2, 7, 12, 17, 22, 4, 9, 14, 19, 1, 6, 11, 16, 21, 3, 8, 13, 18] = true := by kernel_rfl
theorem fcr5 : chkR [38, 60, 38, 60, 60, 38, 60, 38, 60, 60, 38, 60, 38, 60, 60, 38, 60, 38, 60, 60, 38, 60, 60] 23 [0, 5, 10, 15, 20, 2, 7, 12, 17, 22, 4, 9, 14, 19, 1, 6, 11, 16, 21, 3, 8, 13, 18] = true := by kernel_rfl
theorem fcl6 : chkL [false, false, false, true, true, false] [38, 38, 60, 38, 60, 38, 38, 60, 38, 60, 38, 38, 60, 38, 60, 38, 38, 60, 38, 60, 38, 60] 22 5 [0, 5, 10, 15, 20, 3, 8, 13, 18, 1, 6, 11, 16, 21, 4, 9, 14, 19, 2, 7, 12, 17] = true := by kernel_rfl
theorem fcr6 : chkR [38, 38, 60, 38, 60, 38, 38, 60, 38, 60, 38, 38, 60, 38, 60, 38, 38, 60, 38, 60, 38, 60] 22 [0, 5, 10, 15, 20, 3, 8, 13, 18, 1, 6, 11, 16, 21, 4, 9, 14, 19, 2, 7, 12, 17] = true := by kernel_rfl
theorem fcl7 : chkL [false, false, false, true, true, true] [38, 60, 60, 60, 38, 60, 60, 60, 38, 60, 60, 60, 38, 60, 60, 60, 60] 17 4 [0, 4, 8, 12, 16, 3, 7, 11, 15, 2, 6, 10, 14, 1, 5, 9, 13] = true := by kernel_rfl
theorem fcr7 : chkR [38, 60, 60, 60, 38, 60, 60, 60, 38, 60, 60, 60, 38, 60, 60, 60, 60] 17 [0, 4, 8, 12, 16, 3, 7, 11, 15, 2, 6, 10, 14, 1, 5, 9, 13] = true := by kernel_rfl
theorem fcl8 : chkL [false, false, true, false, false, false] [38, 38, 38, 38, 60, 38, 38, 38, 38, 60, 38, 38, 38, 38, 60, 38, 38, 38, 60] 19 5 [0, 5, 10, 15, 1, 6, 11, 16, 2, 7, 12, 17, 3, 8, 13, 18, 4, 9, 14] = true := by kernel_rfl
theorem fcr8 : chkR [38, 38, 38, 38, 60, 38, 38, 38, 38, 60, 38, 38, 38, 38, 60, 38, 38, 38, 60] 19 [0, 5, 10, 15, 1, 6, 11, 16, 2, 7, 12, 17, 3, 8, 13, 18, 4, 9, 14] = true := by kernel_rfl
theorem fcl9 : chkL [false, false, true, false, false, true] [38, 60, 38, 60, 38, 60, 60, 38, 60, 38, 60, 38, 60, 60, 38, 60, 38, 60, 38, 60, 60, 38, 60, 38, 60, 60] 26 7 [0, 7, 14, 21, 2, 9, 16, 23, 4, 11, 18, 25, 6, 13, 20, 1, 8, 15, 22, 3, 10, 17, 24, 5, 12, 19] = true := by kernel_rfl
theorem fcr9 : chkR [38, 60, 38, 60, 38, 60, 60, 38, 60, 38, 60, 38, 60, 60, 38, 60, 38, 60, 38, 60, 60, 38, 60, 38, 60, 60] 26 [0, 7, 14, 21, 2, 9, 16, 23, 4, 11, 18, 25, 6, 13, 20, 1, 8, 15, 22, 3, 10, 17, 24, 5, 12, 19] = true := by kernel_rfl
theorem fcl10 : chkL [false, false, true, false, true, false] [38, 38, 60, 38, 38, 60, 38, 60, 38, 38, 60, 38, 38, 60, 38, 60, 38, 38, 60, 38, 38, 60, 38, 60, 38, 38, 60, 38, 60] 29 8 [0, 8, 16, 24, 3, 11, 19, 27, 6, 14, 22, 1, 9, 17, 25, 4, 12, 20, 28, 7, 15, 23, 2, 10, 18, 26, 5, 13, 21] = true := by kernel_rfl
theorem fcr10 : chkR [38, 38, 60, 38, 38, 60, 38, 60, 38, 38, 60, 38, 38, 60, 38, 60, 38, 38, 60, 38, 38, 60, 38, 60, 38, 38, 60, 38, 60] 29 [0, 8, 16, 24, 3, 11, 19, 27, 6, 14, 22, 1, 9, 17, 25, 4, 12, 20, 28, 7, 15, 23, 2, 10, 18, 26, 5, 13, 21] = true := by kernel_rfl
theorem fcl11 : chkL [false, false, true, false, true, true] [38, 60, 60, 38, 60, 60, 60, 38, 60, 60, 38, 60, 60, 60, 38, 60, 60, 38, 60, 60, 60, 38, 60, 60, 60] 25 7 [0, 7, 14, 21, 3, 10, 17, 24, 6, 13, 20, 2, 9, 16, 23, 5, 12, 19, 1, 8, 15, 22, 4, 11, 18] = true := by kernel_rfl
theorem fcr11 : chkR [38, 60, 60, 38, 60, 60, 60, 38, 60, 60, 38, 60, 60, 60, 38, 60, 60, 38, 60, 60, 60, 38, 60, 60, 60] 25 [0, 7, 14, 21, 3, 10, 17, 24, 6, 13, 20, 2, 9, 16, 23, 5, 12, 19, 1, 8, 15, 22, 4, 11, 18] = true := by kernel_rfl
theorem fcl12 : chkL [false, false, true, true, false, false] [38, 38, 38, 60, 38, 38, 60, 38, 38, 38, 60, 38, 38, 60, 38, 38, 38, 60, 38, 38, 60, 38, 38, 60] 24 7 [0, 7, 14, 21, 4, 11, 18, 1, 8, 15, 22, 5, 12, 19, 2, 9, 16, 23, 6, 13, 20, 3, 10, 17] = true := by kernel_rfl
theorem fcr12 : chkR [38, 38, 38, 60, 38, 38, 60, 38, 38, 38, 60, 38, 38, 60, 38, 38, 38, 60, 38, 38, 60, 38, 38, 60] 24 [0, 7, 14, 21, 4, 11, 18, 1, 8, 15, 22, 5, 12, 19, 2, 9, 16, 23, 6, 13, 20, 3, 10, 17] = true := by kernel_rfl
theorem fcl13 : chkL [false, false, true, true, false, true] [38, 60, 38, 60, 60, 38, 60, 60, 38, 60, 38, 60, 60, 38, 60, 60, 38, 60, 38, 60, 60, 38, 60, 60, 38, 60, 60] 27 8 [0, 8, 16, 24, 5, 13, 21, 2, 10, 18, 26, 7, 15, 23, 4, 12, 20, 1, 9, 17, 25, 6, 14, 22, 3, 11, 19] = true := by kernel_rfl
theorem fcr13 : chkR [38, 60, 38, 60, 60, 38, 60, 60, 38, 60, 38, 60, 60, 38, 60, 60, 38, 60, 38, 60, 60, 38, 60, 60, 38, 60, 60] 27 [0, 8, 16, 24, 5, 13, 21, 2, 10, 18, 26, 7, 15, 23, 4, 12, 20, 1, 9, 17, 25, 6, 14, 22, 3, 11, 19] = true := by kernel_rfl
theorem fcl14 : chkL [false, false, true, true, true, false] [38, 38, 60, 38, 60, 38, 60, 38, 38, 60, 38, 60, 38, 60, 38, 38, 60, 38, 60, 38, 60, 38, 60] 23 7 [0, 7, 14, 21, 5, 12, 19, 3, 10, 17, 1, 8, 15, 22, 6, 13, 20, 4, 11, 18, 2, 9, 16] = true := by kernel_rfl
theorem fcr14 : chkR [38, 38, 60, 38, 60, 38, 60, 38, 38, 60, 38, 60, 38, 60, 38, 38, 60, 38, 60, 38, 60, 38, 60] 23 [0, 7, 14, 21, 5, 12, 19, 3, 10, 17, 1, 8, 15, 22, 6, 13, 20, 4, 11, 18, 2, 9, 16] = true := by kernel_rfl
theorem fcl15 : chkL [false, false, true, true, true, true] [38, 60, 60, 60, 60, 38, 60, 60, 60, 60, 38, 60, 60, 60, 60, 60] 16 5 [0, 5, 10, 15, 4, 9, 14, 3, 8, 13, 2, 7, 12, 1, 6, 11] = true := by kernel_rfl
theorem fcr15 : chkR [38, 60, 60, 60, 60, 38, 60, 60, 60, 60, 38, 60, 60, 60, 60, 60] 16 [0, 5, 10, 15, 4, 9, 14, 3, 8, 13, 2, 7, 12, 1, 6, 11] = true := by kernel_rfl
theorem fcl16 : chkL [false, true, false, false, false, false] [38, 38, 38, 38, 38, 60, 38, 38, 38, 38, 38, 60, 38, 38, 38, 38, 60] 17 6 [0, 6, 12, 1, 7, 13, 2, 8, 14, 3, 9, 15, 4, 10, 16, 5, 11] = true := by kernel_rfl
theorem fcr16 : chkR [38, 38, 38, 38, 38, 60, 38, 38, 38, 38, 38, 60, 38, 38, 38, 38, 60] 17 [0, 6, 12, 1, 7, 13, 2, 8, 14, 3, 9, 15, 4, 10, 16, 5, 11] = true := by kernel_rfl
theorem fcl17 : chkL [false, true, false, false, false, true] [38, 60, 38, 60, 38, 60, 38, 60, 60, 38, 60, 38, 60, 38, 60, 38, 60, 60, 38, 60, 38, 60, 38, 60, 60] 25 9 [0, 9, 18, 2, 11, 20, 4, 13, 22, 6, 15, 24, 8, 17, 1, 10, 19, 3, 12, 21, 5, 14, 23, 7, 16] = true := by kernel_rfl
theorem fcr17 : chkR [38, 60, 38, 60, 38, 60, 38, 60, 60, 38, 60, 38, 60, 38, 60, 38, 60, 60, 38, 60, 38, 60, 38, 60, 60] 25 [0, 9, 18, 2, 11, 20, 4, 13, 22, 6, 15, 24, 8, 17, 1, 10, 19, 3, 12, 21, 5, 14, 23, 7, 16] = true := by kernel_rfl
theorem fcl18 : chkL [false, true, false, false, true, false] [38, 38, 60, 38, 38, 60, 38, 38, 60, 38, 60, 38, 38, 60, 38, 38, 60, 38, 38, 60, 38, 60, 38, 38, 60, 38, 38, 60, 38, 60] 30 11 [0, 11, 22, 3, 14, 25, 6, 17, 28, 9, 20, 1, 12, 23, 4, 15, 26, 7, 18, 29, 10, 21, 2, 13, 24, 5, 16, 27, 8, 19] = true := by kernel_rfl
theorem fcr18 : chkR [38, 38, 60, 38, 38, 60, 38, 38, 60, 38, 60, 38, 38, 60, 38, 38, 60, 38, 38, 60, 38, 60, 38, 38, 60, 38, 38, 60, 38, 60] 30 [0, 11, 22, 3, 14, 25, 6, 17, 28, 9, 20, 1, 12, 23, 4, 15, 26, 7, 18, 29, 10, 21, 2, 13, 24, 5, 16, 27, 8, 19] = true := by kernel_rfl
theorem fcl19 : chkL [false, true, false, false, true, true] [38, 60, 60, 38, 60, 60, 38, 60, 60, 60, 38, 60, 60, 38, 60, 60, 38, 60, 60, 60, 38, 60, 60, 38, 60, 60, 60] 27 10 [0, 10, 20, 3, 13, 23, 6, 16, 26, 9, 19, 2, 12, 22, 5, 15, 25, 8, 18, 1, 11, 21, 4, 14, 24, 7, 17] = true := by kernel_rfl
theorem fcr19 : chkR [38, 60, 60, 38, 60, 60, 38, 60, 60, 60, 38, 60, 60, 38, 60, 60, 38, 60, 60, 60, 38, 60, 60, 38, 60, 60, 60] 27 [0, 10, 20, 3, 13, 23, 6, 16, 26, 9, 19, 2, 12, 22, 5, 15, 25, 8, 18, 1, 11, 21, 4, 14, 24, 7, 17] = true := by kernel_rfl
theorem fcl20 : chkL [false, true, false, true, false, false] [38, 38, 38, 60, 38, 38, 38, 60, 38, 38, 60, 38, 38, 38, 60, 38, 38, 38, 60, 38, 38, 60, 38, 38, 38, 60, 38, 38, 60] 29 11 [0, 11, 22, 4, 15, 26, 8, 19, 1, 12, 23, 5, 16, 27, 9, 20, 2, 13, 24, 6, 17, 28, 10, 21, 3, 14, 25, 7, 18] = true := by kernel_rfl
theorem fcr20 : chkR [38, 38, 38, 60, 38, 38, 38, 60, 38, 38, 60, 38, 38, 38, 60, 38, 38, 38, 60, 38, 38, 60, 38, 38, 38, 60, 38, 38, 60] 29 [0, 11, 22, 4, 15, 26, 8, 19, 1, 12, 23, 5, 16, 27, 9, 20, 2, 13, 24, 6, 17, 28, 10, 21, 3, 14, 25, 7, 18] = true := by kernel_rfl
theorem fcl21 : chkL [false, true, false, true, false, true] [38, 60, 38, 60, 60, 38, 60, 38, 60, 60, 38, 60, 60, 38, 60, 38, 60, 60, 38, 60, 38, 60, 60, 38, 60, 60, 38, 60, 38, 60, 60, 38, 60, 60] 34 13 [0, 13, 26, 5, 18, 31, 10, 23, 2, 15, 28, 7, 20, 33, 12, 25, 4, 17, 30, 9, 22, 1, 14, 27, 6, 19, 32, 11, 24, 3, 16, 29, 8, 21] = true := by kernel_rfl
theorem fcr21 : chkR [38, 60, 38, 60, 60, 38, 60, 38, 60, 60, 38, 60, 60, 38, 60, 38, 60, 60, 38, 60, 38, 60, 60, 38, 60, 60, 38, 60, 38, 60, 60, 38, 60, 60] 34 [0, 13, 26, 5, 18, 31, 10, 23, 2, 15, 28, 7, 20, 33, 12, 25, 4, 17, 30, 9, 22, 1, 14, 27, 6, 19, 32, 11, 24, 3, 16, 29, 8, 21] = true := by kernel_rfl
theorem fcl22 : chkL [false, true, false, true, true, false] [38, 38, 60, 38, 60, 38, 38, 60, 38, 60, 38, 60, 38, 38, 60, 38, 60, 38, 38, 60, 38, 60, 38, 60, 38, 38, 60, 38, 60, 38, 60] 31 12 [0, 12, 24, 5, 17, 29, 10, 22, 3, 15, 27, 8, 20, 1, 13, 25, 6, 18, 30, 11, 23, 4, 16, 28, 9, 21, 2, 14, 26, 7, 19] = true := by kernel_rfl
theorem fcr22 : chkR [38, 38, 60, 38, 60, 38, 38, 60, 38, 60, 38, 60, 38, 38, 60, 38, 60, 38, 38, 60, 38, 60, 38, 60, 38, 38, 60, 38, 60, 38, 60] 31 [0, 12, 24, 5, 17, 29, 10, 22, 3, 15, 27, 8, 20, 1, 13, 25, 6, 18, 30, 11, 23, 4, 16, 28, 9, 21, 2, 14, 26, 7, 19] = true := by kernel_rfl
theorem fcl23 : chkL [false, true, false, true, true, true] [38, 60, 60, 60, 38, 60, 60, 60, 60, 38, 60, 60, 60, 38, 60, 60, 60, 60, 38, 60, 60, 60, 60] 23 9 [0, 9, 18, 4, 13, 22, 8, 17, 3, 12, 21, 7, 16, 2, 11, 20, 6, 15, 1, 10, 19, 5, 14] = true := by kernel_rfl
theorem fcr23 : chkR [38, 60, 60, 60, 38, 60, 60, 60, 60, 38, 60, 60, 60, 38, 60, 60, 60, 60, 38, 60, 60, 60, 60] 23 [0, 9, 18, 4, 13, 22, 8, 17, 3, 12, 21, 7, 16, 2, 11, 20, 6, 15, 1, 10, 19, 5, 14] = true := by kernel_rfl
theorem fcl24 : chkL [false, true, true, false, false, false] [38, 38, 38, 38, 60, 38, 38, 38, 60, 38, 38, 38, 38, 60, 38, 38, 38, 60, 38, 38, 38, 60] 22 9 [0, 9, 18, 5, 14, 1, 10, 19, 6, 15, 2, 11, 20, 7, 16, 3, 12, 21, 8, 17, 4, 13] = true := by kernel_rfl
theorem fcr24 : chkR [38, 38, 38, 38, 60, 38, 38, 38, 60, 38, 38, 38, 38, 60, 38, 38, 38, 60, 38, 38, 38, 60] 22 [0, 9, 18, 5, 14, 1, 10, 19, 6, 15, 2, 11, 20, 7, 16, 3, 12, 21, 8, 17, 4, 13] = true := by kernel_rfl
theorem fcl25 : chkL [false, true, true, false, false, true] [38, 60, 38, 60, 38, 60, 60, 38, 60, 38, 60, 60, 38, 60, 38, 60, 38, 60, 60, 38, 60, 38, 60, 60, 38, 60, 38, 60, 60] 29 12 [0, 12, 24, 7, 19, 2, 14, 26, 9, 21, 4, 16, 28, 11, 23, 6, 18, 1, 13, 25, 8, 20, 3, 15, 27, 10, 22, 5, 17] = true := by kernel_rfl
theorem fcr25 : chkR [38, 60, 38, 60, 38, 60, 60, 38, 60, 38, 60, 60, 38, 60, 38, 60, 38, 60, 60, 38, 60, 38, 60, 60, 38, 60, 38, 60, 60] 29 [0, 12, 24, 7, 19, 2, 14, 26, 9, 21, 4, 16, 28, 11, 23, 6, 18, 1, 13, 25, 8, 20, 3, 15, 27, 10, 22, 5, 17] = true := by kernel_rfl
theorem fcl26 : chkL [false, true, true, false, true, false] [38, 38, 60, 38, 38, 60, 38, 60, 38, 38, 60, 38, 60, 38, 38, 60, 38, 38, 60, 38, 60, 38, 38, 60, 38, 60, 38, 38, 60, 38, 60] 31 13 [0, 13, 26, 8, 21, 3, 16, 29, 11, 24, 6, 19, 1, 14, 27, 9, 22, 4, 17, 30, 12, 25, 7, 20, 2, 15, 28, 10, 23, 5, 18] = true := by kernel_rfl
theorem fcr26 : chkR [38, 38, 60, 38, 38, 60, 38, 60, 38, 38, 60, 38, 60, 38, 38, 60, 38, 38, 60, 38, 60, 38, 38, 60, 38, 60, 38, 38, 60, 38, 60] 31 [0, 13, 26, 8, 21, 3, 16, 29, 11, 24, 6, 19, 1, 14, 27, 9, 22, 4, 17, 30, 12, 25, 7, 20, 2, 15, 28, 10, 23, 5, 18] = true := by kernel_rfl
theorem fcl27 : chkL [false, true, true, false, true, true] [38, 60, 60, 38, 60, 60, 60, 38, 60, 60, 60, 38, 60, 60, 38, 60, 60, 60, 38, 60, 60, 60, 38, 60, 60, 60] 26 11 [0, 11, 22, 7, 18, 3, 14, 25, 10, 21, 6, 17, 2, 13, 24, 9, 20, 5, 16, 1, 12, 23, 8, 19, 4, 15] = true := by kernel_rfl
theorem fcr27 : chkR [38, 60, 60, 38, 60, 60, 60, 38, 60, 60, 60, 38, 60, 60, 38, 60, 60, 60, 38, 60, 60, 60, 38, 60, 60, 60] 26 [0, 11, 22, 7, 18, 3, 14, 25, 10, 21, 6, 17, 2, 13, 24, 9, 20, 5, 16, 1, 12, 23, 8, 19, 4, 15] = true := by kernel_rfl
theorem fcl28 : chkL [false, true, true, true, false, false] [38, 38, 38, 60, 38, 38, 60, 38, 38, 60, 38, 38, 38, 60, 38, 38, 60, 38, 38, 60, 38, 38, 60] 23 10 [0, 10, 20, 7, 17, 4, 14, 1, 11, 21, 8, 18, 5, 15, 2, 12, 22, 9, 19, 6, 16, 3, 13] = true := by kernel_rfl
theorem fcr28 : chkR [38, 38, 38, 60, 38, 38, 60, 38, 38, 60, 38, 38, 38, 60, 38, 38, 60, 38, 38, 60, 38, 38, 60] 23 [0, 10, 20, 7, 17, 4, 14, 1, 11, 21, 8, 18, 5, 15, 2, 12, 22, 9, 19, 6, 16, 3, 13] = true := by kernel_rfl
theorem fcl29 : chkL [false, true, true, true, false, true] [38, 60, 38, 60, 60, 38, 60, 60, 38, 60, 60, 38, 60, 38, 60, 60, 38, 60, 60, 38, 60, 60, 38, 60, 60] 25 11 [0, 11, 22, 8, 19, 5, 16, 2, 13, 24, 10, 21, 7, 18, 4, 15, 1, 12, 23, 9, 20, 6, 17, 3, 14] = true := by kernel_rfl
theorem fcr29 : chkR [38, 60, 38, 60, 60, 38, 60, 60, 38, 60, 60, 38, 60, 38, 60, 60, 38, 60, 60, 38, 60, 60, 38, 60, 60] 25 [0, 11, 22, 8, 19, 5, 16, 2, 13, 24, 10, 21, 7, 18, 4, 15, 1, 12, 23, 9, 20, 6, 17, 3, 14] = true := by kernel_rfl
theorem fcl30 : chkL [false, true, true, true, true, false] [38, 38, 60, 38, 60, 38, 60, 38, 60, 38, 38, 60, 38, 60, 38, 60, 38, 60, 38, 60] 20 9 [0, 9, 18, 7, 16, 5, 14, 3, 12, 1, 10, 19, 8, 17, 6, 15, 4, 13, 2, 11] = true := by kernel_rfl
theorem fcr30 : chkR [38, 38, 60, 38, 60, 38, 60, 38, 60, 38, 38, 60, 38, 60, 38, 60, 38, 60, 38, 60] 20 [0, 9, 18, 7, 16, 5, 14, 3, 12, 1, 10, 19, 8, 17, 6, 15, 4, 13, 2, 11] = true := by kernel_rfl
theorem fcl31 : chkL [false, true, true, true, true, true] [38, 60, 60, 60, 60, 60, 38, 60, 60, 60, 60, 60, 60] 13 6 [0, 6, 12, 5, 11, 4, 10, 3, 9, 2, 8, 1, 7] = true := by kernel_rfl
theorem fcr31 : chkR [38, 60, 60, 60, 60, 60, 38, 60, 60, 60, 60, 60, 60] 13 [0, 6, 12, 5, 11, 4, 10, 3, 9, 2, 8, 1, 7] = true := by kernel_rfl
theorem fcl32 : chkL [true, false, false, false, false, false] [38, 38, 38, 38, 38, 38, 60, 38, 38, 38, 38, 38, 60] 13 7 [0, 7, 1, 8, 2, 9, 3, 10, 4, 11, 5, 12, 6] = true := by kernel_rfl
theorem fcr32 : chkR [38, 38, 38, 38, 38, 38, 60, 38, 38, 38, 38, 38, 60] 13 [0, 7, 1, 8, 2, 9, 3, 10, 4, 11, 5, 12, 6] = true := by kernel_rfl
theorem fcl33 : chkL [true, false, false, false, false, true] [38, 60, 38, 60, 38, 60, 38, 60, 38, 60, 60, 38, 60, 38, 60, 38, 60, 38, 60, 60] 20 11 [0, 11, 2, 13, 4, 15, 6, 17, 8, 19, 10, 1, 12, 3, 14, 5, 16, 7, 18, 9] = true := by kernel_rfl
theorem fcr33 : chkR [38, 60, 38, 60, 38, 60, 38, 60, 38, 60, 60, 38, 60, 38, 60, 38, 60, 38, 60, 60] 20 [0, 11, 2, 13, 4, 15, 6, 17, 8, 19, 10, 1, 12, 3, 14, 5, 16, 7, 18, 9] = true := by kernel_rfl
theorem fcl34 : chkL [true, false, false, false, true, false] [38, 38, 60, 38, 38, 60, 38, 38, 60, 38, 38, 60, 38, 60, 38, 38, 60, 38, 38, 60, 38, 38, 60, 38, 60] 25 14 [0, 14, 3, 17, 6, 20, 9, 23, 12, 1, 15, 4, 18, 7, 21, 10, 24, 13, 2, 16, 5, 19, 8, 22, 11] = true := by kernel_rfl
theorem fcr34 : chkR [38, 38, 60, 38, 38, 60, 38, 38, 60, 38, 38, 60, 38, 60, 38, 38, 60, 38, 38, 60, 38, 38, 60, 38, 60] 25 [0, 14, 3, 17, 6, 20, 9, 23, 12, 1, 15, 4, 18, 7, 21, 10, 24, 13, 2, 16, 5, 19, 8, 22, 11] = true := by kernel_rfl
theorem fcl35 : chkL [true, false, false, false, true, true] [38, 60, 60, 38, 60, 60, 38, 60, 60, 38, 60, 60, 60, 38, 60, 60, 38, 60, 60, 38, 60, 60, 60] 23 13 [0, 13, 3, 16, 6, 19, 9, 22, 12, 2, 15, 5, 18, 8, 21, 11, 1, 14, 4, 17, 7, 20, 10] = true := by kernel_rfl
theorem fcr35 : chkR [38, 60, 60, 38, 60, 60, 38, 60, 60, 38, 60, 60, 60, 38, 60, 60, 38, 60, 60, 38, 60, 60, 60] 23 [0, 13, 3, 16, 6, 19, 9, 22, 12, 2, 15, 5, 18, 8, 21, 11, 1, 14, 4, 17, 7, 20, 10] = true := by kernel_rfl
theorem fcl36 : chkL [true, false, false, true, false, false] [38, 38, 38, 60, 38, 38, 38, 60, 38, 38, 38, 60, 38, 38, 60, 38, 38, 38, 60, 38, 38, 38, 60, 38, 38, 60] 26 15 [0, 15, 4, 19, 8, 23, 12, 1, 16, 5, 20, 9, 24, 13, 2, 17, 6, 21, 10, 25, 14, 3, 18, 7, 22, 11] = true := by kernel_rfl
theorem fcr36 : chkR [38, 38, 38, 60, 38, 38, 38, 60, 38, 38, 38, 60, 38, 38, 60, 38, 38, 38, 60, 38, 38, 38, 60, 38, 38, 60] 26 [0, 15, 4, 19, 8, 23, 12, 1, 16, 5, 20, 9, 24, 13, 2, 17, 6, 21, 10, 25, 14, 3, 18, 7, 22, 11] = true := by kernel_rfl
theorem fcl37 : chkL [true, false, false, true, false, true] [38, 60, 38, 60, 60, 38, 60, 38, 60, 60, 38, 60, 38, 60, 60, 38, 60, 60, 38, 60, 38, 60, 60, 38, 60, 38, 60, 60, 38, 60, 60] 31 18 [0, 18, 5, 23, 10, 28, 15, 2, 20, 7, 25, 12, 30, 17, 4, 22, 9, 27, 14, 1, 19, 6, 24, 11, 29, 16, 3, 21, 8, 26, 13] = true := by kernel_rfl
theorem fcr37 : chkR [38, 60, 38, 60, 60, 38, 60, 38, 60, 60, 38, 60, 38, 60, 60, 38, 60, 60, 38, 60, 38, 60, 60, 38, 60, 38, 60, 60, 38, 60, 60] 31 [0, 18, 5, 23, 10, 28, 15, 2, 20, 7, 25, 12, 30, 17, 4, 22, 9, 27, 14, 1, 19, 6, 24, 11, 29, 16, 3, 21, 8, 26, 13] = true := by kernel_rfl
theorem fcl38 : chkL [true, false, false, true, true, false] [38, 38, 60, 38, 60, 38, 38, 60, 38, 60, 38, 38, 60, 38, 60, 38, 60, 38, 38, 60, 38, 60, 38, 38, 60, 38, 60, 38, 60] 29 17 [0, 17, 5, 22, 10, 27, 15, 3, 20, 8, 25, 13, 1, 18, 6, 23, 11, 28, 16, 4, 21, 9, 26, 14, 2, 19, 7, 24, 12] = true := by kernel_rfl
theorem fcr38 : chkR [38, 38, 60, 38, 60, 38, 38, 60, 38, 60, 38, 38, 60, 38, 60, 38, 60, 38, 38, 60, 38, 60, 38, 38, 60, 38, 60, 38, 60] 29 [0, 17, 5, 22, 10, 27, 15, 3, 20, 8, 25, 13, 1, 18, 6, 23, 11, 28, 16, 4, 21, 9, 26, 14, 2, 19, 7, 24, 12] = true := by kernel_rfl
theorem fcl39 : chkL [true, false, false, true, true, true] [38, 60, 60, 60, 38, 60, 60, 60, 38, 60, 60, 60, 60, 38, 60, 60, 60, 38, 60, 60, 60, 60] 22 13 [0, 13, 4, 17, 8, 21, 12, 3, 16, 7, 20, 11, 2, 15, 6, 19, 10, 1, 14, 5, 18, 9] = true := by kernel_rfl
theorem fcr39 : chkR [38, 60, 60, 60, 38, 60, 60, 60, 38, 60, 60, 60, 60, 38, 60, 60, 60, 38, 60, 60, 60, 60] 22 [0, 13, 4, 17, 8, 21, 12, 3, 16, 7, 20, 11, 2, 15, 6, 19, 10, 1, 14, 5, 18, 9] = true := by kernel_rfl
theorem fcl40 : chkL [true, false, true, false, false, false] [38, 38, 38, 38, 60, 38, 38, 38, 38, 60, 38, 38, 38, 60, 38, 38, 38, 38, 60, 38, 38, 38, 60] 23 14 [0, 14, 5, 19, 10, 1, 15, 6, 20, 11, 2, 16, 7, 21, 12, 3, 17, 8, 22, 13, 4, 18, 9] = true := by kernel_rfl
theorem fcr40 : chkR [38, 38, 38, 38, 60, 38, 38, 38, 38, 60, 38, 38, 38, 60, 38, 38, 38, 38, 60, 38, 38, 38, 60] 23 [0, 14, 5, 19, 10, 1, 15, 6, 20, 11, 2, 16, 7, 21, 12, 3, 17, 8, 22, 13, 4, 18, 9] = true := by kernel_rfl
theorem fcl41 : chkL [true, false, true, false, false, true] [38, 60, 38, 60, 38, 60, 60, 38, 60, 38, 60, 38, 60, 60, 38, 60, 38, 60, 60, 38, 60, 38, 60, 38, 60, 60, 38, 60, 38, 60, 60] 31 19 [0, 19, 7, 26, 14, 2, 21, 9, 28, 16, 4, 23, 11, 30, 18, 6, 25, 13, 1, 20, 8, 27, 15, 3, 22, 10, 29, 17, 5, 24, 12] = true := by kernel_rfl
theorem fcr41 : chkR [38, 60, 38, 60, 38, 60, 60, 38, 60, 38, 60, 38, 60, 60, 38, 60, 38, 60, 60, 38, 60, 38, 60, 38, 60, 60, 38, 60, 38, 60, 60] 31 [0, 19, 7, 26, 14, 2, 21, 9, 28, 16, 4, 23, 11, 30, 18, 6, 25, 13, 1, 20, 8, 27, 15, 3, 22, 10, 29, 17, 5, 24, 12] = true := by kernel_rfl
theorem fcl42 : chkL [true, false, true, false, true, false] [38, 38, 60, 38, 38, 60, 38, 60, 38, 38, 60, 38, 38, 60, 38, 60, 38, 38, 60, 38, 60, 38, 38, 60, 38, 38, 60, 38, 60, 38, 38, 60, 38, 60] 34 21 [0, 21, 8, 29, 16, 3, 24, 11, 32, 19, 6, 27, 14, 1, 22, 9, 30, 17, 4, 25, 12, 33, 20, 7, 28, 15, 2, 23, 10, 31, 18, 5, 26, 13] = true := by kernel_rfl
theorem fcr42 : chkR [38, 38, 60, 38, 38, 60, 38, 60, 38, 38, 60, 38, 38, 60, 38, 60, 38, 38, 60, 38, 60, 38, 38, 60, 38, 38, 60, 38, 60, 38, 38, 60, 38, 60] 34 [0, 21, 8, 29, 16, 3, 24, 11, 32, 19, 6, 27, 14, 1, 22, 9, 30, 17, 4, 25, 12, 33, 20, 7, 28, 15, 2, 23, 10, 31, 18, 5, 26, 13] = true := by kernel_rfl
theorem fcl43 : chkL [true, false, true, false, true, true] [38, 60, 60, 38, 60, 60, 60, 38, 60, 60, 38, 60, 60, 60, 38, 60, 60, 60, 38, 60, 60, 38, 60, 60, 60, 38, 60, 60, 60] 29 18 [0, 18, 7, 25, 14, 3, 21, 10, 28, 17, 6, 24, 13, 2, 20, 9, 27, 16, 5, 23, 12, 1, 19, 8, 26, 15, 4, 22, 11] = true := by kernel_rfl
theorem fcr43 : chkR [38, 60, 60, 38, 60, 60, 60, 38, 60, 60, 38, 60, 60, 60, 38, 60, 60, 60, 38, 60, 60, 38, 60, 60, 60, 38, 60, 60, 60] 29 [0, 18, 7, 25, 14, 3, 21, 10, 28, 17, 6, 24, 13, 2, 20, 9, 27, 16, 5, 23, 12, 1, 19, 8, 26, 15, 4, 22, 11] = true := by kernel_rfl
theorem fcl44 : chkL [true, false, true, true, false, false] [38, 38, 38, 60, 38, 38, 60, 38, 38, 38, 60, 38, 38, 60, 38, 38, 60, 38, 38, 38, 60, 38, 38, 60, 38, 38, 60] 27 17 [0, 17, 7, 24, 14, 4, 21, 11, 1, 18, 8, 25, 15, 5, 22, 12, 2, 19, 9, 26, 16, 6, 23, 13, 3, 20, 10] = true := by kernel_rfl
theorem fcr44 : chkR [38, 38, 38, 60, 38, 38, 60, 38, 38, 38, 60, 38, 38, 60, 38, 38, 60, 38, 38, 38, 60, 38, 38, 60, 38, 38, 60] 27 [0, 17, 7, 24, 14, 4, 21, 11, 1, 18, 8, 25, 15, 5, 22, 12, 2, 19, 9, 26, 16, 6, 23, 13, 3, 20, 10] = true := by kernel_rfl
theorem fcl45 : chkL [true, false, true, true, false, true] [38, 60, 38, 60, 60, 38, 60, 60, 38, 60, 38, 60, 60, 38, 60, 60, 38, 60, 60, 38, 60, 38, 60, 60, 38, 60, 60, 38, 60, 60] 30 19 [0, 19, 8, 27, 16, 5, 24, 13, 2, 21, 10, 29, 18, 7, 26, 15, 4, 23, 12, 1, 20, 9, 28, 17, 6, 25, 14, 3, 22, 11] = true := by kernel_rfl
theorem fcr45 : chkR [38, 60, 38, 60, 60, 38, 60, 60, 38, 60, 38, 60, 60, 38, 60, 60, 38, 60, 60, 38, 60, 38, 60, 60, 38, 60, 60, 38, 60, 60] 30 [0, 19, 8, 27, 16, 5, 24, 13, 2, 21, 10, 29, 18, 7, 26, 15, 4, 23, 12, 1, 20, 9, 28, 17, 6, 25, 14, 3, 22, 11] = true := by kernel_rfl
theorem fcl46 : chkL [true, false, true, true, true, false] [38, 38, 60, 38, 60, 38, 60, 38, 38, 60, 38, 60, 38, 60, 38, 60, 38, 38, 60, 38, 60, 38, 60, 38, 60] 25 16 [0, 16, 7, 23, 14, 5, 21, 12, 3, 19, 10, 1, 17, 8, 24, 15, 6, 22, 13, 4, 20, 11, 2, 18, 9] = true := by kernel_rfl
theorem fcr46 : chkR [38, 38, 60, 38, 60, 38, 60, 38, 38, 60, 38, 60, 38, 60, 38, 60, 38, 38, 60, 38, 60, 38, 60, 38, 60] 25 [0, 16, 7, 23, 14, 5, 21, 12, 3, 19, 10, 1, 17, 8, 24, 15, 6, 22, 13, 4, 20, 11, 2, 18, 9] = true := by kernel_rfl
theorem fcl47 : chkL [true, false, true, true, true, true] [38, 60, 60, 60, 60, 38, 60, 60, 60, 60, 60, 38, 60, 60, 60, 60, 60] 17 11 [0, 11, 5, 16, 10, 4, 15, 9, 3, 14, 8, 2, 13, 7, 1, 12, 6] = true := by kernel_rfl
theorem fcr47 : chkR [38, 60, 60, 60, 60, 38, 60, 60, 60, 60, 60, 38, 60, 60, 60, 60, 60] 17 [0, 11, 5, 16, 10, 4, 15, 9, 3, 14, 8, 2, 13, 7, 1, 12, 6] = true := by kernel_rfl
theorem fcl48 : chkL [true, true, false, false, false, false] [38, 38, 38, 38, 38, 60, 38, 38, 38, 38, 60, 38, 38, 38, 38, 60] 16 11 [0, 11, 6, 1, 12, 7, 2, 13, 8, 3, 14, 9, 4, 15, 10, 5] = true := by kernel_rfl
theorem fcr48 : chkR [38, 38, 38, 38, 38, 60, 38, 38, 38, 38, 60, 38, 38, 38, 38, 60] 16 [0, 11, 6, 1, 12, 7, 2, 13, 8, 3, 14, 9, 4, 15, 10, 5] = true := by kernel_rfl
theorem fcl49 : chkL [true, true, false, false, false, true] [38, 60, 38, 60, 38, 60, 38, 60, 60, 38, 60, 38, 60, 38, 60, 60, 38, 60, 38, 60, 38, 60, 60] 23 16 [0, 16, 9, 2, 18, 11, 4, 20, 13, 6, 22, 15, 8, 1, 17, 10, 3, 19, 12, 5, 21, 14, 7] = true := by kernel_rfl
theorem fcr49 : chkR [38, 60, 38, 60, 38, 60, 38, 60, 60, 38, 60, 38, 60, 38, 60, 60, 38, 60, 38, 60, 38, 60, 60] 23 [0, 16, 9, 2, 18, 11, 4, 20, 13, 6, 22, 15, 8, 1, 17, 10, 3, 19, 12, 5, 21, 14, 7] = true := by kernel_rfl
theorem fcl50 : chkL [true, true, false, false, true, false] [38, 38, 60, 38, 38, 60, 38, 38, 60, 38, 60, 38, 38, 60, 38, 38, 60, 38, 60, 38, 38, 60, 38, 38, 60, 38, 60] 27 19 [0, 19, 11, 3, 22, 14, 6, 25, 17, 9, 1, 20, 12, 4, 23, 15, 7, 26, 18, 10, 2, 21, 13, 5, 24, 16, 8] = true := by kernel_rfl
theorem fcr50 : chkR [38, 38, 60, 38, 38, 60, 38, 38, 60, 38, 60, 38, 38, 60, 38, 38, 60, 38, 60, 38, 38, 60, 38, 38, 60, 38, 60] 27 [0, 19, 11, 3, 22, 14, 6, 25, 17, 9, 1, 20, 12, 4, 23, 15, 7, 26, 18, 10, 2, 21, 13, 5, 24, 16, 8] = true := by kernel_rfl
theorem fcl51 : chkL [true, true, false, false, true, true] [38, 60, 60, 38, 60, 60, 38, 60, 60, 60, 38, 60, 60, 38, 60, 60, 60, 38, 60, 60, 38, 60, 60, 60] 24 17 [0, 17, 10, 3, 20, 13, 6, 23, 16, 9, 2, 19, 12, 5, 22, 15, 8, 1, 18, 11, 4, 21, 14, 7] = true := by kernel_rfl
theorem fcr51 : chkR [38, 60, 60, 38, 60, 60, 38, 60, 60, 60, 38, 60, 60, 38, 60, 60, 60, 38, 60, 60, 38, 60, 60, 60] 24 [0, 17, 10, 3, 20, 13, 6, 23, 16, 9, 2, 19, 12, 5, 22, 15, 8, 1, 18, 11, 4, 21, 14, 7] = true := by kernel_rfl
theorem fcl52 : chkL [true, true, false, true, false, false] [38, 38, 38, 60, 38, 38, 38, 60, 38, 38, 60, 38, 38, 38, 60, 38, 38, 60, 38, 38, 38, 60, 38, 38, 60] 25 18 [0, 18, 11, 4, 22, 15, 8, 1, 19, 12, 5, 23, 16, 9, 2, 20, 13, 6, 24, 17, 10, 3, 21, 14, 7] = true := by kernel_rfl
theorem fcr52 : chkR [38, 38, 38, 60, 38, 38, 38, 60, 38, 38, 60, 38, 38, 38, 60, 38, 38, 60, 38, 38, 38, 60, 38, 38, 60] 25 [0, 18, 11, 4, 22, 15, 8, 1, 19, 12, 5, 23, 16, 9, 2, 20, 13, 6, 24, 17, 10, 3, 21, 14, 7] = true := by kernel_rfl
theorem fcl53 : chkL [true, true, false, true, false, true] [38, 60, 38, 60, 60, 38, 60, 38, 60, 60, 38, 60, 60, 38, 60, 38, 60, 60, 38, 60, 60, 38, 60, 38, 60, 60, 38, 60, 60] 29 21 [0, 21, 13, 5, 26, 18, 10, 2, 23, 15, 7, 28, 20, 12, 4, 25, 17, 9, 1, 22, 14, 6, 27, 19, 11, 3, 24, 16, 8] = true := by kernel_rfl
theorem fcr53 : chkR [38, 60, 38, 60, 60, 38, 60, 38, 60, 60, 38, 60, 60, 38, 60, 38, 60, 60, 38, 60, 60, 38, 60, 38, 60, 60, 38, 60, 60] 29 [0, 21, 13, 5, 26, 18, 10, 2, 23, 15, 7, 28, 20, 12, 4, 25, 17, 9, 1, 22, 14, 6, 27, 19, 11, 3, 24, 16, 8] = true := by kernel_rfl
theorem fcl54 : chkL [true, true, false, true, true, false] [38, 38, 60, 38, 60, 38, 38, 60, 38, 60, 38, 60, 38, 38, 60, 38, 60, 38, 60, 38, 38, 60, 38, 60, 38, 60] 26 19 [0, 19, 12, 5, 24, 17, 10, 3, 22, 15, 8, 1, 20, 13, 6, 25, 18, 11, 4, 23, 16, 9, 2, 21, 14, 7] = true := by kernel_rfl
theorem fcr54 : chkR [38, 38, 60, 38, 60, 38, 38, 60, 38, 60, 38, 60, 38, 38, 60, 38, 60, 38, 60, 38, 38, 60, 38, 60, 38, 60] 26 [0, 19, 12, 5, 24, 17, 10, 3, 22, 15, 8, 1, 20, 13, 6, 25, 18, 11, 4, 23, 16, 9, 2, 21, 14, 7] = true := by kernel_rfl
theorem fcl55 : chkL [true, true, false, true, true, true] [38, 60, 60, 60, 38, 60, 60, 60, 60, 38, 60, 60, 60, 60, 38, 60, 60, 60, 60] 19 14 [0, 14, 9, 4, 18, 13, 8, 3, 17, 12, 7, 2, 16, 11, 6, 1, 15, 10, 5] = true := by kernel_rfl
theorem fcr55 : chkR [38, 60, 60, 60, 38, 60, 60, 60, 60, 38, 60, 60, 60, 60, 38, 60, 60, 60, 60] 19 [0, 14, 9, 4, 18, 13, 8, 3, 17, 12, 7, 2, 16, 11, 6, 1, 15, 10, 5] = true := by kernel_rfl
theorem fcl56 : chkL [true, true, true, false, false, false] [38, 38, 38, 38, 60, 38, 38, 38, 60, 38, 38, 38, 60, 38, 38, 38, 60] 17 13 [0, 13, 9, 5, 1, 14, 10, 6, 2, 15, 11, 7, 3, 16, 12, 8, 4] = true := by kernel_rfl
theorem fcr56 : chkR [38, 38, 38, 38, 60, 38, 38, 38, 60, 38, 38, 38, 60, 38, 38, 38, 60] 17 [0, 13, 9, 5, 1, 14, 10, 6, 2, 15, 11, 7, 3, 16, 12, 8, 4] = true := by kernel_rfl
theorem fcl57 : chkL [true, true, true, false, false, true] [38, 60, 38, 60, 38, 60, 60, 38, 60, 38, 60, 60, 38, 60, 38, 60, 60, 38, 60, 38, 60, 60] 22 17 [0, 17, 12, 7, 2, 19, 14, 9, 4, 21, 16, 11, 6, 1, 18, 13, 8, 3, 20, 15, 10, 5] = true := by kernel_rfl
theorem fcr57 : chkR [38, 60, 38, 60, 38, 60, 60, 38, 60, 38, 60, 60, 38, 60, 38, 60, 60, 38, 60, 38, 60, 60] 22 [0, 17, 12, 7, 2, 19, 14, 9, 4, 21, 16, 11, 6, 1, 18, 13, 8, 3, 20, 15, 10, 5] = true := by kernel_rfl
theorem fcl58 : chkL [true, true, true, false, true, false] [38, 38, 60, 38, 38, 60, 38, 60, 38, 38, 60, 38, 60, 38, 38, 60, 38, 60, 38, 38, 60, 38, 60] 23 18 [0, 18, 13, 8, 3, 21, 16, 11, 6, 1, 19, 14, 9, 4, 22, 17, 12, 7, 2, 20, 15, 10, 5] = true := by kernel_rfl
theorem fcr58 : chkR [38, 38, 60, 38, 38, 60, 38, 60, 38, 38, 60, 38, 60, 38, 38, 60, 38, 60, 38, 38, 60, 38, 60] 23 [0, 18, 13, 8, 3, 21, 16, 11, 6, 1, 19, 14, 9, 4, 22, 17, 12, 7, 2, 20, 15, 10, 5] = true := by kernel_rfl
theorem fcl59 : chkL [true, true, true, false, true, true] [38, 60, 60, 38, 60, 60, 60, 38, 60, 60, 60, 38, 60, 60, 60, 38, 60, 60, 60] 19 15 [0, 15, 11, 7, 3, 18, 14, 10, 6, 2, 17, 13, 9, 5, 1, 16, 12, 8, 4] = true := by kernel_rfl
theorem fcr59 : chkR [38, 60, 60, 38, 60, 60, 60, 38, 60, 60, 60, 38, 60, 60, 60, 38, 60, 60, 60] 19 [0, 15, 11, 7, 3, 18, 14, 10, 6, 2, 17, 13, 9, 5, 1, 16, 12, 8, 4] = true := by kernel_rfl
theorem fcl60 : chkL [true, true, true, true, false, false] [38, 38, 38, 60, 38, 38, 60, 38, 38, 60, 38, 38, 60, 38, 38, 60] 16 13 [0, 13, 10, 7, 4, 1, 14, 11, 8, 5, 2, 15, 12, 9, 6, 3] = true := by kernel_rfl
theorem fcr60 : chkR [38, 38, 38, 60, 38, 38, 60, 38, 38, 60, 38, 38, 60, 38, 38, 60] 16 [0, 13, 10, 7, 4, 1, 14, 11, 8, 5, 2, 15, 12, 9, 6, 3] = true := by kernel_rfl
theorem fcl61 : chkL [true, true, true, true, false, true] [38, 60, 38, 60, 60, 38, 60, 60, 38, 60, 60, 38, 60, 60, 38, 60, 60] 17 14 [0, 14, 11, 8, 5, 2, 16, 13, 10, 7, 4, 1, 15, 12, 9, 6, 3] = true := by kernel_rfl
theorem fcr61 : chkR [38, 60, 38, 60, 60, 38, 60, 60, 38, 60, 60, 38, 60, 60, 38, 60, 60] 17 [0, 14, 11, 8, 5, 2, 16, 13, 10, 7, 4, 1, 15, 12, 9, 6, 3] = true := by kernel_rfl
theorem fcl62 : chkL [true, true, true, true, true, false] [38, 38, 60, 38, 60, 38, 60, 38, 60, 38, 60, 38, 60] 13 11 [0, 11, 9, 7, 5, 3, 1, 12, 10, 8, 6, 4, 2] = true := by kernel_rfl
theorem fcr62 : chkR [38, 38, 60, 38, 60, 38, 60, 38, 60, 38, 60, 38, 60] 13 [0, 11, 9, 7, 5, 3, 1, 12, 10, 8, 6, 4, 2] = true := by kernel_rfl
theorem fcl63 : chkL [true, true, true, true, true, true] [38, 60, 60, 60, 60, 60, 60, 60] 8 7 [0, 7, 6, 5, 4, 3, 2, 1] = true := by kernel_rfl
theorem fcr63 : chkR [38, 60, 60, 60, 60, 60, 60, 60] 8 [0, 7, 6, 5, 4, 3, 2, 1] = true := by kernel_rfl
theorem fit : ∀ a b c d e f : Bool, ∃ n s0 p0, Fit [a, b, c, d, e, f] n s0 p0
  | false, false, false, false, false, false => fit_of (.f ndf (.f ndff (.f ndfff (.f ndffff (.f ndfffff (.f ndffffff .nil)))))) fcl0 fcr0
  | false, false, false, false, false, true => fit_of (.f ndf (.f ndff (.f ndfff (.f ndffff (.f ndfffff (.t ndffffft .nil)))))) fcl1 fcr1
  | false, false, false, false, true, false => fit_of (.f ndf (.f ndff (.f ndfff (.f ndffff (.t ndfffft (.f ndfffftf .nil)))))) fcl2 fcr2
  | false, false, false, false, true, true => fit_of (.f ndf (.f ndff (.f ndfff (.f ndffff (.t ndfffft (.t ndfffftt .nil)))))) fcl3 fcr3
  | false, false, false, true, false, false => fit_of (.f ndf (.f ndff (.f ndfff (.t ndffft (.f ndffftf (.f ndffftff .nil)))))) fcl4 fcr4
  | false, false, false, true, false, true => fit_of (.f ndf (.f ndff (.f ndfff (.t ndffft (.f ndffftf (.t ndffftft .nil)))))) fcl5 fcr5
  | false, false, false, true, true, false => fit_of (.f ndf (.f ndff (.f ndfff (.t ndffft (.t ndffftt (.f ndfffttf .nil)))))) fcl6 fcr6
  | false, false, false, true, true, true => fit_of (.f ndf (.f ndff (.f ndfff (.t ndffft (.t ndffftt (.t ndfffttt .nil)))))) fcl7 fcr7
  | false, false, true, false, false, false => fit_of (.f ndf (.f ndff (.t ndfft (.f ndfftf (.f ndfftff (.f ndfftfff .nil)))))) fcl8 fcr8
  | false, false, true, false, false, true => fit_of (.f ndf (.f ndff (.t ndfft (.f ndfftf (.f ndfftff (.t ndfftfft .nil)))))) fcl9 fcr9
  | false, false, true, false, true, false => fit_of (.f ndf (.f ndff (.t ndfft (.f ndfftf (.t ndfftft (.f ndfftftf .nil)))))) fcl10 fcr10
  | false, false, true, false, true, true => fit_of (.f ndf (.f ndff (.t ndfft (.f ndfftf (.t ndfftft (.t ndfftftt .nil)))))) fcl11 fcr11
  | false, false, true, true, false, false => fit_of (.f ndf (.f ndff (.t ndfft (.t ndfftt (.f ndffttf (.f ndffttff .nil)))))) fcl12 fcr12
  | false, false, true, true, false, true => fit_of (.f ndf (.f ndff (.t ndfft (.t ndfftt (.f ndffttf (.t ndffttft .nil)))))) fcl13 fcr13
  | false, false, true, true, true, false => fit_of (.f ndf (.f ndff (.t ndfft (.t ndfftt (.t ndffttt (.f ndfftttf .nil)))))) fcl14 fcr14
  | false, false, true, true, true, true => fit_of (.f ndf (.f ndff (.t ndfft (.t ndfftt (.t ndffttt (.t ndfftttt .nil)))))) fcl15 fcr15
  | false, true, false, false, false, false => fit_of (.f ndf (.t ndft (.f ndftf (.f ndftff (.f ndftfff (.f ndftffff .nil)))))) fcl16 fcr16
  | false, true, false, false, false, true => fit_of (.f ndf (.t ndft (.f ndftf (.f ndftff (.f ndftfff (.t ndftffft .nil)))))) fcl17 fcr17
  | false, true, false, false, true, false => fit_of (.f ndf (.t ndft (.f ndftf (.f ndftff (.t ndftfft (.f ndftfftf .nil)))))) fcl18 fcr18
  | false, true, false, false, true, true => fit_of (.f ndf (.t ndft (.f ndftf (.f ndftff (.t ndftfft (.t ndftfftt .nil)))))) fcl19 fcr19
  | false, true, false, true, false, false => fit_of (.f ndf (.t ndft (.f ndftf (.t ndftft (.f ndftftf (.f ndftftff .nil)))))) fcl20 fcr20
  | false, true, false, true, false, true => fit_of (.f ndf (.t ndft (.f ndftf (.t ndftft (.f ndftftf (.t ndftftft .nil)))))) fcl21 fcr21
  | false, true, false, true, true, false => fit_of (.f ndf (.t ndft (.f ndftf (.t ndftft (.t ndftftt (.f ndftfttf .nil)))))) fcl22 fcr22
  | false, true, false, true, true, true => fit_of (.f ndf (.t ndft (.f ndftf (.t ndftft (.t ndftftt (.t ndftfttt .nil)))))) fcl23 fcr23
  | false, true, true, false, false, false => fit_of (.f ndf (.t ndft (.t ndftt (.f ndfttf (.f ndfttff (.f ndfttfff .nil)))))) fcl24 fcr24
  | false, true, true, false, false, true => fit_of (.f ndf (.t ndft (.t ndftt (.f ndfttf (.f ndfttff (.t ndfttfft .nil)))))) fcl25 fcr25
  | false, true, true, false, true, false => fit_of (.f ndf (.t ndft (.t ndftt (.f ndfttf (.t ndfttft (.f ndfttftf .nil)))))) fcl26 fcr26
  | false, true, true, false, true, true => fit_of (.f ndf (.t ndft (.t ndftt (.f ndfttf (.t ndfttft (.t ndfttftt .nil)))))) fcl27 fcr27
  | false, true, true, true, false, false => fit_of (.f ndf (.t ndft (.t ndftt (.t ndfttt (.f ndftttf (.f ndftttff .nil)))))) fcl28 fcr28
  | false, true, true, true, false, true => fit_of (.f ndf (.t ndft (.t ndftt (.t ndfttt (.f ndftttf (.t ndftttft .nil)))))) fcl29 fcr29
  | false, true, true, true, true, false => fit_of (.f ndf (.t ndft (.t ndftt (.t ndfttt (.t ndftttt (.f ndfttttf .nil)))))) fcl30 fcr30
  | false, true, true, true, true, true => fit_of (.f ndf (.t ndft (.t ndftt (.t ndfttt (.t ndftttt (.t ndfttttt .nil)))))) fcl31 fcr31
  | true, false, false, false, false, false => fit_of (.t ndt (.f ndtf (.f ndtff (.f ndtfff (.f ndtffff (.f ndtfffff .nil)))))) fcl32 fcr32
  | true, false, false, false, false, true => fit_of (.t ndt (.f ndtf (.f ndtff (.f ndtfff (.f ndtffff (.t ndtfffft .nil)))))) fcl33 fcr33
  | true, false, false, false, true, false => fit_of (.t ndt (.f ndtf (.f ndtff (.f ndtfff (.t ndtffft (.f ndtffftf .nil)))))) fcl34 fcr34
  | true, false, false, false, true, true => fit_of (.t ndt (.f ndtf (.f ndtff (.f ndtfff (.t ndtffft (.t ndtffftt .nil)))))) fcl35 fcr35
  | true, false, false, true, false, false => fit_of (.t ndt (.f ndtf (.f ndtff (.t ndtfft (.f ndtfftf (.f ndtfftff .nil)))))) fcl36 fcr36
  | true, false, false, true, false, true => fit_of (.t ndt (.f ndtf (.f ndtff (.t ndtfft (.f ndtfftf (.t ndtfftft .nil)))))) fcl37 fcr37
  | true, false, false, true, true, false => fit_of (.t ndt (.f ndtf (.f ndtff (.t ndtfft (.t ndtfftt (.f ndtffttf .nil)))))) fcl38 fcr38
  | true, false, false, true, true, true => fit_of (.t ndt (.f ndtf (.f ndtff (.t ndtfft (.t ndtfftt (.t ndtffttt .nil)))))) fcl39 fcr39
  | true, false, true, false, false, false => fit_of (.t ndt (.f ndtf (.t ndtft (.f ndtftf (.f ndtftff (.f ndtftfff .nil)))))) fcl40 fcr40
  | true, false, true, false, false, true => fit_of (.t ndt (.f ndtf (.t ndtft (.f ndtftf (.f ndtftff (.t ndtftfft .nil)))))) fcl41 fcr41
  | true, false, true, false, true, false => fit_of (.t ndt (.f ndtf (.t ndtft (.f ndtftf (.t ndtftft (.f ndtftftf .nil)))))) fcl42 fcr42
  | true, false, true, false, true, true => fit_of (.t ndt (.f ndtf (.t ndtft (.f ndtftf (.t ndtftft (.t ndtftftt .nil)))))) fcl43 fcr43
  | true, false, true, true, false, false => fit_of (.t ndt (.f ndtf (.t ndtft (.t ndtftt (.f ndtfttf (.f ndtfttff .nil)))))) fcl44 fcr44
  | true, false, true, true, false, true => fit_of (.t ndt (.f ndtf (.t ndtft (.t ndtftt (.f ndtfttf (.t ndtfttft .nil)))))) fcl45 fcr45
  | true, false, true, true, true, false => fit_of (.t ndt (.f ndtf (.t ndtft (.t ndtftt (.t ndtfttt (.f ndtftttf .nil)))))) fcl46 fcr46
  | true, false, true, true, true, true => fit_of (.t ndt (.f ndtf (.t ndtft (.t ndtftt (.t ndtfttt (.t ndtftttt .nil)))))) fcl47 fcr47
  | true, true, false, false, false, false => fit_of (.t ndt (.t ndtt (.f ndttf (.f ndttff (.f ndttfff (.f ndttffff .nil)))))) fcl48 fcr48
  | true, true, false, false, false, true => fit_of (.t ndt (.t ndtt (.f ndttf (.f ndttff (.f ndttfff (.t ndttffft .nil)))))) fcl49 fcr49
  | true, true, false, false, true, false => fit_of (.t ndt (.t ndtt (.f ndttf (.f ndttff (.t ndttfft (.f ndttfftf .nil)))))) fcl50 fcr50
  | true, true, false, false, true, true => fit_of (.t ndt (.t ndtt (.f ndttf (.f ndttff (.t ndttfft (.t ndttfftt .nil)))))) fcl51 fcr51
  | true, true, false, true, false, false => fit_of (.t ndt (.t ndtt (.f ndttf (.t ndttft (.f ndttftf (.f ndttftff .nil)))))) fcl52 fcr52
  | true, true, false, true, false, true => fit_of (.t ndt (.t ndtt (.f ndttf (.t ndttft (.f ndttftf (.t ndttftft .nil)))))) fcl53 fcr53
  | true, true, false, true, true, false => fit_of (.t ndt (.t ndtt (.f ndttf (.t ndttft (.t ndttftt (.f ndttfttf .nil)))))) fcl54 fcr54
  | true, true, false, true, true, true => fit_of (.t ndt (.t ndtt (.f ndttf (.t ndttft (.t ndttftt (.t ndttfttt .nil)))))) fcl55 fcr55
  | true, true, true, false, false, false => fit_of (.t ndt (.t ndtt (.t ndttt (.f ndtttf (.f ndtttff (.f ndtttfff .nil)))))) fcl56 fcr56
  | true, true, true, false, false, true => fit_of (.t ndt (.t ndtt (.t ndttt (.f ndtttf (.f ndtttff (.t ndtttfft .nil)))))) fcl57 fcr57
  | true, true, true, false, true, false => fit_of (.t ndt (.t ndtt (.t ndttt (.f ndtttf (.t ndtttft (.f ndtttftf .nil)))))) fcl58 fcr58
  | true, true, true, false, true, true => fit_of (.t ndt (.t ndtt (.t ndttt (.f ndtttf (.t ndtttft (.t ndtttftt .nil)))))) fcl59 fcr59
  | true, true, true, true, false, false => fit_of (.t ndt (.t ndtt (.t ndttt (.t ndtttt (.f ndttttf (.f ndttttff .nil)))))) fcl60 fcr60
  | true, true, true, true, false, true => fit_of (.t ndt (.t ndtt (.t ndttt (.t ndtttt (.f ndttttf (.t ndttttft .nil)))))) fcl61 fcr61
  | true, true, true, true, true, false => fit_of (.t ndt (.t ndtt (.t ndttt (.t ndtttt (.t ndttttt (.f ndtttttf .nil)))))) fcl62 fcr62
  | true, true, true, true, true, true => fit_of (.t ndt (.t ndtt (.t ndttt (.t ndtttt (.t ndttttt (.t ndtttttt .nil)))))) fcl63 fcr63
end Mine
end
section
namespace Mine
set_option maxHeartbeats 8000000
theorem lawB_eq : lawB = [stmtN 0, stmtN 1, stmtN 2, stmtN 3, stmtN 4, stmtN 5, stmtN 6, stmtN 7, stmtN 8] := by kernel_rfl
theorem start_of (k m : Int) : ∃ p : Nat, p < 4 ∧ startOf k m = (p : Int) + 1 := by
  unfold startOf
  have h0 : 0 ≤ (m.fdiv 7 + k).fmod 4 := Int.fmod_nonneg_of_pos _ (by omega)
  have h1 : (m.fdiv 7 + k).fmod 4 < 4 := Int.fmod_lt_of_pos _ (by omega)
  exact ⟨((m.fdiv 7 + k).fmod 4).toNat, by omega, by omega⟩
theorem mode_nn (b m : Int) : 0 ≤ modeOf b m := by
  unfold modeOf
  exact Int.fmod_nonneg_of_pos _ (by omega)
theorem bodya {D : Nat} {w : World} {h0 h : Heap} {L0 : List (Addr × Obj)} {g : Array GenState} {d : Drawn} {tk : Nat} {os : OsState} {Z N : Nat} {A : Around} {Q : Flow → Shared → Prop} {E : Value → Shared → Prop} {rg it : Obj} {sc : Addr} {vs : List Value} {e : Nat} {c2 c3 c4 c5 : Option Value} {kk kt : Tok} 
    (hD : D ≤ 500) (hA : Bd D A) (hl : vs.length < 64) (hv : ∀ (j : Nat) (v : Value), vs[j]? = some v → ∃ i t, v = .int i t) (S : Sg L0 h0 (LD w (tabO []) (tabO []) sc (scO vs e) N (lfr w [("k", kk, .int 0 kt)]) (some (.ref sc)) c2 c3 c4 c5 rg it) Z h)
    (hQ : ∀ h' tk' Z' (m o s f q n s0 : Int) (km tm ko to ks ts kl tx tf tq tn tz : Tok) (x : Str) (kn ku mm mu : Nat), Sg L0 h0 (LD w (cmT mm) (t37 kn) sc (scO vs e) N (lfr w [("k", kk, .int 0 kt), ("more", km, .int m tm), ("mode", ko, .int o to), ("start", ks, .int s ts), ("told", kl, .str x tx)]) (some (.ref sc)) (some (.int f tf)) (some (.int q tq)) (some (.int n tn)) (some (.int s0 tz)) rg it ++ EX kn ku mm mu) Z' h' → Q .next ⟨h', g, d, tk', os⟩) :
    wpAny (model PG w) A (execs lawB (lawEnv N)) Q E ⟨h, g, d, tk, os⟩ := by
  rw [lawB_eq]
  refine wpAny_execs_cons (st0a (D := D) (by first | exact dD hD rfl | exact dD0 hD rfl | omega) hA hl hv S fun h1 m1 tm1 km1 tk1 Z1 S1 => ?_)
  refine wpAny_execs_cons (st1a (D := D) (o := 0) (s := 0) (to := 0) (ts := 0) (ko := 0) (ks := 0) (kl := 0) (tx := 0) (x := sE) (by first | exact dD hD rfl | exact dD0 hD rfl | omega) hA S1 fun h2 S2 => ?_)
  refine wpAny_execs_cons (st2a (D := D) (s := 0) (ts := 0) (ks := 0) (kl := 0) (tx := 0) (x := sE) (by first | exact dD hD rfl | exact dD0 hD rfl | omega) hA S2 fun h3 S3 => ?_)
  obtain ⟨p, hp, hs⟩ := start_of 0 m1
  have ho := mode_nn 34273 m1
  generalize modeOf 34273 m1 = o1 at S3 ho
  generalize startOf 0 m1 = s1 at S3 hs
  obtain ⟨n, sz0, p0, F⟩ := fit (bitQ o1 (p + 6)) (bitQ o1 (p + 5)) (bitQ o1 (p + 4)) (bitQ o1 (p + 3)) (bitQ o1 (p + 2)) (bitQ o1 (p + 1))
  refine wpAny_execs_cons (st3a (D := D) (kl := 0) (tx := 0) (x := sE) (by first | exact dD hD rfl | exact dD0 hD rfl | omega) hA S3 hp hs rfl rfl rfl rfl rfl rfl fun h4 tk4 Z4 t41 t42 S4 => ?_)
  refine wpAny_execs_cons (st4a (D := D) (kl := 0) (tx := 0) (x := sE) (c2 := none) (c3 := none) (by first | exact dD hD rfl | exact dD0 hD rfl | omega) hA S4 fun h5 S5 => ?_)
  rw [F.sum] at S5
  refine wpAny_execs_cons (st5a (D := D) (kl := 0) (tx := 0) (x := sE) (by first | exact dD hD rfl | exact dD0 hD rfl | omega) hA S5 ho hp hs rfl rfl rfl rfl rfl rfl F.okf fun h6 tk6 t6 tk62 Z6 S6 => ?_)
  refine wpAny_execs_cons (st6a (D := D) (by first | exact dD hD rfl | exact dD0 hD rfl | omega) hA S6 F.two F.lim F.jok F.glu fun h7 tk7 Z7 S7 => ?_)
  refine wpAny_execs_cons (st7a (D := D) (by first | exact dD hD rfl | exact dD0 hD rfl | omega) hA S7 F.two F.lim F.hs0 fun h8 tk8 Z8 t8 S8 => ?_)
  refine wpAny_execs_cons (st8a (D := D) hD hA S8 F.two F.lim F.len F.oks F.run F.lt F.hp fun h9 tk9 Z9 S9 => ?_)
  exact wpAny_execs_nil (hQ h9 _ _ _ _ _ _ _ _ _ _ _ _ _ _ _ _ _ _ _ _ _ _ _ _ _ _ S9)
theorem bodyb {D : Nat} {w : World} {h0 h : Heap} {L0 : List (Addr × Obj)} {g : Array GenState} {d : Drawn} {tk : Nat} {os : OsState} {Z N : Nat} {A : Around} {Q : Flow → Shared → Prop} {E : Value → Shared → Prop} {rg it : Obj} {sc : Addr} {vs : List Value} {e : Nat} {c2 c3 c4 c5 : Option Value} {kk kt : Tok} {m0 o0 s0 : Int} {tm to ts km ko ks kl tx : Tok} {x0 : Str} {kn ku mm mu : Nat}
    (hD : D ≤ 500) (hA : Bd D A) (hl : vs.length < 64) (hv : ∀ (j : Nat) (v : Value), vs[j]? = some v → ∃ i t, v = .int i t) (S : Sg L0 h0 (LD w (cmT mm) (t37 kn) sc (scO vs e) N (lfr w [("k", kk, .int 1 kt), ("more", km, .int m0 tm), ("mode", ko, .int o0 to), ("start", ks, .int s0 ts), ("told", kl, .str x0 tx)]) (some (.ref sc)) c2 c3 c4 c5 rg it ++ EX kn ku mm mu) Z h)
    (hQ : ∀ h' tk' Z' (m o s f q n s0 : Int) (km tm ko to ks ts kl tx tf tq tn tz : Tok) (x : Str) (kn ku mm mu : Nat), Sg L0 h0 (LD w (cmT mm) (t37 kn) sc (scO vs e) N (lfr w [("k", kk, .int 1 kt), ("more", km, .int m tm), ("mode", ko, .int o to), ("start", ks, .int s ts), ("told", kl, .str x tx)]) (some (.ref sc)) (some (.int f tf)) (some (.int q tq)) (some (.int n tn)) (some (.int s0 tz)) rg it ++ EX kn ku mm mu) Z' h' → Q .next ⟨h', g, d, tk', os⟩) :
    wpAny (model PG w) A (execs lawB (lawEnv N)) Q E ⟨h, g, d, tk, os⟩ := by
  rw [lawB_eq]
  refine wpAny_execs_cons (st0b (D := D) (by first | exact dD hD rfl | exact dD0 hD rfl | omega) hA hl hv (Sg.start S.lg.left rfl) fun h1 m1 tm1 tk1 Z1 T0 => ?_)
  have S1 := S.frame T0
  refine wpAny_execs_cons (st1b (D := D) (by first | exact dD hD rfl | exact dD0 hD rfl | omega) hA (Sg.start S1.lg.left rfl) fun h2 T1 => ?_)
  have S2 := S1.frame T1
  refine wpAny_execs_cons (st2b (D := D) (by first | exact dD hD rfl | exact dD0 hD rfl | omega) hA (Sg.start S2.lg.left rfl) fun h3 T2 => ?_)
  have S3 := S2.frame T2
  obtain ⟨p, hp, hs⟩ := start_of 1 m1
  have ho := mode_nn 24747 m1
  generalize modeOf 24747 m1 = o1 at S3 ho
  generalize startOf 1 m1 = s1 at S3 hs
  obtain ⟨n, sz0, p0, F⟩ := fit (bitQ o1 (p + 6)) (bitQ o1 (p + 5)) (bitQ o1 (p + 4)) (bitQ o1 (p + 3)) (bitQ o1 (p + 2)) (bitQ o1 (p + 1))
  refine wpAny_execs_cons (st3b (D := D) (by first | exact dD hD rfl | exact dD0 hD rfl | omega) hA (Sg.start S3.lg.left rfl) hp hs rfl rfl rfl rfl rfl rfl fun h4 tk4 Z4 t41 t42 T3 => ?_)
  have S4 := S3.frame T3
  refine wpAny_execs_cons (st4b (D := D) (c2 := none) (c3 := none) (by first | exact dD hD rfl | exact dD0 hD rfl | omega) hA (Sg.start S4.lg.left rfl) fun h5 T4 => ?_)
  have S5 := S4.frame T4
  rw [F.sum] at S5
  refine wpAny_execs_cons (st5b (D := D) (by first | exact dD hD rfl | exact dD0 hD rfl | omega) hA (Sg.start S5.lg.left rfl) ho hp hs rfl rfl rfl rfl rfl rfl F.okf fun h6 tk6 t6 tk62 Z6 T5 => ?_)
  have S6 := S5.frame T5
  refine wpAny_execs_cons (st6b (D := D) (by first | exact dD hD rfl | exact dD0 hD rfl | omega) hA (Sg.start S6.lg.left rfl) F.two F.lim F.jok F.glu fun h7 tk7 Z7 T6 => ?_)
  have S7 := S6.frame T6
  refine wpAny_execs_cons (st7b (D := D) (by first | exact dD hD rfl | exact dD0 hD rfl | omega) hA (Sg.start S7.lg.left rfl) F.two F.lim F.hs0 fun h8 tk8 Z8 t8 T7 => ?_)
  have S8 := S7.frame T7
  refine wpAny_execs_cons (st8b (D := D) hD hA S8 F.two F.lim F.len F.oks F.run F.lt F.hp fun h9 tk9 Z9 S9 => ?_)
  exact wpAny_execs_nil (hQ h9 _ _ _ _ _ _ _ _ _ _ _ _ _ _ _ _ _ _ _ _ _ _ _ _ _ _ S9)
end Mine
end
section
namespace Mine
set_option maxHeartbeats 8000000
noncomputable def lawC (N : Nat) : Code := .forLoop (forTg lawF) (.ref (N + 7)) (forBd lawF) [] (lawEnv N)
noncomputable def hItK : List Hm := [.go [.ld 68], .cl none, .go [.ld 68], .ag none, .go [.ld 68, .ld 68, .ld 68, .ld 68, .up 68, .ld 68, .up 68, .fr], .rt]
noncomputable def hAsK : List Hm := [.go [.fr, .ld 61, .up 61]]
noncomputable def hLawE : List Hm := [.go [.ld 68], .cl none, .go [.ld 68], .ag none, .go [.ld 68, .ld 68, .ld 68, .al, .al], .hd, .rt, .go [.ld 75], .ag none, .rt]
theorem law_call {D : Nat} {w : World} {h : Heap} {g : Array GenState} {d : Drawn} {tk : Nat} {os : OsState} {N : Nat} {A : Around} {R : Result → Shared → Prop} {sc : Addr} {vs : List Value} {e : Nat}
    (hD : D ≤ 400) (hA : Bd D A) (hl : vs.length < 64) (hv : ∀ (j : Nat) (v : Value), vs[j]? = some v → ∃ i t, v = .int i t) (H : Lg (LW w (tabO []) (tabO []) sc (scO vs e)) h) (hN : h.objs.size = N)
    (hR : ∀ h' tk' mm kn Z', Sg (LW w (tabO []) (tabO []) sc (scO vs e)) h (LW w (cmT mm) (t37 kn) sc (scO vs e)) Z' h' → R (.ok (.ret (.bool true))) ⟨h', g, d, tk', os⟩) :
    codeAny (model PG w) A (.call (.ref 124) ⟨[.ref sc], []⟩) R ⟨h, g, d, tk, os⟩ := by
  have S : Sg (LW w (tabO []) (tabO []) sc (scO vs e)) h (LW w (tabO []) (tabO []) sc (scO vs e)) N h := Sg.start H hN
  refine opCode (some (1, 2)) (fnT w 124 [.ref sc]) 1 [124, 123] (by first | exact dD hD rfl | exact dD0 hD rfl | omega) hA S (by kernel_rfl) fun A1 a1 W hW => ?_
  refine opM hW (by first | exact dD hD rfl | exact dD0 hD rfl | omega) a1 S 0 hLawA (List.range 69) [] (lawC N) (LD w (tabO []) (tabO []) sc (scO vs e) N (lfr w []) (some (.ref sc)) none none none none (rgO 0 (tk + 1) 2 tk 1 (tk + 2)) (rgItO 0 2 1)) (N + 8) (tk + 3) (fun b => by cases b <;> kernel_rfl) (by decide) .nil fun W1 hW1 h1 S1 A3 a3 => ?_
  refine forStep ?_
  refine opTop (D := D + 60) fun W hW => ?_
  refine opX hW (by first | exact dD hD rfl | exact dD0 hD rfl | omega) a3 S1 0 hItK (List.range 69) [] (some (.int 0 (tk + 3))) (LD w (tabO []) (tabO []) sc (scO vs e) N (lfr w []) (some (.ref sc)) none none none none (rgO 0 (tk + 1) 2 tk 1 (tk + 2)) (rgItO 1 1 1)) (N + 8) (tk + 4) (fun b => by cases b <;> kernel_rfl) (by decide) .nil fun h2 S2 => ?_
  dsimp only
  refine opTop (D := D + 60) fun W hW => ?_
  refine opX hW (by first | exact dD hD rfl | exact dD0 hD rfl | omega) a3 S2 0 [] (List.range 69) [] () (LD w (tabO []) (tabO []) sc (scO vs e) N (lfr w []) (some (.ref sc)) none none none none (rgO 0 (tk + 1) 2 tk 1 (tk + 2)) (rgItO 1 1 1)) (N + 8) (tk + 4) (fun b => by cases b <;> kernel_rfl) (by decide) .nil fun h3 S3 => ?_
  refine opTop (D := D + 60) fun W hW => ?_
  refine opX hW (by first | exact dD hD rfl | exact dD0 hD rfl | omega) a3 S3 0 hAsK (List.range 69) [] () (LD w (tabO []) (tabO []) sc (scO vs e) N (lfr w [("k", tk + 4, .int 0 (tk + 3))]) (some (.ref sc)) none none none none (rgO 0 (tk + 1) 2 tk 1 (tk + 2)) (rgItO 1 1 1)) (N + 8) (tk + 5) (fun b => by cases b <;> kernel_rfl) (by decide) .nil fun h4 S4 => ?_
  refine bodya (D := D + 60) (by first | exact dD hD rfl | exact dD0 hD rfl | omega) a3 hl hv S4 fun h5 tk5 Z5 m5 o5 s5 f5 q5 n5 z5 km tm ko to ks ts kl tx tf tq tn tz x5 kn ku mm mu S5 => ?_
  dsimp only
  refine forStep ?_
  refine opTop (D := D + 60) fun W hW => ?_
  refine opX hW (by first | exact dD hD rfl | exact dD0 hD rfl | omega) a3 S5 0 hItK (List.range 74) [] (some (.int 1 tk5)) (LD w (cmT mm) (t37 kn) sc (scO vs e) N (lfr w [("k", tk + 4, .int 0 (tk + 3)), ("more", km, .int m5 tm), ("mode", ko, .int o5 to), ("start", ks, .int s5 ts), ("told", kl, .str x5 tx)]) (some (.ref sc)) (some (.int f5 tf)) (some (.int q5 tq)) (some (.int n5 tn)) (some (.int z5 tz)) (rgO 0 (tk + 1) 2 tk 1 (tk + 2)) (rgItO 2 0 1) ++ EX kn ku mm mu) Z5 (tk5 + 1) (fun b => by cases b <;> kernel_rfl) (by decide) .nil fun h6 S6 => ?_
  dsimp only
  refine opTop (D := D + 60) fun W hW => ?_
  refine opX hW (by first | exact dD hD rfl | exact dD0 hD rfl | omega) a3 S6 0 [] (List.range 74) [] () (LD w (cmT mm) (t37 kn) sc (scO vs e) N (lfr w [("k", tk + 4, .int 0 (tk + 3)), ("more", km, .int m5 tm), ("mode", ko, .int o5 to), ("start", ks, .int s5 ts), ("told", kl, .str x5 tx)]) (some (.ref sc)) (some (.int f5 tf)) (some (.int q5 tq)) (some (.int n5 tn)) (some (.int z5 tz)) (rgO 0 (tk + 1) 2 tk 1 (tk + 2)) (rgItO 2 0 1) ++ EX kn ku mm mu) Z5 (tk5 + 1) (fun b => by cases b <;> kernel_rfl) (by decide) .nil fun h7 S7 => ?_
  refine opTop (D := D + 60) fun W hW => ?_
  refine opX hW (by first | exact dD hD rfl | exact dD0 hD rfl | omega) a3 S7 0 hAsK (List.range 74) [] () (LD w (cmT mm) (t37 kn) sc (scO vs e) N (lfr w [("k", tk + 4, .int 1 tk5), ("more", km, .int m5 tm), ("mode", ko, .int o5 to), ("start", ks, .int s5 ts), ("told", kl, .str x5 tx)]) (some (.ref sc)) (some (.int f5 tf)) (some (.int q5 tq)) (some (.int n5 tn)) (some (.int z5 tz)) (rgO 0 (tk + 1) 2 tk 1 (tk + 2)) (rgItO 2 0 1) ++ EX kn ku mm mu) Z5 (tk5 + 2) (fun b => by cases b <;> kernel_rfl) (by decide) .nil fun h8 S8 => ?_
  refine bodyb (D := D + 60) (by first | exact dD hD rfl | exact dD0 hD rfl | omega) a3 hl hv S8 fun h9 tk9 Z9 m9 o9 s9 f9 q9 n9 z9 km tm ko to ks ts kl tx tf tq tn tz x9 kn ku mm mu S9 => ?_
  dsimp only
  refine opCode (D := D + 60) none (denF (lawC N)) 0 [] (by first | exact dD hD rfl | exact dD0 hD rfl | omega) a3 S9 (by kernel_rfl) fun A4 a4 W4 hW4 => ?_
  refine opX hW4 (by first | exact dD hD rfl | exact dD0 hD rfl | omega) a4 S9 0 hLawE (List.range 69) [] (.ok .next) (LD w (cmT mm) (t37 kn) sc (scO vs e) N (lfr w [("k", tk + 4, .int 1 tk5), ("more", km, .int m9 tm), ("mode", ko, .int o9 to), ("start", ks, .int s9 ts), ("told", kl, .str x9 tx)]) (some (.ref sc)) (some (.int f9 tf)) (some (.int q9 tq)) (some (.int n9 tn)) (some (.int z9 tz)) (rgO 0 (tk + 1) 2 tk 1 (tk + 2)) (rgItO 2 0 1)) (Z9 + 2) tk9 (fun b => by cases b <;> kernel_rfl) (by decide) .nil fun h10 S10 => ?_
  exact opX (hW1 _) (by first | exact dD hD rfl | exact dD0 hD rfl | omega) a1 S10 0 [.rt] (List.range 61) [] (.ok (.ret (.bool true))) (LW w (cmT mm) (t37 kn) sc (scO vs e)) (Z9 + 2) tk9 (fun b => by cases b <;> kernel_rfl) (by decide) .nil fun h' S' => hR h' _ _ _ _ S'
end Mine
end
open PySem PySem.W PySem.W.X PySem.W.ZRun PySem.Calls PyProof.Rows
namespace Mine
set_option maxHeartbeats 8000000
theorem all_at {h : Heap} : ∀ {K : Frag} {a : Nat} {o : Obj}, AllIn h K → K.lookup a = some o → h.get? a = some o
  | [], _, _, _, e => by cases e
  | (b, x) :: K, a, o, A, e => by
    rw [List.lookup_cons] at e
    split at e
    · rename_i q
      have q' : a = b := eq_of_beq q
      cases e
      subst q'
      exact A.1
    · exact all_at A.2 e
noncomputable def topAs : List Nat := [2, 124, 123, 3, 0, 4, 112, 111, 51, 50, 44, 105, 104, 35, 34, 28, 27, 119, 118, 42, 41, 98, 97, 58, 57, 91, 66, 68, 70, 74, 76, 78, 82, 84, 86, 90, 59, 60, 61, 62, 63, 64, 65, 67, 69, 71, 72, 73, 75, 77, 79, 80, 81, 83, 85, 87, 88, 89]
theorem LS_eq (w : World) : LS w = topAs.map fun a => (a, ob w a) := rfl
theorem top_all (w : World) : (topAs.all fun a => ((hdz.heap_163 w.params).lookup a).isSome) = true := by kernel_rfl
theorem ob_of {w : World} {h : Heap} {a : Nat} (A : AllIn h (hdz.heap_163 w.params)) (hs : ((hdz.heap_163 w.params).lookup a).isSome = true) : h.get? a = some (ob w a) := by
  obtain ⟨o, e⟩ := Option.isSome_iff_exists.mp hs
  have : ob w a = o := by unfold ob; rw [e]; rfl
  rw [this]
  exact all_at A e
theorem lg_top {w : World} {h0 h : Heap} {so : Obj} (A : AllIn h0 (hdz.heap_163 w.params)) (k : ∀ b o, h0.get? b = some o → h.get? b = some o) (hs : h.get? 125 = some so) : Lg (LW w (tabO []) (tabO []) 125 so) h := by
  have e114 : h0.get? 114 = some (tabO []) := all_at A (by kernel_rfl)
  have e37 : h0.get? 37 = some (tabO []) := all_at A (by kernel_rfl)
  refine ⟨fun p hp => ?_, ?_⟩
  · unfold LW at hp
    rw [List.mem_append, LS_eq] at hp
    rcases hp with hp | hp
    · obtain ⟨a, ha, rfl⟩ := List.mem_map.mp hp
      exact k _ _ (ob_of A (List.all_eq_true.mp (top_all w) a ha))
    · simp only [List.mem_cons, List.not_mem_nil, or_false] at hp
      rcases hp with rfl | rfl | rfl
      · exact k _ _ e114
      · exact k _ _ e37
      · exact hs
  · show (topAs ++ [114, 37, 125]).Nodup
    decide
theorem old_top {w : World} {h h' : Heap} {sc : Addr} {so : Obj} {mm kn Z : Nat} (H : Lg (LW w (tabO []) (tabO []) sc so) h) (S : Sg (LW w (tabO []) (tabO []) sc so) h (LW w (cmT mm) (t37 kn) sc so) Z h') : OldK h h' := by
  have t114 : isCodeTable h 114 := ⟨118, ob w 118, fsOf (ob w 118), H.get (i := 18) rfl, by kernel_rfl, by kernel_rfl, by kernel_rfl⟩
  have t37' : isCodeTable h 37 := ⟨41, ob w 41, fsOf (ob w 41), H.get (i := 20) rfl, by kernel_rfl, by kernel_rfl, by kernel_rfl⟩
  have g114 : h.get? 114 = some (tabO []) := H.get (i := 58) rfl
  have g37 : h.get? 37 = some (tabO []) := H.get (i := 59) rfl
  have n114 : h'.get? 114 = some (cmT mm) := S.lg.get (i := 58) rfl
  have n37 : h'.get? 37 = some (t37 kn) := S.lg.get (i := 59) rfl
  have all : ∀ b o, h.get? b = some o → b = 114 ∨ b = 37 ∨ h'.get? b = some o := fun b o e => by
    by_cases hb : b ∈ (LW w (tabO []) (tabO []) sc so).map (·.1)
    · obtain ⟨p, hp, rfl⟩ := List.mem_map.mp hb
      have e2 := H.at_ p hp
      rw [e] at e2
      cases e2
      unfold LW at hp
      rw [List.mem_append] at hp
      rcases hp with hp | hp
      · exact .inr (.inr (S.lg.at_ p (List.mem_append_left _ hp)))
      · simp only [List.mem_cons, List.not_mem_nil, or_false] at hp
        rcases hp with rfl | rfl | rfl
        · exact .inl rfl
        · exact .inr (.inl rfl)
        · exact .inr (.inr (S.lg.get (i := 60) rfl))
    · exact .inr (.inr (S.kp b o e hb))
  refine ⟨fun b o e => ?_, fun b o e => ?_⟩
  · rcases all b o e with rfl | rfl | x
    · rw [g114] at e
      cases e
      exact .inr (.inl ⟨t114, rfl, #[], #[.int 123 0, .int 4 0, .ref (mm + 9)], rfl, n114⟩)
    · rw [g37] at e
      cases e
      exact .inr (.inl ⟨t37', rfl, #[], #[.int 29 0, .int 4 0, .ref (kn + 7)], rfl, n37⟩)
    · exact .inl x
  · rcases all b o e with rfl | rfl | x
    · exact ⟨_, n114⟩
    · exact ⟨_, n37⟩
    · exact ⟨o, x⟩
theorem vs_ints {vs : List Value} {xs : List Int} (h : IntsAre vs xs) : ∀ (j : Nat) (v : Value), vs[j]? = some v → ∃ i t, v = .int i t := by
  intro j v e
  have hl := h.length
  obtain ⟨hj, _⟩ := List.getElem?_eq_some_iff.mp e
  obtain ⟨t, q⟩ := h.get j _ (List.getElem?_eq_getElem (hl ▸ hj))
  rw [e] at q
  exact ⟨_, t, Option.some.inj q⟩
theorem bd_caller : Bd 400 callerA := ⟨by decide, by decide, rfl⟩
end Mine
theorem PySem.Challenge.cw_op0083_01_holds : PySem.Challenge.rw_op0083_01.Holds := by
  refine Mine.hdz ?_
  k_fill
  intro w s₀ s₁ mg mb G y fa o pm cd doc dV kV ho hd hcd hD hmg hg args vals as L hpre hlay hrd hwl hlo
  obtain ⟨ZA, ZI, ZN, ZT⟩ := z_facts (K := Mine.hdz.heap_163) (fun P => by kernel_rfl) y
  have KX : (Mine.hdz.heap_163 w.params).In s₁.heap := InK.keeps w s₀.heap s₁.heap ZI (Laid.keeps L)
  refine Ground.open G ?_
  intro T B D TE TW
  wrow_args hpre hlay hrd hwl hlo
  obtain ⟨hat, hsz⟩ := script_at L
  have htk := script_toks L ZT
  rw [ZN] at hat hsz
  subst hat
  clear hd hcd hD y G
  x_fa T KX hmg
  clear hmg ho
  all_lens
  rename_i _ _ _ _ _ _ _ vs _ _ _ hcond _ hL _ _ hi hb
  have hln : vs.length < 64 := by omega
  have hv := Mine.vs_ints hi
  have hs := script_obj L hL
  have H := Mine.lg_top (w := w) ZA (Laid.keeps L) (so := Mine.scO vs 0) hs
  clear KX T B D TE TW hcond hb
  obtain ⟨h, g, d, tk, os⟩ := s₁
  refine wpAny_call (Mine.law_call (D := 400) (w := w) (by omega) Mine.bd_caller hln hv H rfl fun h' tk' mm kn Z' S => ?_)
  exact ⟨.inl ⟨_, _, [], rfl, fun _ => rfl, ReadsW.bool true, by kernel_rfl, fun _ => ⟨List.nodup_nil, fun _ hm => (nomatch hm)⟩⟩, Mine.old_top H S, rfl, AllBare.of_eq hg⟩
