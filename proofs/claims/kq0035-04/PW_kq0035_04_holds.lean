import PyProof.Rows.All
import Wide.All
import OpenK.AllK
import Wide.FinOn
import Lean
import PySem.Challenge.RW_kq0035_04
open PySem PySem.W PyProof.Rows
set_option maxRecDepth 100000
set_option Elab.async false
set_option linter.all false
set_option compiler.extract_closed false
set_option maxHeartbeats 1000000
namespace Mine
section
noncomputable def goT (p : Program) (w : World) : Nat → SharedT → Thread → Option (SharedT × Thread)
  | 0, S, t => some (S, t)
  | n + 1, S, t => match t.stack.isEmpty with
    | true => none
    | false => match stepOk 63 (some (.ref 6)) t with
      | false => none
      | true => match stepT (denote treeTable) p w S t with
        | some (S', t') => goT p w n S' t'
        | none => none
noncomputable def goQ (p : Program) (w : World) : Nat → SharedT → Thread → Option (SharedT × Thread)
  | 0, S, t => some (S, t)
  | n + 1, S, t => match t.stack.isEmpty with
    | true => none
    | false => match PySem.W.Fast.tw6613529449190102663 63 (some (.ref 6)) t with
      | false => none
      | true => match PySem.W.Fast.tw10156331382660048174 (PySem.W.Fast.tw11892475500146522536 PySem.W.Fast.tw14364793385576792824) p w S t with
        | some (S', t') => goQ p w n S' t'
        | none => none
theorem goQ_eq (p : Program) (w : World) : ∀ n S t, goQ p w n S t = goT p w n S t
  | 0, _, _ => rfl
  | n + 1, S, t => by
    unfold goQ goT
    rw [← PySem.W.Fast.te6613529449190102663, ← PySem.W.Fast.te10156331382660048174, ← PySem.W.Fast.te11892475500146522536, ← PySem.W.Fast.te14364793385576792824]
    cases t.stack.isEmpty with
    | true => rfl
    | false =>
      cases stepOk 63 (some (.ref 6)) t with
      | false => rfl
      | true =>
        cases stepT (denote treeTable) p w S t with
        | none => rfl
        | some r => obtain ⟨S', t'⟩ := r; exact goQ_eq p w n S' t'
theorem goT_add {p : Program} {w : World} : ∀ {n m S t S' t' r}, goT p w n S t = some (S', t') → goT p w m S' t' = r → goT p w (n + m) S t = r
  | 0, m, S, t, S', t', r, h, k => by
    obtain ⟨rfl, rfl⟩ : S = S' ∧ t = t' := by simpa [goT] using h
    rw [Nat.zero_add]; exact k
  | n + 1, m, S, t, S', t', r, h, k => by
    rw [show n + 1 + m = n + m + 1 by omega]
    unfold goT at h ⊢
    cases he : t.stack.isEmpty with
    | true => rw [he] at h; cases h
    | false =>
      rw [he] at h
      cases hk : stepOk 63 (some (.ref 6)) t with
      | false => rw [hk] at h; cases h
      | true =>
        rw [hk] at h
        cases hs : stepT (denote treeTable) p w S t with
        | none => rw [hs] at h; cases h
        | some r' => obtain ⟨S₂, t₂⟩ := r'; rw [hs] at h; exact goT_add h k
def RT (p : Program) (w : World) (S : SharedT) (t : Thread) (S' : SharedT) (t' : Thread) : Prop := ∃ n, goT p w n S t = some (S', t')
theorem RT.refl {p w} (S : SharedT) (t : Thread) : RT p w S t S t := ⟨0, rfl⟩
theorem RT.trans {p w S t S' t' S'' t''} (a : RT p w S t S' t') (b : RT p w S' t' S'' t'') : RT p w S t S'' t'' := by
  obtain ⟨n, hn⟩ := a; obtain ⟨m, hm⟩ := b; exact ⟨n + m, goT_add hn hm⟩
theorem RT.ofQ {p w n S t S' t'} (h : goQ p w n S t = some (S', t')) : RT p w S t S' t' := ⟨n, by rw [← goQ_eq]; exact h⟩
theorem goT_top {p : Program} {w : World} : ∀ {n S t S' t' N r}, goT p w n S t = some (S', t') → topRun treeTable p w 63 (some (.ref 6)) N S'.abs t' = some r → topRun treeTable p w 63 (some (.ref 6)) (n + N) S.abs t = some r
  | 0, S, t, S', t', N, r, h, k => by
    obtain ⟨rfl, rfl⟩ : S = S' ∧ t = t' := by simpa [goT] using h
    rw [Nat.zero_add]; exact k
  | n + 1, S, t, S', t', N, r, h, k => by
    rw [show n + 1 + N = n + N + 1 by omega]
    unfold goT at h
    unfold topRun
    cases he : t.stack.isEmpty with
    | true => rw [he] at h; cases h
    | false =>
      rw [he] at h
      have ht : through t = false := by unfold through; rw [he]; rfl
      rw [ht]
      cases hk : stepOk 63 (some (.ref 6)) t with
      | false => rw [hk] at h; cases h
      | true =>
        rw [hk] at h
        cases hs : stepT (denote treeTable) p w S t with
        | none => rw [hs] at h; cases h
        | some r' => obtain ⟨S₂, t₂⟩ := r'; rw [hs] at h; dsimp only; rw [stepT_spec hs]; exact goT_top h k
def sv {α : Type} (p : Program) (w : World) : Sem α → SharedT → (α → SharedT → Prop) → Prop
  | .pure a, S, Q => Q a S
  | .rule _ k, S, Q => sv p w (k ()) S Q
  | .at _ k, S, Q => sv p w (k ()) S Q
  | .load a _ k, S, Q => a < S.n ∧ ∃ o, S.tree.get a = some o ∧ alive o = some o ∧ sv p w (k o) S Q
  | .update a _ f k, S, Q => (63 ≤ a ∧ a < S.n) ∧ ∃ o, S.tree.get a = some o ∧ alive o = some o ∧ sv p w (k ()) { S with tree := S.tree.set a f } Q
  | .alloc o k, S, Q => ((S.tree.ins S.n o).get S.n).isSome = true ∧ sv p w (k S.n) { S with tree := S.tree.ins S.n o, n := S.n + 1 } Q
  | .point _ k, S, Q => sv p w (k ()) S Q
  | .fresh k, S, Q => sv p w (k S.toks) { S with toks := S.toks + 1 } Q
  | .ask k, S, Q => sv p w (k ⟨p, w.params⟩) S Q
  | .raise _, _, _ | .unsupported _, _, _ | .finish _, _, _ | .loadIfAlive .., _, _ | .register .., _, _ | .choose .., _, _ | .os .., _, _ | .call .., _, _ | .handled .., _, _ | .newGen .., _, _ | .genState .., _, _ | .resume .., _, _
  | .yield .., _, _ | .stack .., _, _ | .fork .., _, _ | .thread .., _, _ | .await .., _, _ => False
theorem sv_mono {α : Type} {p : Program} {w : World} (m : Sem α) : ∀ (S : SharedT) (Q Q' : α → SharedT → Prop), sv p w m S Q → (∀ a S', Q a S' → Q' a S') → sv p w m S Q' := by
  induction m <;> intro S Q Q' h hq
  case pure a => exact hq _ _ h
  case rule t k ih => exact ih () S Q Q' h hq
  case «at» t k ih => exact ih () S Q Q' h hq
  case load a q k ih => obtain ⟨l, o, h1, h2, h3⟩ := h; exact ⟨l, o, h1, h2, ih o S Q Q' h3 hq⟩
  case update a q f k ih => obtain ⟨l, o, h1, h2, h3⟩ := h; exact ⟨l, o, h1, h2, ih () _ Q Q' h3 hq⟩
  case alloc o k ih => exact ⟨h.1, ih _ _ Q Q' h.2 hq⟩
  case point l k ih => exact ih () S Q Q' h hq
  case fresh k ih => exact ih _ _ Q Q' h hq
  case ask k ih => exact ih _ _ Q Q' h hq
  all_goals exact h.elim
theorem sv_bind {α β : Type} {p : Program} {w : World} (m : Sem α) (f : α → Sem β) : ∀ (S : SharedT) (Q : β → SharedT → Prop), sv p w m S (fun a S' => sv p w (f a) S' Q) → sv p w (m.bind f) S Q := by
  induction m <;> intro S Q h
  case pure a => exact h
  case rule t k ih => exact ih () S Q h
  case «at» t k ih => exact ih () S Q h
  case load a q k ih => obtain ⟨l, o, h1, h2, h3⟩ := h; exact ⟨l, o, h1, h2, ih o S Q h3⟩
  case update a q g k ih => obtain ⟨l, o, h1, h2, h3⟩ := h; exact ⟨l, o, h1, h2, ih () _ Q h3⟩
  case alloc o k ih => exact ⟨h.1, ih _ _ Q h.2⟩
  case point l k ih => exact ih () S Q h
  case fresh k ih => exact ih _ _ Q h
  case ask k ih => exact ih _ _ Q h
  all_goals exact h.elim
theorem goT_one {p : Program} {w : World} {S S' : SharedT} {cur : Sem Fin} {c : Code} {pos : Pos} {F : Frame} {st : List Frame} {t' : Thread} (hk : stepOk 63 (some (.ref 6)) ⟨cur, c, pos, F :: st⟩ = true)
    (hs : stepT (denote treeTable) p w S ⟨cur, c, pos, F :: st⟩ = some (S', t')) : RT p w S ⟨cur, c, pos, F :: st⟩ S' t' := by
  refine ⟨1, ?_⟩
  unfold goT
  simp only [List.isEmpty_cons]
  rw [hk]
  simp only [hs]
  rfl
theorem sv_go {α : Type} {p : Program} {w : World} {f : α → Sem Fin} {c : Code} {F : Frame} {st : List Frame} (m : Sem α) : ∀ (S : SharedT) (Q : α → SharedT → Prop) (pos : Pos), sv p w m S Q →
    ∃ a S' pos', Q a S' ∧ RT p w S ⟨m.bind f, c, pos, F :: st⟩ S' ⟨f a, c, pos', F :: st⟩ := by
  induction m <;> intro S Q pos h
  case pure a => exact ⟨a, S, pos, h, RT.refl _ _⟩
  case rule t k ih =>
    obtain ⟨a, S', pos', h1, h2⟩ := ih () S Q pos h
    exact ⟨a, S', pos', h1, (goT_one rfl rfl).trans h2⟩
  case «at» t k ih =>
    obtain ⟨a, S', pos', h1, h2⟩ := ih () S Q t h
    exact ⟨a, S', pos', h1, (goT_one rfl rfl).trans h2⟩
  case load b q k ih =>
    obtain ⟨l, o, e1, e2, h3⟩ := h
    obtain ⟨a, S', pos', h1, h2⟩ := ih o S Q pos h3
    refine ⟨a, S', pos', h1, (goT_one (t' := ⟨(k o).bind f, c, pos, F :: st⟩) (S' := S) rfl ?_).trans h2⟩
    obtain ⟨T, n, life, gens, drawn, toks, os⟩ := S
    have hb : Nat.blt b n = true := Nat.ble_eq_true_of_le l
    simp only [Sem.bind, stepT]
    dsimp only at e1
    rw [hb, e1]; dsimp only; rw [e2]
  case update b q g k ih =>
    obtain ⟨⟨l0, l⟩, o, e1, e2, h3⟩ := h
    obtain ⟨a, S', pos', h1, h2⟩ := ih () _ Q pos h3
    refine ⟨a, S', pos', h1, (goT_one (t' := ⟨(k ()).bind f, c, pos, F :: st⟩) (S' := { S with tree := S.tree.set b g }) ?_ ?_).trans h2⟩
    · have : Nat.ble 63 b = true := Nat.ble_eq_true_of_le l0
      simp only [Sem.bind, stepOk, this, Bool.true_or]
      rfl
    · obtain ⟨T, n, life, gens, drawn, toks, os⟩ := S
      have hb : Nat.blt b n = true := Nat.ble_eq_true_of_le l
      simp only [Sem.bind, stepT]
      dsimp only at e1
      rw [hb, e1]; dsimp only; rw [e2]
  case alloc o k ih =>
    obtain ⟨a, S', pos', h1, h2⟩ := ih _ _ Q pos h.2
    refine ⟨a, S', pos', h1, (goT_one (t' := ⟨(k S.n).bind f, c, pos, F :: st⟩) (S' := { S with tree := S.tree.ins S.n o, n := S.n + 1 }) rfl ?_).trans h2⟩
    obtain ⟨T, n, life, gens, drawn, toks, os⟩ := S
    simp only [Sem.bind, stepT]
    rw [h.1]
  case point l k ih =>
    obtain ⟨a, S', pos', h1, h2⟩ := ih () S Q pos h
    exact ⟨a, S', pos', h1, (goT_one rfl rfl).trans h2⟩
  case fresh k ih =>
    obtain ⟨a, S', pos', h1, h2⟩ := ih _ _ Q pos h
    exact ⟨a, S', pos', h1, (goT_one (S' := { S with toks := S.toks + 1 }) rfl rfl).trans h2⟩
  case ask k ih =>
    obtain ⟨a, S', pos', h1, h2⟩ := ih _ S Q pos h
    exact ⟨a, S', pos', h1, (goT_one rfl rfl).trans h2⟩
  all_goals exact h.elim
end
section
theorem bt_set_const {o : Obj} {f : Obj → Obj} : ∀ {T : BT} {a : Nat}, T.get a = some o → T.set a f = T.set a (fun _ => f o)
  | .nil, a, h => rfl
  | .node v l r, a, h => by
    rw [BT.set_node, BT.set_node]
    rw [BT.get_node] at h
    by_cases h0 : a = 0
    · rw [if_pos h0] at h ⊢; rw [if_pos h0]; cases h; rfl
    · rw [if_neg h0] at h ⊢; rw [if_neg h0]
      by_cases h1 : a % 2 = 1
      · rw [if_pos h1] at h ⊢; rw [if_pos h1, bt_set_const h]
      · rw [if_neg h1] at h ⊢; rw [if_neg h1, bt_set_const h]
theorem bt_set_set {f g : Obj → Obj} : ∀ (T : BT) (a : Nat), (T.set a f).set a g = T.set a (fun o => g (f o))
  | .nil, a => rfl
  | .node v l r, a => by
    rw [BT.set_node, BT.set_node v l r a]
    by_cases h0 : a = 0
    · rw [if_pos h0, if_pos h0, BT.set_node, if_pos h0]
    · rw [if_neg h0, if_neg h0]
      by_cases h1 : a % 2 = 1
      · rw [if_pos h1, if_pos h1, BT.set_node, if_neg h0, if_pos h1, bt_set_set]
      · rw [if_neg h1, if_neg h1, BT.set_node, if_neg h0, if_neg h1, bt_set_set]
noncomputable abbrev setO (es : Array (Int × Value)) (ep : Nat) (t : SetTable) : Obj := ⟨.type "frozenset", none, .set es ep t, #[]⟩
noncomputable abbrev put (S : SharedT) (a : Addr) (o : Obj) : SharedT := { S with tree := S.tree.set a (fun _ => o) }
theorem put_put (S : SharedT) (a : Addr) (o o' : Obj) : put (put S a o) a o' = put S a o' := by
  show ({ S with tree := _ } : SharedT) = { S with tree := _ }
  rw [bt_set_set]
theorem get_put {S : SharedT} {a : Addr} {o o' : Obj} (h : S.tree.get a = some o) : (put S a o').tree.get a = some o' := by
  show (S.tree.set a _).get a = _
  rw [BT.get_set, if_pos rfl, h]; rfl
theorem get_put_ne {S : SharedT} {a b : Addr} {o' : Obj} (h : b ≠ a) : (put S a o').tree.get b = S.tree.get b := by
  show (S.tree.set a _).get b = _
  rw [BT.get_set, if_neg h]
noncomputable def ent (w : World) (x : Nat × Tok) : Int × Value := (PyData.keyHash w.params ⟨#[x.1]⟩, .str ⟨#[x.1]⟩ x.2)
def SOk (w : World) (es : Array (Int × Value)) (t : SetTable) (l : List (Nat × Tok)) : Prop := es.toList.Perm (l.map (ent w)) ∧ t.fits es.size = true
theorem SOk.size {w es t l} (h : SOk w es t l) : es.size = l.length := by
  rw [← Array.length_toList, h.1.length_eq, List.length_map]
theorem SOk.nil (w : World) (fi mo : Nat) (led : Bool) : SOk w #[] (SetTable.fresh fi mo led) [] := ⟨List.Perm.nil, rfl⟩
section
variable {p : Program} {w : World} {S : SharedT} {a : Addr} {es : Array (Int × Value)} {ep : Nat} {t : SetTable} {l : List (Nat × Tok)}
theorem sv_setState {Q} (ha : a < S.n) (ho : S.tree.get a = some (setO es ep t)) (hf : t.fits es.size = true) (h : Q (es, ep, t) S) : sv p w (setState a) S Q := by
  unfold setState
  refine ⟨ha, _, ho, rfl, ?_⟩
  dsimp only
  have hc : (t.place.size != es.size || decide (t.fill > t.mask)) = false := by
    simp only [SetTable.fits, Bool.and_eq_true, beq_iff_eq, decide_eq_true_eq] at hf
    simp [hf.1, Nat.not_lt.mpr hf.2]
  show sv p w (if (t.place.size != es.size || decide (t.fill > t.mask)) = true then _ else _) S Q
  rw [hc, if_neg (by decide)]
  exact h
theorem sv_setEntries {Q} (ha : a < S.n) (ho : S.tree.get a = some (setO es ep t)) (hf : t.fits es.size = true) (h : Q es S) : sv p w (setEntries a) S Q := by
  unfold setEntries
  exact sv_bind _ _ S Q (sv_setState ha ho hf h)
theorem sv_setEpoch {Q} (ha : a < S.n) (ho : S.tree.get a = some (setO es ep t)) (hf : t.fits es.size = true) (h : Q ep S) : sv p w (setEpoch a) S Q := by
  unfold setEpoch
  exact sv_bind _ _ S Q (sv_setState ha ho hf h)
theorem sv_storeSet {es' : Array (Int × Value)} {t' : SetTable} {Q} (h0 : 63 ≤ a) (ha : a < S.n) (ho : S.tree.get a = some (setO es ep t)) (hz : es'.size ≤ sizeLine) (h : Q () (put S a (setO es' (ep + 1) t'))) : sv p w (storeSet a es' t') S Q := by
  unfold storeSet
  refine ⟨ha, _, ho, rfl, ?_⟩
  dsimp only
  show sv p w (if es'.size > sizeLine then _ else _) S Q
  rw [if_neg (Nat.not_lt.mpr hz)]
  refine ⟨⟨h0, ha⟩, _, ho, rfl, ?_⟩
  show Q () _
  rw [bt_set_const ho]
  exact h
theorem SOk.ofMem (h : SOk w es t l) (e : Int × Value) (he : e ∈ es.toList) : ∃ x ∈ l, e = ent w x := by
  have := h.1.mem_iff.mp he
  obtain ⟨x, hx, rfl⟩ := List.mem_map.mp this
  exact ⟨x, hx, rfl⟩
theorem SOk.scan (h : SOk w es t l) : es.all (fun e => e.2.scannable) = true := by
  rw [← Array.all_toList, List.all_eq_true]
  intro e he
  obtain ⟨x, _, rfl⟩ := h.ofMem e he
  rfl
theorem SOk.strs (h : SOk w es t l) : es.all (fun e => isExactStrKey e.2) = true := by
  rw [← Array.all_toList, List.all_eq_true]
  intro e he
  obtain ⟨x, _, rfl⟩ := h.ofMem e he
  rfl
theorem SOk.byScan (h : SOk w es t l) {x : Str} {tk : Tok} (hl : l.length < 4096) : PySem.byScan (.str x tk) es = true := by
  unfold PySem.byScan
  rw [h.scan]
  have : es.size < scanBound := by rw [h.size]; exact hl
  simp [this, Value.scannable]
theorem SOk.absent (h : SOk w es t l) {c : Nat} (hc : ∀ x ∈ l, x.1 ≠ c) : es.findIdx? (fun e => e.2.isStr ⟨#[c]⟩) = none := by
  have hidx : es.findIdx? (fun e => e.2.isStr ⟨#[c]⟩) = es.toList.findIdx? (fun e => e.2.isStr ⟨#[c]⟩) := by cases es; simp
  rw [hidx, List.findIdx?_eq_none_iff]
  intro e he
  obtain ⟨x, hx, rfl⟩ := h.ofMem e he
  have := hc x hx
  show (Str.mk #[x.1] == Str.mk #[c]) = false
  rw [beq_eq_false_iff_ne]
  intro q
  injection q with q
  have q2 := congrArg Array.toList q
  simp at q2
  exact this q2
theorem sv_setAdd {c : Nat} {tk : Tok} {Q : Bool → SharedT → Prop} (h0 : 63 ≤ a) (ha : a < S.n) (ho : S.tree.get a = some (setO es ep t)) (hS : SOk w es t l) (hl : l.length < 1000) (hc : ∀ x ∈ l, x.1 ≠ c)
    (h : ∀ es' ep' t', SOk w es' t' ((c, tk) :: l) → Q true (put S a (setO es' ep' t'))) : sv p w (setAddHashed a (.str ⟨#[c]⟩ tk) (PyData.keyHash w.params ⟨#[c]⟩)) S Q := by
  show sv p w (setAddHashedIn a (.str ⟨#[c]⟩ tk) (PyData.keyHash w.params ⟨#[c]⟩) 100000) S Q
  have hz : es.size < 1000 := by rw [hS.size]; exact hl
  unfold setAddHashedIn
  refine sv_bind _ _ S Q (sv_setState ha ho hS.2 ?_)
  dsimp only
  rw [hS.byScan (Nat.lt_of_lt_of_le hl (by decide)), if_pos rfl]
  refine sv_bind _ _ S Q ?_
  unfold setAddByScan
  show sv p w ((setScan a (.str ⟨#[c]⟩ tk) _ true es).bind _) S _
  refine sv_bind _ _ S _ ?_
  unfold setScan
  dsimp only
  rw [hS.strs, if_pos rfl]
  unfold setScanStrs
  rw [hS.absent hc]
  show sv p w (Sem.bind _ _) S _
  have hperm := layNew_perm t es (PyData.keyHash w.params ⟨#[c]⟩) (.str ⟨#[c]⟩ tk)
  have hfits := layNew_fits t es (PyData.keyHash w.params ⟨#[c]⟩) (.str ⟨#[c]⟩ tk)
  generalize layNew t es (PyData.keyHash w.params ⟨#[c]⟩) (.str ⟨#[c]⟩ tk) = L at hperm hfits
  obtain ⟨es1, t1, wasDummy, gave⟩ := L
  dsimp only at hperm hfits ⊢
  rw [Array.toList_push] at hperm
  have hok1 : ∀ b, SOk w es1 (if b = true then t1 else { t1 with plain := false }) ((c, tk) :: l) := fun b => ⟨(hperm.trans ((List.Perm.append_right _ hS.1).trans (List.perm_append_singleton _ _))), by cases b <;> exact hfits⟩
  have hz1 : es1.size ≤ sizeLine := by
    rw [← Array.length_toList, hperm.length_eq, List.length_append, Array.length_toList, sizeLine_eq]
    simp only [List.length_cons, List.length_nil]; omega
  have tail : ∀ t2 : SetTable, SOk w es1 t2 ((c, tk) :: l) → sv p w (do
        storeSet a es1 t2
        if (!wasDummy && t2.tooFull) = true then do
            let (es, t, gave) := relayAll t2 es1 (SetTable.grown es1.size)
            (match gave with | true => rule "set.scan.the-table-gave-way" | false => pure ())
            storeSet a es t
            pure (some true)
          else pure (some true)) S (fun r S' => sv p w (match r with | some added => pure added | none => setAddHashedIn a (.str ⟨#[c]⟩ tk) (PyData.keyHash w.params ⟨#[c]⟩) 99999) S' Q) := by
    intro t2 h2
    refine sv_bind _ _ S _ (sv_storeSet h0 ha ho hz1 ?_)
    split
    · have hp := relayAll_perm t2 es1 (SetTable.grown es1.size)
      have hf := relayAll_fits t2 es1 (SetTable.grown es1.size)
      generalize relayAll t2 es1 (SetTable.grown es1.size) = R at hp hf
      obtain ⟨es2, t3, gave2⟩ := R
      dsimp only at hp hf ⊢
      have hz2 : es2.size ≤ sizeLine := by rw [← Array.length_toList, hp.length_eq, Array.length_toList]; exact hz1
      have fin : sv p w (do storeSet a es2 t3; pure (some true)) (put S a (setO es1 (ep + 1) t2)) (fun r S' => sv p w (match r with | some added => pure added | none => setAddHashedIn a (.str ⟨#[c]⟩ tk) (PyData.keyHash w.params ⟨#[c]⟩) 99999) S' Q) := by
        refine sv_bind _ _ _ _ (sv_storeSet h0 ha (get_put ho) hz2 ?_)
        show Q true _
        rw [put_put]
        exact h _ _ _ ⟨hp.trans h2.1, hf⟩
      cases gave2 <;> exact fin
    · exact h _ _ _ h2
  have key : ∀ b : Bool, sv p w (do
        let t := if b then t1 else { t1 with plain := false }
        storeSet a es1 t
        if (!wasDummy && t.tooFull) = true then do
            let (es, t, gave) := relayAll t es1 (SetTable.grown es1.size)
            (match gave with | true => rule "set.scan.the-table-gave-way" | false => pure ())
            storeSet a es t
            pure (some true)
          else pure (some true)) S (fun r S' => sv p w (match r with | some added => pure added | none => setAddHashedIn a (.str ⟨#[c]⟩ tk) (PyData.keyHash w.params ⟨#[c]⟩) 99999) S' Q) := fun b => tail _ (hok1 b)
  have pl : sv p w (do
        let byValue ← if t1.plain = true then hashByValue 8 (.str ⟨#[c]⟩ tk) else pure true
        let t := if byValue then t1 else { t1 with plain := false }
        storeSet a es1 t
        if (!wasDummy && t.tooFull) = true then do
            let (es, t, gave) := relayAll t es1 (SetTable.grown es1.size)
            (match gave with | true => rule "set.scan.the-table-gave-way" | false => pure ())
            storeSet a es t
            pure (some true)
          else pure (some true)) S (fun r S' => sv p w (match r with | some added => pure added | none => setAddHashedIn a (.str ⟨#[c]⟩ tk) (PyData.keyHash w.params ⟨#[c]⟩) 99999) S' Q) := by
    split
    · exact key false
    · exact key true
  cases gave <;> exact pl
end
end
section
noncomputable def lcg (M i : Nat) : Nat := (i * 5 + 1) % (M + 1)
noncomputable def orb (M : Nat) : Nat → Nat → Nat
  | 0, i => i
  | n + 1, i => orb M n (lcg M i)
theorem orb_add (M : Nat) : ∀ a b i, orb M (a + b) i = orb M b (orb M a i)
  | 0, b, i => by rw [Nat.zero_add]; rfl
  | a + 1, b, i => by rw [Nat.add_right_comm]; exact orb_add M a b (lcg M i)
noncomputable def orbL (M : Nat) : Nat → Nat → List Nat
  | 0, _ => []
  | n + 1, i => i :: orbL M n (lcg M i)
theorem orbL_mem (M : Nat) : ∀ n i j, j ∈ orbL M n i → ∃ b, b < n ∧ orb M b i = j
  | 0, _, _, h => by cases h
  | n + 1, i, j, h => by
    rcases List.mem_cons.mp h with rfl | h
    · exact ⟨0, Nat.succ_pos _, rfl⟩
    · obtain ⟨b, hb, e⟩ := orbL_mem M n _ j h
      exact ⟨b + 1, Nat.succ_lt_succ hb, e⟩
noncomputable def coversB (M : Nat) : Bool := (List.range (M + 1)).all (fun j => (orbL M (M + 1) 0).contains j) && orb M (M + 1) 0 == 0
theorem orb_reach {M : Nat} (h : coversB M = true) {i j : Nat} (hi : i < M + 1) (hj : j < M + 1) : ∃ m, m < M + 1 ∧ orb M m i = j := by
  simp only [coversB, Bool.and_eq_true, List.all_eq_true, List.mem_range, beq_iff_eq] at h
  obtain ⟨h1, h2⟩ := h
  obtain ⟨a, ha, ea⟩ := orbL_mem M _ _ _ (List.contains_iff_mem.mp (h1 i hi))
  obtain ⟨b, hb, eb⟩ := orbL_mem M _ _ _ (List.contains_iff_mem.mp (h1 j hj))
  by_cases hab : a ≤ b
  · refine ⟨b - a, Nat.lt_of_le_of_lt (Nat.sub_le ..) hb, ?_⟩
    rw [← ea, ← orb_add, Nat.add_sub_cancel' hab, eb]
  · have hle : a ≤ M + 1 + b := Nat.le_trans (Nat.le_of_lt ha) (Nat.le_add_right ..)
    refine ⟨M + 1 + b - a, Nat.sub_lt_left_of_lt_add hle (by rw [Nat.add_comm a]; exact Nat.add_lt_add_left (Nat.lt_of_not_le hab) _), ?_⟩
    rw [← ea, ← orb_add, Nat.add_sub_cancel' hle, orb_add, h2, eb]
theorem covers7 : coversB 7 = true := by decide +kernel
theorem covers127 : coversB 127 = true := by decide +kernel
noncomputable def walkP (M : Nat) : Nat → Nat → Nat → Nat
  | 0, i, _ => i
  | m + 1, i, q => walkP M m ((i * 5 + 1 + q / 32) % (M + 1)) (q / 32)
theorem walkP_lt {M : Nat} : ∀ m i q, i < M + 1 → walkP M m i q < M + 1
  | 0, _, _, h => h
  | m + 1, i, q, _ => walkP_lt m _ _ (Nat.mod_lt _ (Nat.succ_pos _))
theorem walkP_add {M : Nat} : ∀ a m i q, walkP M (a + m) i q = walkP M m (walkP M a i q) (q / 32 ^ a)
  | 0, m, i, q => by simp [walkP]
  | a + 1, m, i, q => by
    rw [Nat.add_right_comm]
    show walkP M (a + m) _ _ = _
    rw [walkP_add a m]
    show walkP M m (walkP M a _ _) (q / 32 / 32 ^ a) = walkP M m (walkP M a _ _) (q / 32 ^ (a + 1))
    rw [Nat.div_div_eq_div_mul, show 32 * 32 ^ a = 32 ^ (a + 1) by rw [Nat.pow_succ, Nat.mul_comm]]
theorem walkP_zero {M : Nat} : ∀ m i, walkP M m i 0 = orb M m i
  | 0, _ => rfl
  | m + 1, i => by
    show walkP M m ((i * 5 + 1 + 0 / 32) % (M + 1)) (0 / 32) = orb M m (lcg M i)
    rw [show (0 : Nat) / 32 = 0 from rfl, walkP_zero]; rfl
theorem walkP_reach {M : Nat} (h : coversB M = true) {i q j : Nat} (hq : q < 2 ^ 64) (hi : i < M + 1) (hj : j < M + 1) : ∃ m, m < M + 15 ∧ walkP M m i q = j := by
  have hl := walkP_lt (M := M) 13 i q hi
  obtain ⟨m, hm, e⟩ := orb_reach h hl hj
  refine ⟨13 + m, by omega, ?_⟩
  rw [walkP_add, show q / 32 ^ 13 = 0 from Nat.div_eq_of_lt (Nat.lt_of_lt_of_le hq (by decide)), walkP_zero, e]
theorem free_none {M : Nat} {owner : Array (Option Nat)} : ∀ fuel i q, SetTable.layClean.free M owner fuel i q = none → ∀ m, m < fuel → (owner.getD (walkP M m i q) (some 0)).isNone = false
  | 0, _, _, _, m, hm => absurd hm (Nat.not_lt_zero _)
  | fuel + 1, i, q, h, m, hm => by
    unfold SetTable.layClean.free at h
    split at h
    · cases h
    · rename_i hf
      cases m with
      | zero =>
        have h0 := List.find?_eq_none.mp hf 0 (List.mem_range.mpr (by unfold SetTable.runEnd; split <;> omega))
        exact Bool.eq_false_iff.mpr h0
      | succ m => exact free_none fuel _ _ h m (Nat.lt_of_succ_lt_succ hm)
theorem free_some {M : Nat} {owner : Array (Option Nat)} {j : Nat} : ∀ fuel i q, SetTable.layClean.free M owner fuel i q = some j → (owner.getD j (some 0)).isNone = true
  | 0, _, _, h => by cases h
  | fuel + 1, i, q, h => by
    unfold SetTable.layClean.free at h
    split at h
    · rename_i k hf
      obtain rfl := Option.some.inj h
      exact List.find?_some (p := fun k => (owner.getD (i + k) (some 0)).isNone) hf
    · exact free_some fuel _ _ h
theorem getD_none {owner : Array (Option Nat)} {j : Nat} (h : (owner.getD j (some 0)).isNone = true) : ∃ hj : j < owner.size, owner[j] = none := by
  by_cases hj : j < owner.size
  · refine ⟨hj, ?_⟩
    rw [Array.getD_eq_getD_getElem?, Array.getElem?_eq_getElem hj] at h
    simpa using h
  · rw [Array.getD_eq_getD_getElem?, Array.getElem?_eq_none (Nat.not_lt.mp hj)] at h
    cases h
def OInv (M : Nat) (owner : Array (Option Nat)) (k : Nat) : Prop := owner.size = M + 1 ∧ (owner.toList.filterMap id).Perm (List.range k)
theorem filterMap_set {l : List (Option Nat)} {k : Nat} : ∀ {j : Nat} (hj : j < l.length), l[j] = none → ((l.set j (some k)).filterMap id).Perm (k :: l.filterMap id) := by
  induction l with
  | nil => intro j hj; cases hj
  | cons x r ih =>
    intro j hj e
    cases j with
    | zero => simp only [List.getElem_cons_zero] at e; subst e; simp
    | succ j =>
      simp only [List.getElem_cons_succ] at e
      have := ih (Nat.lt_of_succ_lt_succ hj) e
      rw [List.set_cons_succ]
      cases x with
      | none => simpa using this
      | some y =>
        simp only [List.filterMap_cons, id]
        exact (this.cons y).trans (List.Perm.swap _ _ _)
theorem oinv_put {M : Nat} {owner : Array (Option Nat)} {k j : Nat} (h : OInv M owner k) (hf : (owner.getD j (some 0)).isNone = true) : OInv M (owner.setIfInBounds j (some k)) (k + 1) := by
  obtain ⟨hj, e⟩ := getD_none hf
  refine ⟨by rw [Array.size_setIfInBounds]; exact h.1, ?_⟩
  rw [Array.toList_setIfInBounds]
  refine (filterMap_set (by simpa using hj) (by simpa using e)).trans ((h.2.cons k).trans ?_)
  rw [List.range_succ]
  exact (List.perm_append_singleton _ _).symm
theorem count_none {l : List (Option Nat)} (h : ∀ j (hj : j < l.length), l[j] ≠ none) : (l.filterMap id).length = l.length := by
  induction l with
  | nil => rfl
  | cons x r ih =>
    have h0 := h 0 (Nat.succ_pos _)
    cases x with
    | none => exact absurd rfl h0
    | some y =>
      simp only [List.filterMap_cons, id, List.length_cons]
      rw [ih fun j hj => by have := h (j + 1) (Nat.succ_lt_succ hj); simpa using this]
theorem free_ok {M : Nat} (hM : coversB M = true) {owner : Array (Option Nat)} {k i q : Nat} (h : OInv M owner k) (hk : k ≤ M) (hi : i < M + 1) (hq : q < 2 ^ 64) : ∃ j, SetTable.layClean.free M owner (SetTable.turns M) i q = some j := by
  cases e : SetTable.layClean.free M owner (SetTable.turns M) i q with
  | some j => exact ⟨j, rfl⟩
  | none =>
    exfalso
    have hn := free_none _ _ _ e
    have all : ∀ j (hj : j < owner.toList.length), owner.toList[j] ≠ none := by
      intro j hj e'
      have hj' : j < owner.size := by simpa using hj
      obtain ⟨m, hm, rfl⟩ := walkP_reach hM hq hi (show j < M + 1 by rw [← h.1]; exact hj')
      have := hn m (show m < SetTable.turns M from hm)
      rw [Array.getD_eq_getD_getElem?, Array.getElem?_eq_getElem hj'] at this
      rw [Array.getElem_toList] at e'
      rw [e'] at this
      cases this
    have := count_none all
    rw [h.2.length_eq, List.length_range, Array.length_toList, h.1] at this
    omega
theorem bits_lt (h : Int) : SetTable.bits h < 2 ^ 64 := by
  unfold SetTable.bits
  exact (Int.toNat_lt (Int.emod_nonneg h (show (2 ^ 64 : Int) ≠ 0 by decide))).mpr (Int.emod_lt_of_pos h (show (0 : Int) < 2 ^ 64 by decide))
theorem fold_ok {M : Nat} (hM : coversB M = true) : ∀ (l : List Int) (owner : Array (Option Nat)) (k : Nat), OInv M owner k → k + l.length ≤ M →
    ∃ owner', (l.foldl (init := some (owner, k)) fun acc h => do
      let (owner, k) ← acc
      let j ← SetTable.layClean.free M owner (SetTable.turns M) (SetTable.bits h % (M + 1)) (SetTable.bits h)
      pure (owner.setIfInBounds j (some k), k + 1)) = some (owner', k + l.length) ∧ OInv M owner' (k + l.length)
  | [], owner, k, h, _ => ⟨owner, rfl, h⟩
  | x :: r, owner, k, h, hk => by
    have hk' : k + (r.length + 1) ≤ M := hk
    obtain ⟨j, hj⟩ := free_ok hM (i := SetTable.bits x % (M + 1)) (q := SetTable.bits x) h (by omega) (Nat.mod_lt _ (Nat.succ_pos _)) (bits_lt x)
    obtain ⟨o', h1, h2⟩ := fold_ok hM r _ (k + 1) (oinv_put h (free_some _ _ _ hj)) (by omega)
    refine ⟨o', ?_, by rw [show k + (x :: r).length = k + 1 + r.length by simp only [List.length_cons]; omega]; exact h2⟩
    rw [List.foldl_cons]
    have : (do
      let (owner, k) ← some (owner, k)
      let j ← SetTable.layClean.free M owner (SetTable.turns M) (SetTable.bits x % (M + 1)) (SetTable.bits x)
      pure (owner.setIfInBounds j (some k), k + 1)) = some (owner.setIfInBounds j (some k), k + 1) := by
      simp only [Option.bind_eq_bind, Option.bind_some, hj]
      rfl
    rw [this, h1, show k + (x :: r).length = k + 1 + r.length by simp only [List.length_cons]; omega]
theorem range_getD (l : List (Option Nat)) : (List.range l.length).filterMap (fun j => l[j]?.getD none) = l.filterMap id := by
  induction l with
  | nil => rfl
  | cons x r ih =>
    rw [List.length_cons, List.range_succ_eq_map, List.filterMap_cons, List.filterMap_map]
    have e : ((fun j => (x :: r)[j]?.getD none) ∘ Nat.succ) = fun j => r[j]?.getD none := by funext j; simp
    rw [e, ih]
    cases x <;> simp
theorem laid_ok {M : Nat} (hM : coversB M = true) (finger moves : Nat) (led plain : Bool) (hs : Array Int) (hn : hs.size ≤ M) :
    ∃ t order, SetTable.laid M finger moves led plain hs = some (t, order) ∧ order.toList.Perm (List.range hs.size) ∧ t.mask = M ∧ t.dummies = #[] ∧ t.place.size = hs.size := by
  have h0 : OInv M (Array.replicate (M + 1) none) 0 := by
    refine ⟨by simp, ?_⟩
    rw [Array.toList_replicate]
    have : ∀ n, (List.replicate n (none : Option Nat)).filterMap id = [] := fun n => by induction n with | zero => rfl | succ n ih => simp [List.replicate_succ, ih]
    rw [this]; exact List.Perm.nil
  obtain ⟨owner, h1, h2⟩ := fold_ok hM hs.toList _ 0 h0 (by simpa using hn)
  have hc : SetTable.layClean M hs = some owner := by
    unfold SetTable.layClean
    rw [← Array.foldl_toList]
    exact congrArg (Option.map (·.1)) h1
  simp only [Nat.zero_add, Array.length_toList] at h2
  have hsnd : (((List.range (M + 1)).filterMap fun j => (owner.getD j none).map (j, ·)).map (·.2)) = owner.toList.filterMap id := by
    rw [List.map_filterMap, ← range_getD owner.toList, Array.length_toList, h2.1]
    congr 1
    funext j
    rw [Array.getD_eq_getD_getElem?, Array.getElem?_toList]
    cases owner[j]?.getD none <;> rfl
  unfold SetTable.laid
  rw [hc]
  refine ⟨_, _, rfl, ?_, rfl, rfl, ?_⟩
  · show (((List.range (M + 1)).filterMap fun j => (owner.getD j none).map (j, ·)).map (·.2)).Perm _
    rw [hsnd]; exact h2.2
  · show (List.toArray (((List.range (M + 1)).filterMap fun j => (owner.getD j none).map (j, ·)).map (·.1))).size = _
    rw [List.size_toArray, List.length_map]
    have := congrArg List.length hsnd
    rw [List.length_map] at this
    rw [this, h2.2.length_eq, List.length_range]
end
section
set_option hygiene false
local macro_rules
  | `(tactic| obtain $p:rcasesPatMed := $h:term) => `(tactic| (refine Classical.byContradiction fun hng9 => ?_; rcases $h:term with $p:rcasesPatMed <;> (refine hng9 ?_; clear hng9)))
set_option hygiene true
theorem sub_fs_set : isSubtype (.type "frozenset") (.type "set") = pure false := by rw [isSubtype_type]; kernel_rfl
theorem sub_fs_fs : isSubtype (.type "frozenset") (.type "frozenset") = pure true := by rw [isSubtype_type]; kernel_rfl
section
variable {p : Program} {w : World} {S : SharedT} {a : Addr} {es : Array (Int × Value)} {ep : Nat} {t : SetTable} {l : List (Nat × Tok)}
theorem sv_inst {ty : String} {b : Bool} {Q : Bool → SharedT → Prop} (ha : a < S.n) (ho : S.tree.get a = some (setO es ep t)) (hb : isSubtype (.type "frozenset") (.type ty) = pure b) (h : Q b S) : sv p w (isInstance (.ref a) (.type ty)) S Q := by
  unfold isInstance
  refine ⟨ha, _, ho, rfl, ?_⟩
  show sv p w (isSubtype (.type "frozenset") (.type ty)) S Q
  rw [hb]; exact h
theorem sv_isAny {Q : Bool → SharedT → Prop} (ha : a < S.n) (ho : S.tree.get a = some (setO es ep t)) (h : Q true S) : sv p w (Builtin.Frozenset.isAnySet (.ref a)) S Q := by
  unfold Builtin.Frozenset.isAnySet
  refine sv_bind _ _ S Q (sv_inst ha ho sub_fs_set ?_)
  exact sv_inst ha ho sub_fs_fs h
theorem sv_baseOf {Q : Value → SharedT → Prop} (ha : a < S.n) (ho : S.tree.get a = some (setO es ep t)) (h : Q (.type "frozenset") S) : sv p w (Builtin.Frozenset.baseOf a) S Q := by
  unfold Builtin.Frozenset.baseOf
  exact sv_bind _ _ S Q (sv_inst ha ho sub_fs_set h)
theorem perm_filterMap {order : Array Nat} (h : order.toList.Perm (List.range es.size)) : (order.filterMap (es[·]?)).toList.Perm es.toList := by
  rw [Array.toList_filterMap]
  exact (h.filterMap _).trans (by rw [filterMap_getElem?_range])
theorem sv_setRelay {M wanted : Nat} {Q} (hM : coversB M = true) (hw : SetTable.sizeAbove wanted - 1 = M) (hw' : SetTable.sizeAbove wanted ≤ sizeLine) (h0 : 63 ≤ a) (ha : a < S.n) (ho : S.tree.get a = some (setO es ep t)) (hS : SOk w es t l) (hl : l.length ≤ M) (hl' : l.length < 1000)
    (h : ∀ es' ep' t', SOk w es' t' l → t'.mask = M → t'.dummies = #[] → Q () (put S a (setO es' ep' t'))) : sv p w (setRelay a wanted) S Q := by
  unfold setRelay
  refine sv_bind _ _ S Q (sv_setState ha ho hS.2 ?_)
  dsimp only
  rw [if_neg (Nat.not_lt.mpr hw')]
  obtain ⟨t', order, e, hp, hm, hd, hz⟩ := laid_ok hM t.finger (t.movedTo (SetTable.sizeAbove wanted - 1)) t.led t.plain (es.map (·.1)) (by rw [Array.size_map, hS.size]; exact hl)
  have e' : t.relaid (es.map (·.1)) wanted = some (t', order) := by unfold SetTable.relaid; rw [hw] at e ⊢; exact e
  rw [e']
  rw [Array.size_map] at hp hz
  have hpe := perm_filterMap (es := es) hp
  have hsz : (order.filterMap (es[·]?)).size = es.size := by rw [← Array.length_toList, hpe.length_eq, Array.length_toList]
  show sv p w (Sem.bind (if ((order.filterMap (es[·]?)).size != es.size) = true then _ else _) _) S Q
  rw [hsz, if_neg (by simp)]
  refine sv_bind _ _ S Q ?_
  refine sv_storeSet h0 ha ho (by rw [hsz, hS.size, sizeLine_eq]; omega) (h _ _ _ ⟨hpe.trans hS.1, ?_⟩ hm hd)
  simp only [SetTable.fits, SetTable.fill, hm, hd, hz, hsz, hS.size]
  simp [hl]
theorem sv_mergeFresh {M : Nat} {r s : Addr} {fi mo : Nat} {led : Bool} {each : Sem Unit} {Q} (hM : coversB M = true)
    (hroom : (M = 7 ∧ l.length = 2) ∨ (SetTable.sizeAbove (l.length * 2) - 1 = M ∧ SetTable.sizeAbove (l.length * 2) ≤ sizeLine ∧ 5 ≤ l.length))
    (hrs : r ≠ s) (h0 : 63 ≤ r) (hr : r < S.n) (hs : s < S.n) (hor : S.tree.get r = some (setO #[] ep (SetTable.fresh fi mo led))) {ep' : Nat} (hos : S.tree.get s = some (setO es ep' t)) (hS : SOk w es t l) (hn : 0 < l.length) (hl : l.length ≤ M) (hl' : l.length < 1000)
    (h : ∀ es' ep'' t', SOk w es' t' l → t'.mask = M → t'.dummies = #[] → Q () (put S r (setO es' ep'' t'))) : sv p w (setMerge r s each) S Q := by
  unfold setMerge
  have hne : (r == s) = false := beq_eq_false_iff_ne.mpr hrs
  rw [hne, if_neg (by decide)]
  refine sv_bind _ _ S Q (sv_setState hs hos hS.2 ?_)
  dsimp only
  have hz := hS.size
  have hemp : es.isEmpty = false := by
    cases q : es.isEmpty with
    | false => rfl
    | true => rw [Array.isEmpty_iff] at q; rw [q] at hz; simp at hz; omega
  rw [hemp, if_neg (by decide)]
  have rest : ∀ (epr : Nat) (tr : SetTable) (S₂ : SharedT), S₂.n = S.n → S₂.tree.get r = some (setO #[] epr tr) → tr.mask = M → tr.place.size = 0 → tr.dummies = #[] → (∀ o, put S₂ r o = put S r o) →
      sv p w (do
        let (_, _, ts) ← setState r
        match ts.road t with
        | .slotForSlot => storeSet r es { t with finger := ts.finger, led := ts.led && t.led, moves := ts.moves, plain := ts.plain && t.plain }
        | .clean =>
          let (es2, t2) ← (do
            let some (t, order) := (SetTable.laid ts.mask ts.finger ts.moves (led := ts.led && t.led) (plain := ts.plain && t.plain) (es.map (·.1))) | unsupported "internal:set-table-without-room"
            let es' := order.filterMap (es[·]?)
            if es'.size != es.size then unsupported "internal:set-table-lost-an-element"
            pure (es', t) : Sem (Array (Int × Value) × SetTable))
          storeSet r es2 t2
        | .oneByOne =>
          for (h, x) in ← setWalkUnseen s [r] (some r) do
            let _ ← holding [x] (setAddHashed r x h)
            each
            if (← setState s).2.1 != ep' then unsupported "set.changed-during-merge") S₂ Q := by
    intro epr tr S₂ hn2 ho2 hm hp hd hput
    refine sv_bind _ _ S₂ Q (sv_setState (by rw [hn2]; exact hr) ho2 (by simp [SetTable.fits, SetTable.fill, hp, hd]) ?_)
    dsimp only
    have hz2 : es.size ≤ sizeLine := by rw [hz, sizeLine_eq]; omega
    have hfill : (tr.fill != 0) = false := by simp [SetTable.fill, hp, hd]
    unfold SetTable.road
    rw [hfill, if_neg (by decide)]
    by_cases hc : (tr.mask == t.mask && t.dummies.isEmpty) = true
    · rw [if_pos hc]
      simp only [Bool.and_eq_true, beq_iff_eq, Array.isEmpty_iff] at hc
      refine sv_storeSet h0 (by rw [hn2]; exact hr) ho2 hz2 ?_
      rw [hput]
      exact h _ _ _ ⟨hS.1, hS.2⟩ (hc.1.symm.trans hm) hc.2
    · rw [if_neg hc]
      obtain ⟨t', order, e, hpo, hm', hd', hz'⟩ := laid_ok hM tr.finger tr.moves (tr.led && t.led) (tr.plain && t.plain) (es.map (·.1)) (by rw [Array.size_map, hz]; exact hl)
      rw [hm, e]
      rw [Array.size_map] at hpo hz'
      have hpe := perm_filterMap (es := es) hpo
      have hsz : (order.filterMap (es[·]?)).size = es.size := by rw [← Array.length_toList, hpe.length_eq, Array.length_toList]
      show sv p w (Sem.bind (if ((order.filterMap (es[·]?)).size != es.size) = true then _ else _) _) S₂ Q
      rw [hsz, if_neg (by simp)]
      refine sv_storeSet h0 (by rw [hn2]; exact hr) ho2 (by rw [hsz]; exact hz2) ?_
      rw [hput]
      refine h _ _ _ ⟨hpe.trans hS.1, ?_⟩ hm' hd'
      simp only [SetTable.fits, SetTable.fill, hm', hd', hz', hsz, hz]
      simp [hl]
  refine sv_bind _ _ S Q ?_
  unfold setRoomFor
  refine sv_bind _ _ S _ (sv_setState hr hor rfl ?_)
  dsimp only
  rcases hroom with ⟨rfl, h2⟩ | ⟨e1, e2, h5⟩
  · have : (SetTable.fresh fi mo led).roomFor es.size = none := by rw [hz, h2]; rfl
    rw [this]
    exact rest _ _ S rfl hor rfl rfl rfl fun _ => rfl
  · have : (SetTable.fresh fi mo led).roomFor es.size = some (l.length * 2) := by
      rw [hz]
      unfold SetTable.roomFor
      rw [if_pos (by show (0 + l.length) * 5 ≥ 7 * 3; omega)]
      show some ((0 + l.length) * 2) = _
      rw [Nat.zero_add]
    rw [this]
    refine sv_setRelay (l := []) hM e1 e2 h0 hr hor (SOk.nil w fi mo led) (Nat.zero_le _) (by decide) fun es1 ep1 t1 ok1 m1 d1 => ?_
    have hz1 : es1 = #[] := by have := ok1.size; exact Array.eq_empty_of_size_eq_zero this
    subst hz1
    have hf := ok1.2
    simp only [SetTable.fits, Bool.and_eq_true, beq_iff_eq] at hf
    exact rest ep1 t1 (put S r (setO #[] ep1 t1)) rfl (get_put hor) m1 hf.1 d1 fun o => put_put _ _ _ _
end
end
section
open Builtin.Frozenset
theorem eraseIdx_perm {α : Type} : ∀ (l : List α) (i : Nat) (h : i < l.length), (l[i] :: l.eraseIdx i).Perm l
  | [], i, h => by cases h
  | x :: r, 0, _ => by simp
  | x :: r, i + 1, h => by
    simp only [List.getElem_cons_succ, List.eraseIdx_cons_succ]
    exact (List.Perm.swap _ _ _).trans ((eraseIdx_perm r i (Nat.lt_of_succ_lt_succ h)).cons x)
theorem pick_perm {α : Type} (next : Nat → Nat) : ∀ (fuel k : Nat) (left : List α) (out : Array α), left.length ≤ fuel → (pickOrder.go next fuel k left out).toList.Perm (out.toList ++ left)
  | 0, k, left, out, h => by
    cases left with
    | nil => simp [pickOrder.go]
    | cons => simp at h
  | fuel + 1, k, left, out, h => by
    unfold pickOrder.go
    split
    · rename_i x hx
      obtain ⟨hi, rfl⟩ := List.getElem?_eq_some_iff.mp hx
      refine (pick_perm next fuel (k + 1) _ _ (by rw [List.length_eraseIdx_of_lt hi]; omega)).trans ?_
      rw [Array.toList_push, List.append_assoc]
      refine List.Perm.append_left _ ?_
      exact eraseIdx_perm _ _ hi
    · rename_i hx
      cases left with
      | nil => simp
      | cons y r =>
        rw [List.getElem?_eq_none_iff] at hx
        exact absurd (Nat.mod_lt (next k) (show 0 < (y :: r).length from Nat.succ_pos _)) (Nat.not_lt.mpr hx)
theorem pickOrder_perm {α : Type} (next : Nat → Nat) (xs : Array α) : (pickOrder next xs).toList.Perm xs.toList := by
  have := pick_perm next xs.size 0 xs.toList #[] (by simp)
  simpa [pickOrder] using this
section
variable {p : Program} {w : World} {S : SharedT} {a : Addr} {es : Array (Int × Value)} {ep : Nat} {t : SetTable} {l : List (Nat × Tok)}
theorem sv_setWalk {Q : Array (Int × Value) → SharedT → Prop} (ha : a < S.n) (ho : S.tree.get a = some (setO es ep t)) (hf : t.fits es.size = true) (hd : w.params.followText "set-order" = true ∨ es.size ≤ 1 ∨ (t.led = true ∧ t.plain = true))
    (h : ∀ xs : Array (Int × Value), xs.toList.Perm es.toList → Q xs S) : sv p w (setWalk a) S Q := by
  unfold setWalk
  refine sv_bind _ _ S Q (sv_setState ha ho hf ?_)
  dsimp only
  show sv p w (if w.params.followText "set-order" = true then _ else _) S Q
  by_cases hb : w.params.followText "set-order" = true
  · rw [if_pos hb]
    exact h _ (pickOrder_perm _ _)
  · rw [if_neg hb]
    have hd := hd.resolve_left hb
    have h1 : (!t.plain && decide (es.size > 1)) = false := by
      rcases hd with q | ⟨_, q⟩
      · have : decide (es.size > 1) = false := decide_eq_false (by omega)
        rw [this, Bool.and_false]
      · rw [q]; rfl
    have h2 : (!t.led && decide (es.size > 1)) = false := by
      rcases hd with q | ⟨q, _⟩
      · have : decide (es.size > 1) = false := decide_eq_false (by omega)
        rw [this, Bool.and_false]
      · rw [q]; rfl
    show sv p w (if (!t.plain && decide (es.size > 1)) = true then _ else _) S Q
    rw [h1, if_neg (by decide)]
    show sv p w (Sem.bind (if (!t.led && decide (es.size > 1)) = true then _ else _) _) S Q
    rw [h2, if_neg (by decide)]
    exact h _ (List.Perm.refl _)
theorem sv_quietLoop {Q : Option Bool × Unit → SharedT → Prop} : ∀ (xs : List (Int × Value)), (∀ e ∈ xs, ∃ x, e = ent w x) → Q (none, ()) S → sv p w (forIn xs ((none, ()) : Option Bool × Unit) fun x __s => match x with
      | (fst, x) => match x with
        | Value.ref a => do
          let __do_lift ← specialOf x (Str.ofString "__eq__")
          if (__do_lift != some (Value.builtin "object.__eq__")) = true then pure (ForInStep.done (some false, ())) else pure (ForInStep.yield (none, ()))
        | x => pure (ForInStep.yield (none, ()))) S Q
  | [], _, h => by rw [List.forIn_nil]; exact h
  | e :: r, he, h => by
    obtain ⟨x, rfl⟩ := he e (.head _)
    rw [List.forIn_cons]
    exact sv_bind _ _ S Q (sv_quietLoop r (fun e h => he e (.tail _ h)) h)
theorem sv_setsQuiet {Q : Bool → SharedT → Prop} (sets : List Addr) (hs : ∀ b ∈ sets, b < S.n ∧ ∃ es ep t l, S.tree.get b = some (setO es ep t) ∧ SOk w es t l) (h : Q true S) : sv p w (setsQuiet sets) S Q := by
  unfold setsQuiet
  refine sv_bind _ _ S Q ?_
  have fin : sv p w (match (((none, ()) : Option Bool × Unit)).fst with | some r => pure r | none => pure true) S Q := h
  revert fin
  generalize hR : (fun (__s : Option Bool × Unit) (S' : SharedT) => sv p w (match __s.fst with | some r => pure r | none => pure true) S' Q) = R
  intro fin
  have fin' : R (none, ()) S := by rw [← hR]; exact fin
  have hR' : ∀ a S', R a S' → sv p w (match a.fst with | some r => pure r | none => pure true) S' Q := fun a S' q => by rw [← hR] at q; exact q
  refine sv_mono _ S R _ ?_ (by intro a S' q; obtain ⟨o, u⟩ := a; cases o <;> exact hR' _ S' q)
  clear hR hR' fin h
  induction sets with
  | nil => rw [List.forIn_nil]; exact fin'
  | cons b r ih =>
    rw [List.forIn_cons]
    obtain ⟨hb, es, ep, t, l, ho, hS⟩ := hs b (.head _)
    refine sv_bind _ _ S R ?_
    refine sv_bind _ _ S _ (sv_setEntries hb ho hS.2 ?_)
    refine sv_bind _ _ S _ ?_
    rw [← Array.forIn_toList]
    refine sv_quietLoop _ (fun e he => let ⟨x, _, e'⟩ := hS.ofMem e he; ⟨x, e'⟩) ?_
    exact ih fun b hb => hs b (.tail _ hb)
theorem sv_walkUnseen {others : List Addr} {filled : Option Addr} {Q : Array (Int × Value) → SharedT → Prop} (ha : a < S.n) (ho : S.tree.get a = some (setO es ep t)) (hS : SOk w es t l)
    (hs : ∀ b ∈ others, b < S.n ∧ ∃ es ep t l, S.tree.get b = some (setO es ep t) ∧ SOk w es t l)
    (hf : filled = none ∨ l.length ≤ 1)
    (h : ∀ xs : Array (Int × Value), xs.toList.Perm es.toList → Q xs S) : sv p w (setWalkUnseen a others filled) S Q := by
  unfold setWalkUnseen
  refine sv_bind _ _ S Q (sv_setState ha ho hS.2 ?_)
  dsimp only
  show sv p w (if (w.params.followText "set-order" || (t.led && t.plain) || decide (es.size ≤ 1)) = true then _ else _) S Q
  by_cases hc : (w.params.followText "set-order" || (t.led && t.plain) || decide (es.size ≤ 1)) = true
  · rw [if_pos hc]
    refine sv_setWalk ha ho hS.2 ?_ h
    simp only [Bool.or_eq_true, Bool.and_eq_true, decide_eq_true_eq] at hc
    rcases hc with (q | q) | q
    · exact .inl q
    · exact .inr (.inr q)
    · exact .inr (.inl q)
  · rw [if_neg hc]
    have hsz : ¬ es.size ≤ 1 := fun q => hc (by simp [q])
    have hf : filled = none := hf.resolve_right (by rw [← hS.size]; exact hsz)
    subst hf
    refine sv_bind _ _ S Q (sv_setsQuiet _ (fun b hb => ?_) ?_)
    · rcases List.mem_cons.mp hb with rfl | hb
      · exact ⟨ha, _, _, _, _, ho, hS⟩
      · exact hs b hb
    · exact h _ (List.Perm.refl _)
theorem sv_mergeOne {M : Nat} {r s : Addr} {was : Nat} {ids : String} {c : Nat} {tk : Tok} {es2 : Array (Int × Value)} {ep2 : Nat} {t2 : SetTable} {Q} (hrs : r ≠ s) (h0 : 63 ≤ r) (hr : r < S.n) (hs : s < S.n)
    (hor : S.tree.get r = some (setO es ep t)) (hos : S.tree.get s = some (setO es2 ep2 t2)) (hS : SOk w es t l) (hS2 : SOk w es2 t2 [(c, tk)]) (hm : t.mask = M) (hd : t.dummies = #[]) (hroom : (l.length + 1) * 5 < M * 3) (hn : 0 < l.length) (hl' : l.length < 1000)
    (hc : ∀ x ∈ l, x.1 ≠ c) (hw : was = ep2)
    (h : ∀ es' ep' t', SOk w es' t' ((c, tk) :: l) → Q () (put S r (setO es' ep' t'))) : sv p w (setMerge r s (unchanged ids s was)) S Q := by
  unfold setMerge
  have hne : (r == s) = false := beq_eq_false_iff_ne.mpr hrs
  rw [hne, if_neg (by decide)]
  refine sv_bind _ _ S Q (sv_setState hs hos hS2.2 ?_)
  dsimp only
  have hz := hS.size
  have hz2 := hS2.size
  have hemp : es2.isEmpty = false := by
    cases q : es2.isEmpty with
    | false => rfl
    | true => rw [Array.isEmpty_iff] at q; rw [q] at hz2; simp at hz2
  rw [hemp, if_neg (by decide)]
  have hfit := hS.2
  simp only [SetTable.fits, Bool.and_eq_true, beq_iff_eq] at hfit
  have hfill : t.fill = l.length := by unfold SetTable.fill; rw [hfit.1, hd, hz]; rfl
  refine sv_bind _ _ S Q ?_
  unfold setRoomFor
  refine sv_bind _ _ S _ (sv_setState hr hor hS.2 ?_)
  dsimp only
  have hrm : t.roomFor es2.size = none := by
    unfold SetTable.roomFor
    rw [if_neg (by rw [hfill, hm, hz2]; simp only [List.length_cons, List.length_nil]; omega)]
  rw [hrm]
  refine sv_bind _ _ S Q (sv_setState hr hor hS.2 ?_)
  dsimp only
  unfold SetTable.road
  rw [show (t.fill != 0) = true by rw [hfill]; exact bne_iff_ne.mpr (by omega), if_pos rfl]
  refine sv_bind _ _ S Q (sv_walkUnseen hs hos hS2 (fun b hb => ?_) (.inr (by simp)) fun xs hx => ?_)
  · obtain rfl := List.mem_singleton.mp hb
    exact ⟨hr, _, _, _, _, hor, hS⟩
  · have hxs : xs.toList = [ent w (c, tk)] := List.perm_singleton.mp (hx.trans hS2.1)
    rw [← Array.forIn_toList, hxs, List.forIn_cons]
    refine sv_bind _ _ S Q ?_
    refine sv_bind _ _ S _ ?_
    refine sv_bind (setAddHashed r (.str ⟨#[c]⟩ tk) (PyData.keyHash w.params ⟨#[c]⟩)) _ S _ (sv_setAdd h0 hr hor hS hl' hc fun es' ep' t' ok' => ?_)
    have hos' : (put S r (setO es' ep' t')).tree.get s = some (setO es2 ep2 t2) := by rw [get_put_ne (Ne.symm hrs)]; exact hos
    refine sv_bind _ _ _ _ ?_
    unfold unchanged
    refine sv_bind _ _ _ _ (sv_setEpoch hs hos' hS2.2 ?_)
    rw [hw, show (ep2 != ep2) = false by simp, if_neg (by decide)]
    refine sv_bind _ _ _ _ (sv_setState hs hos' hS2.2 ?_)
    rw [show (ep2 != ep2) = false by simp, if_neg (by decide)]
    exact h _ _ _ ok'
end
end
section
open Builtin.Frozenset
def GoS {α : Type} (p : Program) (w : World) (m : Sem α) (S : SharedT) (Q : α → SharedT → Prop) : Prop :=
  ∀ (f : α → Sem Fin) (c : Code) (pos : Pos) (F : Frame) (st : List Frame), ∃ a S' pos', Q a S' ∧ RT p w S ⟨m.bind f, c, pos, F :: st⟩ S' ⟨f a, c, pos', F :: st⟩
theorem GoS.of {α : Type} {p : Program} {w : World} {m : Sem α} {S : SharedT} {Q : α → SharedT → Prop} (h : sv p w m S Q) : GoS p w m S Q := fun f c pos F st => sv_go (f := f) (c := c) (F := F) (st := st) m S Q pos h
theorem GoS.bind {α β : Type} {p : Program} {w : World} {m : Sem α} {g : α → Sem β} {S : SharedT} {Q : β → SharedT → Prop} (h : GoS p w m S fun a S' => GoS p w (g a) S' Q) : GoS p w (m.bind g) S Q := fun f c pos F st => by
  obtain ⟨a, S1, p1, h1, r1⟩ := h (fun a => (g a).bind f) c pos F st
  obtain ⟨b, S2, p2, h2, r2⟩ := h1 f c p1 F st
  rw [Sem.bind_assoc]
  exact ⟨b, S2, p2, h2, r1.trans r2⟩
theorem GoS.mono {α : Type} {p : Program} {w : World} {m : Sem α} {S : SharedT} {Q Q' : α → SharedT → Prop} (h : GoS p w m S Q) (hq : ∀ a S', Q a S' → Q' a S') : GoS p w m S Q' := fun f c pos F st => by
  obtain ⟨a, S1, p1, h1, r1⟩ := h f c pos F st
  exact ⟨a, S1, p1, hq _ _ h1, r1⟩
theorem sv_keep {α : Type} {p : Program} {w : World} {vs : List Value} (m : Sem α) : ∀ (S : SharedT) (Q : α → SharedT → Prop), sv p w m S Q → sv p w (m.keep vs) S Q := by
  induction m <;> intro S Q h
  case pure a => exact h
  case rule t k ih => exact ih () S Q h
  case «at» t k ih => exact ih () S Q h
  case load a q k ih => obtain ⟨l, o, h1, h2, h3⟩ := h; exact ⟨l, o, h1, h2, ih o S Q h3⟩
  case update a q g k ih => obtain ⟨l, o, h1, h2, h3⟩ := h; exact ⟨l, o, h1, h2, ih () _ Q h3⟩
  case alloc o k ih => exact ⟨h.1, ih _ _ Q h.2⟩
  case point l k ih => exact ih () S Q h
  case fresh k ih => exact ih _ _ Q h
  case ask k ih => exact ih _ _ Q h
  all_goals exact h.elim
theorem sv_holding {α : Type} {p : Program} {w : World} {vs : List Value} {m : Sem α} {S : SharedT} {Q : α → SharedT → Prop} (h : sv p w m S Q) : sv p w (holding vs m) S Q := by
  unfold holding
  split
  · exact h
  · exact sv_keep m S Q h
noncomputable abbrev grow (S : SharedT) (o : Obj) : SharedT := { S with tree := S.tree.ins S.n o, n := S.n + 1 }
section
variable {p : Program} {w : World} {S : SharedT} {a : Addr} {es : Array (Int × Value)} {ep : Nat} {t : SetTable} {l : List (Nat × Tok)}
theorem get_grow_new {o : Obj} (hi : ((S.tree.ins S.n o).get S.n).isSome = true) : (grow S o).tree.get S.n = some o := by
  show (S.tree.ins S.n o).get S.n = _
  rw [BT.get_ins o S.tree S.n hi, if_pos rfl]
theorem get_grow_old {o : Obj} (hi : ((S.tree.ins S.n o).get S.n).isSome = true) (ha : a < S.n) : (grow S o).tree.get a = S.tree.get a := by
  show (S.tree.ins S.n o).get a = _
  rw [BT.get_ins o S.tree S.n hi, if_neg (Nat.ne_of_lt ha)]
theorem sv_newSet {Q : Value → SharedT → Prop} (hi : ∀ o, ((S.tree.ins S.n o).get S.n).isSome = true) (h : ∀ led : Bool, Q (.ref S.n) (grow S (setO #[] 0 (SetTable.fresh 0 0 led)))) : sv p w (newSet (.type "frozenset")) S Q := by
  unfold newSet
  refine ⟨?_, ?_⟩
  · exact hi _
  · exact h _
theorem sv_copyOf {M : Nat} {Q : Value → SharedT → Prop} (hM : coversB M = true)
    (hroom : (M = 7 ∧ l.length = 2) ∨ (SetTable.sizeAbove (l.length * 2) - 1 = M ∧ SetTable.sizeAbove (l.length * 2) ≤ sizeLine ∧ 5 ≤ l.length))
    (hi : ∀ o, ((S.tree.ins S.n o).get S.n).isSome = true) (h63 : 63 ≤ S.n) (ha : a < S.n) (ho : S.tree.get a = some (setO es ep t)) (hS : SOk w es t l) (hn : 0 < l.length) (hl : l.length ≤ M) (hl' : l.length < 1000)
    (h : ∀ o es' ep' t', SOk w es' t' l → t'.mask = M → t'.dummies = #[] → Q (.ref S.n) (put (grow S o) S.n (setO es' ep' t'))) : sv p w (copyOf a) S Q := by
  unfold copyOf
  refine sv_bind _ _ S Q (sv_baseOf ha ho ?_)
  refine sv_bind _ _ S Q (sv_newSet hi fun led => ?_)
  refine sv_bind (setMerge S.n a) _ _ Q ?_
  exact sv_mergeFresh hM hroom (Ne.symm (Nat.ne_of_lt ha)) h63 (Nat.lt_succ_self _) (Nat.lt_succ_of_lt ha) (get_grow_new (hi _)) (by rw [get_grow_old (hi _) ha]; exact ho) hS hn hl hl' fun es' ep' t' h1 h2 h3 => h _ _ _ _ h1 h2 h3
theorem sv_or {M c : Nat} {tk : Tok} {b : Addr} {es2 : Array (Int × Value)} {ep2 : Nat} {t2 : SetTable} {Q : Fin → SharedT → Prop} (hM : coversB M = true)
    (hroom : (M = 7 ∧ l.length = 2) ∨ (SetTable.sizeAbove (l.length * 2) - 1 = M ∧ SetTable.sizeAbove (l.length * 2) ≤ sizeLine ∧ 5 ≤ l.length)) (hr2 : (l.length + 1) * 5 < M * 3)
    (hi : ∀ o, ((S.tree.ins S.n o).get S.n).isSome = true) (h63 : 63 ≤ S.n) (ha : a < S.n) (hb : b < S.n) (hab : a ≠ b) (ho : S.tree.get a = some (setO es ep t)) (hob : S.tree.get b = some (setO es2 ep2 t2))
    (hS : SOk w es t l) (hS2 : SOk w es2 t2 [(c, tk)]) (hc : ∀ x ∈ l, x.1 ≠ c) (hn : 0 < l.length) (hl : l.length ≤ M) (hl' : l.length < 1000)
    (h : ∀ o es' ep' t', SOk w es' t' ((c, tk) :: l) → Q (.done (.ret (.ref S.n))) (put (grow S o) S.n (setO es' ep' t'))) : sv p w (Builtin.«frozenset.__or__» ⟨[.ref a, .ref b], []⟩) S Q := by
  have eq : Builtin.«frozenset.__or__» ⟨[.ref a, .ref b], []⟩ = Sem.bind (isAnySet (.ref a) <&&> isAnySet (.ref b)) fun y => (if (!y) = true then (do rule s!"frozenset.{"__or__"}.declined"; return ← ret .notImplemented) else do
      ret (← (do let result ← copyOf a
                 if (Value.ref b) != .ref a then holding [result] (updateFrom s!"frozenset.{"__or__"}" (← addrOf result) (.ref b))
                 return result : Sem Value))) := by
    with_unfolding_all rfl
  rw [eq]
  refine sv_bind _ _ S Q ?_
  refine sv_bind _ _ S _ (sv_isAny ha ho ?_)
  refine sv_mono _ _ _ _ (sv_isAny hb hob (Q := fun y S' => y = true ∧ S = S') ⟨rfl, rfl⟩) ?_
  rintro y S' ⟨rfl, rfl⟩
  rw [if_neg (by decide)]
  refine sv_bind _ _ S Q ?_
  refine sv_bind _ _ S _ (sv_copyOf hM hroom hi h63 ha ho hS hn hl hl' fun o es' ep' t' h1 h2 h3 => ?_)
  have hne : ((Value.ref b) != .ref a) = true := by
    rw [bne_iff_ne]; intro q; injection q with q; exact hab q.symm
  rw [hne, if_pos rfl]
  refine sv_bind (holding [Value.ref S.n] (updateFrom (toString "frozenset." ++ toString "__or__") S.n (.ref b))) _ _ _ (sv_holding ?_)
  unfold updateFrom
  have hbn : b ≠ S.n := Nat.ne_of_lt hb
  have hob' : (put (grow S o) S.n (setO es' ep' t')).tree.get b = some (setO es2 ep2 t2) := by
    rw [get_put_ne hbn, get_grow_old (hi _) hb]; exact hob
  have hor' : (put (grow S o) S.n (setO es' ep' t')).tree.get S.n = some (setO es' ep' t') := get_put (get_grow_new (hi o))
  refine sv_bind _ _ _ _ (sv_isAny (Nat.lt_succ_of_lt hb) hob' ?_)
  rw [if_pos rfl]
  change sv p w (merge (toString "frozenset." ++ toString "__or__") S.n b) _ _
  unfold merge
  refine sv_bind _ _ _ _ (sv_setEpoch (Nat.lt_succ_of_lt hb) hob' hS2.2 ?_)
  refine sv_mergeOne (M := M) (Ne.symm hbn) h63 (Nat.lt_succ_self _) (Nat.lt_succ_of_lt hb) hor' hob' h1 hS2 h2 h3 hr2 hn hl' hc rfl fun es3 ep3 t3 ok3 => ?_
  rw [put_put]
  exact h _ _ _ _ ok3
end
end
section
open Builtin.Frozenset
theorem keep_bind {α β : Type} (vs : List Value) (m : Sem α) (g : α → Sem β) : (m.bind g).keep vs = (m.keep vs).bind fun a => (g a).keep vs := by
  induction m with
  | pure a => rfl
  | raise e => rfl
  | unsupported w => rfl
  | finish e => rfl
  | rule t k ih => exact congrArg (Sem.rule t) (funext ih)
  | «at» p k ih => exact congrArg (Sem.«at» p) (funext ih)
  | load a p k ih => exact congrArg (Sem.load a p) (funext ih)
  | update a p g k ih => exact congrArg (Sem.update a p g) (funext ih)
  | alloc o k ih => exact congrArg (Sem.alloc o) (funext ih)
  | loadIfAlive a k ih => exact congrArg (Sem.loadIfAlive a) (funext ih)
  | point l k ih => exact congrArg (Sem.point (vs ++ l)) (funext ih)
  | register a k ih => exact congrArg (Sem.register a) (funext ih)
  | fresh k ih => exact congrArg (Sem.fresh) (funext ih)
  | ask k ih => exact congrArg (Sem.ask) (funext ih)
  | choose s n k ih => exact congrArg (Sem.choose s n) (funext ih)
  | os q l k ih => exact congrArg (Sem.os q (vs ++ l)) (funext ih)
  | call c h g l k ih => exact congrArg (Sem.call c h g (vs ++ l)) (funext ih)
  | handled o k ih => exact congrArg (Sem.handled o) (funext ih)
  | newGen c k ih => exact congrArg (Sem.newGen c) (funext ih)
  | genState g k ih => exact congrArg (Sem.genState g) (funext ih)
  | resume g r l k ih => exact congrArg (Sem.resume g r (vs ++ l)) (funext ih)
  | yield v g l k ih => exact congrArg (Sem.yield v g (vs ++ l)) (funext ih)
  | stack k ih => exact congrArg (Sem.stack) (funext ih)
  | fork c k ih => exact congrArg (Sem.fork c) (funext ih)
  | thread k ih => exact congrArg (Sem.thread) (funext ih)
  | await a t d l k ih => exact congrArg (Sem.await a t d (vs ++ l)) (funext ih)
theorem byRowG {P : World → Prop} (row : String) (h : ∀ (b : Bool) (w : World), P (w.withFollow row b)) (w : World) : P w := by
  have := h (w.params.followText row) w
  rwa [World.withFollow_self] at this
theorem eq_a (b : Nat) (p : Program) (w : World) (S : SharedT) : GoS p w ((eqBool (.str ⟨#[9]⟩ 1519) (.str ⟨#[9]⟩ 1615)).keep [.ref b]) S fun r S' => r = true ∧ S = S' := by
  revert w
  refine byRowG "special-get-raises" fun v w => ?_
  intro f c pos F st
  obtain ⟨T, n, life, gens, drawn, toks, os⟩ := S
  refine ⟨true, _, pos, ⟨rfl, rfl⟩, RT.ofQ (n := 4) ?_⟩
  cases v <;> kernel_rfl
end
section
open Builtin.Frozenset
theorem sv_pure {α : Type} {p : Program} {w : World} {a : α} {S : SharedT} {Q : α → SharedT → Prop} (h : Q a S) : sv p w (pure a : Sem α) S Q := h
theorem GoS.pureB {α β : Type} {p : Program} {w : World} {a : α} {g : α → Sem β} {S : SharedT} {Q : β → SharedT → Prop} (h : GoS p w (g a) S Q) : GoS p w ((pure a : Sem α) >>= g) S Q := h
theorem GoS.ruleB {β : Type} {p : Program} {w : World} {t : String} {g : Unit → Sem β} {S : SharedT} {Q : β → SharedT → Prop} (h : GoS p w (g ()) S Q) : GoS p w (rule t >>= g) S Q := GoS.bind (GoS.of (show sv p w (rule t) S _ from h))
theorem GoS.k2 {α β : Type} {p : Program} {w : World} {v1 v2 : List Value} {m : Sem α} {g : α → Sem β} {S : SharedT} {Q : β → SharedT → Prop} (h : GoS p w ((m.keep v1).keep v2) S fun a S' => GoS p w (((g a).keep v1).keep v2) S' Q) : GoS p w (((m.bind g).keep v1).keep v2) S Q := by
  rw [keep_bind, keep_bind]; exact GoS.bind h
theorem GoS.k1 {α β : Type} {p : Program} {w : World} {v1 : List Value} {m : Sem α} {g : α → Sem β} {S : SharedT} {Q : β → SharedT → Prop} (h : GoS p w (m.keep v1) S fun a S' => GoS p w ((g a).keep v1) S' Q) : GoS p w ((m.bind g).keep v1) S Q := by
  rw [keep_bind]; exact GoS.bind h
theorem GoS.sv2 {α : Type} {p : Program} {w : World} {v1 v2 : List Value} {m : Sem α} {S : SharedT} {Q : α → SharedT → Prop} (h : sv p w m S Q) : GoS p w ((m.keep v1).keep v2) S Q := GoS.of (sv_keep _ _ _ (sv_keep _ _ _ h))
theorem GoS.sv1 {α : Type} {p : Program} {w : World} {v1 : List Value} {m : Sem α} {S : SharedT} {Q : α → SharedT → Prop} (h : sv p w m S Q) : GoS p w (m.keep v1) S Q := GoS.of (sv_keep _ _ _ h)
theorem sv_pureK2 {α : Type} {p : Program} {w : World} {v1 v2 : List Value} {a : α} {S : SharedT} {Q : α → SharedT → Prop} (h : Q a S) : GoS p w (((pure a : Sem α).keep v1).keep v2) S Q := GoS.of (show sv p w (pure a : Sem α) S Q from h)
def EqOk (p : Program) (w : World) (c tk1 tk2 : Nat) : Prop := ∀ (b r : Addr) (S : SharedT), GoS p w (((eqBool (.str ⟨#[c]⟩ tk1) (.str ⟨#[c]⟩ tk2)).keep [.ref b]).keep [.ref r]) S fun x S' => x = true ∧ S = S'
theorem toList_eraseAt (es : Array (Int × Value)) (i : Nat) : (SetTable.eraseAt es i).toList = es.toList.eraseIdx i := by
  simp [SetTable.eraseAt, List.extract_eq_take_drop, List.eraseIdx_eq_take_drop_succ, List.take_of_length_le]
theorem size_eraseAt {α : Type} (es : Array α) (i : Nat) (h : i < es.size) : (SetTable.eraseAt es i).size = es.size - 1 := by
  simp [SetTable.eraseAt]
  rw [Nat.min_eq_left (Nat.le_of_lt h), Nat.add_comm i 1, ← Nat.sub_sub, Nat.add_sub_cancel' (Nat.le_sub_one_of_lt h)]
theorem size_insertAt {α : Type} (es : Array α) (i : Nat) (x : α) : (SetTable.insertAt es i x).size = es.size + 1 := by
  have := congrArg List.length (SetTable.toList_insertAt es i x)
  simp only [List.length_append, List.length_cons, List.length_take, List.length_drop, Array.length_toList] at this
  rw [this]
  rcases Nat.le_total i es.size with h | h
  · rw [Nat.min_eq_left h, ← Nat.add_assoc, Nat.add_sub_cancel' h]
  · rw [Nat.min_eq_right h, Nat.sub_eq_zero_of_le h]
theorem bt_set_same {o : Obj} : ∀ {T : BT} {a : Nat}, T.get a = some o → T.set a (fun _ => o) = T
  | .nil, a, h => rfl
  | .node v l r, a, h => by
    rw [BT.set_node]
    rw [BT.get_node] at h
    by_cases h0 : a = 0
    · rw [if_pos h0] at h ⊢; cases h; rfl
    · rw [if_neg h0] at h ⊢
      by_cases h1 : a % 2 = 1
      · rw [if_pos h1] at h ⊢; rw [bt_set_same h]
      · rw [if_neg h1] at h ⊢; rw [bt_set_same h]
theorem go_discard {p : Program} {w : World} {S : SharedT} {r b : Addr} {es : Array (Int × Value)} {ep : Nat} {t : SetTable} {l rest : List (Nat × Tok)} {c tk1 tk2 : Nat} {Q : Bool → SharedT → Prop} (h0 : 63 ≤ r) (hr : r < S.n) (hor : S.tree.get r = some (setO es ep t))
    (hS : SOk w es t l) (hl : l.length < 1000) (hp : l.Perm ((c, tk1) :: rest)) (hu : ∀ x ∈ rest, x.1 ≠ c) (he : EqOk p w c tk1 tk2)
    (h : ∀ es' ep' t', SOk w es' t' rest → t'.mask = t.mask → t'.dummies.size = t.dummies.size + 1 → Q true (put S r (setO es' ep' t'))) :
    GoS p w (((setDiscardHashed r (.str ⟨#[c]⟩ tk2) (PyData.keyHash w.params ⟨#[c]⟩)).keep [.ref b]).keep [.ref r]) S Q := by
  unfold setDiscardHashed
  refine GoS.k2 ?_
  unfold setFind setFindIn
  refine GoS.k2 (GoS.sv2 (sv_setState hr hor hS.2 ?_))
  dsimp only
  rw [hS.byScan (Nat.lt_of_lt_of_le hl (by decide)), if_pos rfl]
  refine GoS.k2 (GoS.sv2 (show sv p w (rule _) S _ from ?_))
  refine GoS.k2 ?_
  unfold setScan
  dsimp only
  rw [hS.strs, if_pos rfl]
  unfold setScanStrs
  have hidx : es.findIdx? (fun e => e.2.isStr ⟨#[c]⟩) = es.toList.findIdx? (fun e => e.2.isStr ⟨#[c]⟩) := by cases es; simp
  have hmem : ent w (c, tk1) ∈ es.toList := hS.1.mem_iff.mpr (List.mem_map.mpr ⟨_, hp.mem_iff.mpr (.head _), rfl⟩)
  have hself : ∀ k : Nat, (Value.str ⟨#[c]⟩ k).isStr ⟨#[c]⟩ = true := fun k => by show (Str.mk #[c] == Str.mk #[c]) = true; simp
  cases hf : es.toList.findIdx? (fun e => e.2.isStr ⟨#[c]⟩) with
  | none =>
    have := List.findIdx?_eq_none_iff.mp hf _ hmem
    exact absurd (this.symm.trans (hself tk1)) (by decide)
  | some i =>
    obtain ⟨hi, hpi, _⟩ := List.findIdx?_eq_some_iff_getElem.mp hf
    obtain ⟨x, hx, hxe⟩ := hS.ofMem _ (List.getElem_mem hi)
    have hxc : x = (c, tk1) := by
      rcases List.mem_cons.mp (hp.mem_iff.mp hx) with e | e
      · exact e
      · exfalso
        rw [hxe] at hpi
        have q : (Str.mk #[x.1] == Str.mk #[c]) = true := hpi
        have q2 := beq_iff_eq.mp q
        injection q2 with q3
        have q4 := congrArg Array.toList q3
        simp at q4
        exact hu x e q4
    subst hxc
    have hi' : i < es.size := by simpa using hi
    have hget : es[i]? = some (ent w (c, tk1)) := by rw [← Array.getElem?_toList, List.getElem?_eq_getElem hi, hxe]
    rw [hidx, hf]
    dsimp only
    rw [hget]
    dsimp only [ent]
    refine GoS.k2 (GoS.sv2 (sv_setEpoch hr hor hS.2 ?_))
    refine GoS.k2 ((he b r S).mono ?_)
    rintro _ _ ⟨rfl, rfl⟩
    simp only [Bool.false_and, Bool.false_eq_true, if_false]
    refine GoS.k2 (GoS.sv2 (sv_setEpoch hr hor hS.2 ?_))
    rw [show (ep != ep) = false by simp]
    simp only [Bool.false_eq_true, if_false, if_true]
    refine sv_pureK2 (sv_pureK2 ?_)
    dsimp only
    refine GoS.k2 (GoS.sv2 (sv_setState hr hor hS.2 ?_))
    dsimp only
    have hpe : ((SetTable.eraseAt es i).toList).Perm (rest.map (ent w)) := by
      rw [toList_eraseAt]
      have h1 := eraseIdx_perm es.toList i hi
      rw [hxe] at h1
      have h2 : (ent w (c, tk1) :: es.toList.eraseIdx i).Perm (ent w (c, tk1) :: rest.map (ent w)) := h1.trans (hS.1.trans (hp.map (ent w)))
      exact h2.cons_inv
    have hes : (SetTable.eraseAt es i).size = es.size - 1 := size_eraseAt es i hi'
    have hfit := hS.2
    simp only [SetTable.fits, Bool.and_eq_true, beq_iff_eq, decide_eq_true_eq] at hfit
    have hpl : i < t.place.size := by rw [hfit.1]; exact hi'
    have hdrop : (t.drop i).mask = t.mask ∧ (t.drop i).dummies.size = t.dummies.size + 1 ∧ (t.drop i).place.size = t.place.size - 1 := by
      unfold SetTable.drop
      rw [Array.getElem?_eq_getElem hpl]
      exact ⟨rfl, size_insertAt _ _ _, size_eraseAt _ _ hpl⟩
    have hz : (SetTable.eraseAt es i).size ≤ sizeLine := by rw [hes, hS.size, sizeLine_eq]; omega
    refine GoS.k2 (GoS.sv2 (sv_storeSet h0 hr hor hz ?_))
    refine GoS.k2 (GoS.sv2 (show sv p w point _ _ from ?_))
    refine sv_pureK2 (h _ _ _ ⟨hpe, ?_⟩ hdrop.1 hdrop.2.1)
    have hfi := hfit.2
    unfold SetTable.fill at hfi
    unfold SetTable.fits
    rw [Bool.and_eq_true]
    refine ⟨by rw [beq_iff_eq, hdrop.2.2, hes, hfit.1], decide_eq_true ?_⟩
    show (t.drop i).place.size + (t.drop i).dummies.size ≤ (t.drop i).mask
    rw [hdrop.1, hdrop.2.1, hdrop.2.2, ← Nat.add_assoc, Nat.add_right_comm, Nat.sub_add_cancel (Nat.lt_of_le_of_lt (Nat.zero_le _) hpl)]; exact hfi
theorem go_discards {p : Program} {w : World} {r b : Addr} {ids : String} {was : Nat} {es2 : Array (Int × Value)} {t2 : SetTable} (hb2 : t2.fits es2.size = true) (h0 : 63 ≤ r) (hrb : b ≠ r) : ∀ (xs : List (Nat × Nat × Nat)) (S : SharedT) (es : Array (Int × Value)) (ep : Nat) (t : SetTable) (l rest : List (Nat × Tok)) (Q : PUnit → SharedT → Prop),
    r < S.n → b < S.n → S.tree.get r = some (setO es ep t) → S.tree.get b = some (setO es2 was t2) → SOk w es t l → l.length < 1000 → l.Perm (xs.map (fun x => (x.1, x.2.1)) ++ rest) → (xs.map (·.1)).Nodup → (∀ x ∈ xs, ∀ y ∈ rest, y.1 ≠ x.1) → (∀ x ∈ xs, EqOk p w x.1 x.2.1 x.2.2) →
    (∀ es' ep' t', SOk w es' t' rest → t'.mask = t.mask → t'.dummies.size = t.dummies.size + xs.length → Q ⟨⟩ (put S r (setO es' ep' t'))) →
    GoS p w (((forIn (xs.map fun x => ent w (x.1, x.2.2)) PUnit.unit fun (x : Int × Value) (_ : PUnit) => (do
        let _ ← holding [x.2] (setDiscardHashed r x.2 x.1)
        unchanged ids b was
        pure (ForInStep.yield PUnit.unit) : Sem (ForInStep PUnit))).keep [.ref b]).keep [.ref r]) S Q
  | [], S, es, ep, t, l, rest, Q, hr, hb, hor, hob, hS, hl, hp, hn, hd, he, h => by
    rw [List.map_nil, List.forIn_nil]
    refine sv_pureK2 ?_
    have := h es ep t ⟨hS.1.trans (hp.map _), hS.2⟩ rfl rfl
    have e : put S r (setO es ep t) = S := by
      show ({ S with tree := _ } : SharedT) = S
      rw [bt_set_same hor]
    rw [e] at this
    exact this
  | (c, tk1, tk2) :: xs, S, es, ep, t, l, rest, Q, hr, hb, hor, hob, hS, hl, hp, hn, hd, he, h => by
    rw [List.map_cons, List.forIn_cons]
    refine GoS.k2 ?_
    simp only [List.map_cons, List.nodup_cons, List.mem_map, not_exists, not_and] at hn
    refine GoS.k2 (m := setDiscardHashed r (.str ⟨#[c]⟩ tk2) (PyData.keyHash w.params ⟨#[c]⟩)) (go_discard (rest := xs.map (fun x => (x.1, x.2.1)) ++ rest) h0 hr hor hS hl (by simpa using hp) ?_ (he _ (.head _)) fun es' ep' t' h1 h2 h3 => ?_)
    · intro x hx
      rcases List.mem_append.mp hx with hx | hx
      · obtain ⟨y, hy, rfl⟩ := List.mem_map.mp hx
        exact hn.1 y hy
      · exact hd _ (.head _) x hx
    · have hob' : (put S r (setO es' ep' t')).tree.get b = some (setO es2 was t2) := by rw [get_put_ne hrb]; exact hob
      unfold unchanged
      refine GoS.k2 ?_
      refine GoS.k2 (GoS.sv2 (sv_setEpoch (S := put S r (setO es' ep' t')) hb hob' hb2 ?_))
      rw [show (was != was) = false by simp]
      simp only [Bool.false_eq_true, if_false]
      refine sv_pureK2 (sv_pureK2 ?_)
      dsimp only
      refine go_discards hb2 h0 hrb xs (put S r (setO es' ep' t')) es' ep' t' _ rest Q hr hb (get_put hor) hob' h1 (by have := hp.length_eq; simp at this; simp; omega) (List.Perm.refl _) hn.2 (fun x hx => hd x (.tail _ hx)) (fun x hx => he x (.tail _ hx)) fun es3 ep3 t3 k1 k2 k3 => ?_
      rw [put_put]
      exact h _ _ _ k1 (k2.trans h2) (by rw [k3, h3]; simp; omega)
theorem perm_of_map {α β : Type} {f : α → β} : ∀ {l : List β} {tr : List α}, l.Perm (tr.map f) → ∃ xs : List α, xs.Perm tr ∧ l = xs.map f
  | [], tr, h => by
    have := h.length_eq
    cases tr with
    | nil => exact ⟨[], List.Perm.nil, rfl⟩
    | cons => simp at this
  | a :: l, tr, h => by
    obtain ⟨x, hx, rfl⟩ := List.mem_map.mp (h.mem_iff.mp (.head _))
    obtain ⟨s, t, rfl⟩ := List.append_of_mem hx
    have h2 : l.Perm ((s ++ t).map f) := by
      rw [List.map_append, List.map_cons] at h
      rw [List.map_append]
      exact (h.trans List.perm_middle).cons_inv
    obtain ⟨xs, h3, rfl⟩ := perm_of_map h2
    exact ⟨x :: xs, (h3.cons x).trans List.perm_middle.symm, rfl⟩
section
variable {p : Program} {w : World} {S : SharedT} {a : Addr} {es : Array (Int × Value)} {ep : Nat} {t : SetTable} {l : List (Nat × Tok)}
theorem go_sub {M : Nat} {tr : List (Nat × Nat × Nat)} {l2 rest : List (Nat × Tok)} {b : Addr} {es2 : Array (Int × Value)} {ep2 : Nat} {t2 : SetTable} {Q : Fin → SharedT → Prop} (hM : coversB M = true)
    (hroom : SetTable.sizeAbove (l.length * 2) - 1 = M ∧ SetTable.sizeAbove (l.length * 2) ≤ sizeLine ∧ 5 ≤ l.length) (hsz : l.length / 4 > l2.length) (hsz2 : l2.length / 8 = 0)
    (hi : ∀ o, ((S.tree.ins S.n o).get S.n).isSome = true) (h63 : 63 ≤ S.n) (ha : a < S.n) (hb : b < S.n) (hab : a ≠ b) (ho : S.tree.get a = some (setO es ep t)) (hob : S.tree.get b = some (setO es2 ep2 t2))
    (hS : SOk w es t l) (hS2 : SOk w es2 t2 l2) (hl : l.length ≤ M) (hl' : l.length < 1000)
    (h2 : l2 = tr.map fun x => (x.1, x.2.2)) (hp : l.Perm (tr.map (fun x => (x.1, x.2.1)) ++ rest)) (hnd : (tr.map (·.1)).Nodup) (hdj : ∀ x ∈ tr, ∀ y ∈ rest, y.1 ≠ x.1) (he : ∀ x ∈ tr, EqOk p w x.1 x.2.1 x.2.2) (hmk : tr.length ≤ M / 4)
    (h : ∀ o es' ep' t', SOk w es' t' rest → Q (.done (.ret (.ref S.n))) (put (grow S o) S.n (setO es' ep' t'))) : GoS p w (Builtin.«frozenset.__sub__» ⟨[.ref a, .ref b], []⟩) S Q := by
  have eq : Builtin.«frozenset.__sub__» ⟨[.ref a, .ref b], []⟩ = Sem.bind (isAnySet (.ref a) <&&> isAnySet (.ref b)) fun y => (if (!y) = true then (do rule s!"frozenset.{"__sub__"}.declined"; return ← ret .notImplemented) else do
      ret (← difference s!"frozenset.{"__sub__"}" a (.ref b))) := by
    with_unfolding_all rfl
  rw [eq]
  refine GoS.bind (GoS.of ?_)
  refine sv_bind _ _ S _ (sv_isAny ha ho ?_)
  refine sv_mono _ _ _ _ (sv_isAny hb hob (Q := fun y S' => y = true ∧ S = S') ⟨rfl, rfl⟩) ?_
  rintro y S' ⟨rfl, rfl⟩
  rw [if_neg (by decide)]
  refine GoS.bind ?_
  unfold difference
  refine GoS.bind (GoS.of (sv_isAny hb hob ?_))
  dsimp only
  simp only [Bool.not_true, Bool.false_and, Bool.false_eq_true, if_false, if_true]
  unfold Builtin.Frozenset.sizeOf
  refine GoS.pureB ?_
  refine GoS.bind (GoS.of ?_)
  refine sv_bind _ _ S _ (sv_setEntries hb hob hS2.2 ?_)
  rw [hS2.size]
  refine sv_pure ?_
  refine GoS.bind (GoS.of ?_)
  refine sv_bind _ _ S _ (sv_setEntries ha ho hS.2 ?_)
  rw [hS.size]
  refine sv_pure ?_
  rw [if_pos hsz]
  refine GoS.ruleB ?_
  refine GoS.bind (GoS.of (sv_copyOf hM (.inr hroom) hi h63 ha ho hS (by omega) hl hl' fun o es' ep' t' h1 h2' h3 => ?_))
  refine GoS.pureB ?_
  refine GoS.bind ?_
  unfold differenceUpdate
  have hsn : (Value.ref b == .ref S.n) = false := by rw [beq_eq_false_iff_ne]; intro q; injection q with q; exact Nat.ne_of_lt hb q
  rw [hsn]
  simp only [Bool.false_eq_true, if_false]
  have hbn : b ≠ S.n := Nat.ne_of_lt hb
  have hob' : (put (grow S o) S.n (setO es' ep' t')).tree.get b = some (setO es2 ep2 t2) := by
    rw [get_put_ne hbn, get_grow_old (hi _) hb]; exact hob
  have hor' : (put (grow S o) S.n (setO es' ep' t')).tree.get S.n = some (setO es' ep' t') := get_put (get_grow_new (hi o))
  have hbl : b < (put (grow S o) S.n (setO es' ep' t')).n := Nat.lt_succ_of_lt hb
  have hrl : S.n < (put (grow S o) S.n (setO es' ep' t')).n := Nat.lt_succ_self _
  change GoS p w (Sem.keep [.ref S.n] _) _ _
  refine GoS.k1 (GoS.sv1 (sv_isAny hbl hob' ?_))
  rw [if_pos rfl]
  refine GoS.k1 (GoS.sv1 (sv_pure ?_))
  unfold Builtin.Frozenset.sizeOf
  refine GoS.k1 (GoS.sv1 (sv_bind _ _ _ _ (sv_setEntries hbl hob' hS2.2 (sv_pure ?_))))
  refine GoS.k1 (GoS.sv1 (sv_bind _ _ _ _ (sv_setEntries hrl hor' h1.2 (sv_pure ?_))))
  rw [hS2.size, h1.size, hsz2, if_neg (Nat.not_lt_zero _)]
  refine GoS.k1 (GoS.sv1 (sv_setEpoch hbl hob' hS2.2 ?_))
  refine GoS.k1 ?_
  change GoS p w (Sem.keep [.ref S.n] (Sem.keep [.ref b] _)) _ _
  refine GoS.k2 (GoS.sv2 (sv_walkUnseen hbl hob' hS2 (fun c hc => ?_) (.inl rfl) fun ws hws => ?_))
  · obtain rfl := List.mem_singleton.mp hc
    exact ⟨hrl, _, _, _, _, hor', h1⟩
  · have hws2 : ws.toList.Perm (tr.map fun x => ent w (x.1, x.2.2)) := by
      have := hws.trans hS2.1
      rw [h2, List.map_map] at this
      exact this
    obtain ⟨xs, hxs, hwe⟩ := perm_of_map hws2
    rw [← Array.forIn_toList, hwe]
    refine GoS.k2 (go_discards hS2.2 h63 hbn xs _ es' ep' t' l rest _ hrl hbl hor' hob' h1 hl' (hp.trans (List.Perm.append_right _ (hxs.symm.map _))) ((hxs.map (·.1)).nodup_iff.mpr hnd) (fun x hx => hdj x (hxs.mem_iff.mp hx)) (fun x hx => he x (hxs.mem_iff.mp hx)) fun es3 ep3 t3 k1 k2 k3 => ?_)
    refine sv_pureK2 ?_
    rw [put_put]
    have hor3 : (put (grow S o) S.n (setO es3 ep3 t3)).tree.get S.n = some (setO es3 ep3 t3) := get_put (get_grow_new (hi o))
    refine GoS.sv1 ?_
    unfold setTidy
    refine sv_bind _ _ _ _ (sv_setState hrl hor3 k1.2 ?_)
    dsimp only
    have hnt : t3.tooManyDummies = false := by
      unfold SetTable.tooManyDummies
      rw [k3, k2, h2', h3]
      simp only [Array.size_empty, Nat.zero_add, decide_eq_false_iff_not, gt_iff_lt, Nat.not_lt]
      rw [hxs.length_eq]; exact hmk
    rw [hnt, if_neg (by decide)]
    exact GoS.of (sv_pure (GoS.of (sv_pure (h _ _ _ _ k1))))
end
end
section
set_option hygiene false
local macro_rules
  | `(tactic| obtain $p:rcasesPatMed := $h:term) => `(tactic| (refine Classical.byContradiction fun hng9 => ?_; rcases $h:term with $p:rcasesPatMed <;> (refine hng9 ?_; clear hng9)))
set_option hygiene true
abbrev q (x : String) : Str := Str.ofString x
noncomputable def de (P : Params) (k : Str) (t : Nat) (v : Value) : DictEntry := ⟨PyData.keyHash P k, .str k t, v⟩
noncomputable def L (o : Obj) : BT := .node o .nil .nil
noncomputable def mk (T : BT) (n toks : Nat) (gens : Array GenState) (os : OsState) : SharedT := ⟨T, n, {}, gens, {}, toks, os⟩
structure SC where
  es : Array (Int × Value)
  ep : Nat
  t : SetTable
noncomputable def so (x : SC) : Obj := setO x.es x.ep x.t
noncomputable def upd (g : Nat → SC) (a : Nat) (o : SC) : Nat → SC := fun i => match Nat.beq i a with
  | true => o
  | false => g i
noncomputable abbrev TT := PySem.W.Fast.tw14364793385576792824
noncomputable abbrev DEN (c : Code) : Sem Fin := PySem.W.Fast.tw11892475500146522536 TT c
noncomputable abbrev lcode (a it : Addr) : Code := .builtin "set.update.loop" ⟨[.ref a, .ref it], []⟩
theorem DEN_eq (c : Code) : DEN c = denote treeTable c := by
  unfold DEN TT
  rw [← PySem.W.Fast.te11892475500146522536, ← PySem.W.Fast.te14364793385576792824]
noncomputable abbrev SADD (a : Addr) (x : Value) (h : Int) : Sem Bool := PySem.W.Fast.tw16065284519293194179 a x h
theorem SADD_eq (a : Addr) (x : Value) (h : Int) : SADD a x h = setAddHashed a x h := by
  unfold SADD
  rw [← PySem.W.Fast.te16065284519293194179]
noncomputable abbrev restQ (rest : List Stmt) (env : Env) (c : Code) (p : Pos) : Thread := ⟨(PySem.W.Fast.tw12563942051412417395 rest env).wrap doneF (leaveH env) id id, c, p, [topFrame ⟨0, 0, 0, 0⟩]⟩
theorem restQ_eq (rest : List Stmt) (env : Env) (c : Code) (p : Pos) : restQ rest env c p = restOf rest env c p [topFrame ⟨0, 0, 0, 0⟩] := by
  unfold restOf restQ
  rw [← PySem.W.Fast.te12563942051412417395]
noncomputable def stackOf (x : Option (SharedT × Thread)) : List Frame := match x with
  | some (_, t) => t.stack
  | none => []
noncomputable def gensOf (x : Option (SharedT × Thread)) : Array GenState := match x with
  | some (s, _) => s.gens
  | none => #[]
structure FV where
  k : Result → Sem Fin
  live : List Value
  args : Args
  pos : Pos
  kept : List Value
noncomputable def fB (id : String) (args : Args) (x : FV) : Frame := .ret x.k none false x.live (.builtin id args) x.pos x.kept
noncomputable def fC (c : Code) (x : FV) : Frame := .ret x.k none false x.live c x.pos x.kept
noncomputable def fvOf (F : Frame) : FV := match F with
  | .ret k _ _ l c p kp => match c with
    | .builtin _ a => ⟨k, l, a, p, kp⟩
    | _ => ⟨k, l, {}, p, kp⟩
  | _ => ⟨fun _ => .pure (.done .next), [], {}, ⟨0, 0, 0, 0⟩, []⟩
noncomputable def nthF (l : List Frame) (i : Nat) : FV := match l, i with
  | F :: _, 0 => fvOf F
  | _ :: l, i + 1 => nthF l i
  | [], _ => ⟨fun _ => .pure (.done .next), [], {}, ⟨0, 0, 0, 0⟩, []⟩
theorem cons_of {l : List Frame} (h : l.isEmpty = false) : ∃ F st, l = F :: st := by
  cases l with
  | nil => cases h
  | cons F st => exact ⟨F, st, rfl⟩
theorem again_step {p : Program} {w : World} {S : SharedT} {a it : Addr} {pos : Pos} {F : Frame} {st : List Frame} :
    RT p w S ⟨.pure (.again (lcode a it)), lcode a it, pos, F :: st⟩ S ⟨DEN (lcode a it), lcode a it, pos, F :: st⟩ := by
  rw [DEN_eq]
  refine goT_one ?_ rfl
  have : "set.update.loop".startsWith "lifetime." = false := by decide +kernel
  simp only [stepOk, Thread.calm, Thread.atCollectorCode, Thread.yieldsInsideHandler, this]
  rfl
noncomputable def loopW (sadd : Addr → Value → Int → Sem Bool) (a it : Addr) : Sem Fin := do
  let some x ← pyNext (.ref it) | ret .none
  let _ ← holding [x] (holding [x] do sadd a x (← pyHash x))
  again (lcode a it)
theorem den_loop (a it : Addr) : DEN (lcode a it) = loopW setAddHashed a it := by
  rw [DEN_eq]
  have e : entryFor treeTable "set.update.loop" = some Builtin.«set.update.loop» := by kernel_rfl
  unfold denote
  dsimp only
  rw [e]
  rfl
theorem bind_pure_fin (m : Sem Fin) : m.bind .pure = m := by
  have := bind_pure (m := Sem) m
  exact this
theorem loop_fill {p : Program} {w : World} {a it : Addr} {N : Nat} (F : Frame) (st : List Frame) (cs : Nat → Nat × Tok) (LS : Nat → SC → SharedT) (h0 : 63 ≤ a) (hN : N < 1000)
    (turn : ∀ i, i < N → ∀ sadd o pos, RT p w (LS i o) ⟨loopW sadd a it, lcode a it, pos, F :: st⟩ (LS (i + 1) o) ⟨(sadd a (.str ⟨#[(cs i).1]⟩ (cs i).2) (PyData.keyHash w.params ⟨#[(cs i).1]⟩)).bind fun _ => .pure (.again (lcode a it)), lcode a it, pos, F :: st⟩)
    (hg : ∀ i o, (LS i o).tree.get a = some (so o)) (hn : ∀ i o, a < (LS i o).n) (norm : ∀ i o o', put (LS i o) a (so o') = LS i o') (hd : ∀ i j, j < i → i < N → (cs j).1 ≠ (cs i).1) :
    ∀ k i, i + k = N → ∀ o pos, SOk w o.es o.t (((List.range i).map cs).reverse) → ∃ o' pos', SOk w o'.es o'.t (((List.range N).map cs).reverse) ∧
      RT p w (LS i o) ⟨DEN (lcode a it), lcode a it, pos, F :: st⟩ (LS N o') ⟨DEN (lcode a it), lcode a it, pos', F :: st⟩
  | 0, i, hi, o, pos, hS => by
    obtain rfl : i = N := by omega
    exact ⟨o, pos, hS, RT.refl _ _⟩
  | k + 1, i, hi, o, pos, hS => by
    have hiN : i < N := by omega
    have r1 := turn i hiN setAddHashed o pos
    rw [← den_loop] at r1
    obtain ⟨b, S', pos', ⟨es', ep', t', hb, hS', ok⟩, r2⟩ := sv_go (p := p) (w := w) (f := fun _ => Sem.pure (Fin.again (lcode a it))) (c := lcode a it) (F := F) (st := st) (setAddHashed a (.str ⟨#[(cs i).1]⟩ (cs i).2) (PyData.keyHash w.params ⟨#[(cs i).1]⟩)) (LS (i + 1) o)
      (fun b S' => ∃ es' ep' t', b = true ∧ S' = put (LS (i + 1) o) a (setO es' ep' t') ∧ SOk w es' t' (cs i :: ((List.range i).map cs).reverse)) pos
      (sv_setAdd h0 (hn _ _) (hg _ _) hS (by simp; omega) (by
        intro x hx
        rw [List.mem_reverse, List.mem_map] at hx
        obtain ⟨j, hj, rfl⟩ := hx
        exact hd i j (List.mem_range.mp hj) hiN) fun es' ep' t' ok => ⟨es', ep', t', rfl, rfl, ok⟩)
    subst hS'
    rw [show setO es' ep' t' = so ⟨es', ep', t'⟩ from rfl, norm] at r2
    have e : ((List.range (i + 1)).map cs).reverse = cs i :: ((List.range i).map cs).reverse := by
      rw [List.range_succ, List.map_append, List.reverse_append]; rfl
    obtain ⟨o3, pos3, ok3, r3⟩ := loop_fill F st cs LS h0 hN turn hg hn norm hd k (i + 1) (by omega) ⟨es', ep', t'⟩ pos' (by rw [e]; exact ok)
    exact ⟨o3, pos3, ok3, (r1.trans r2).trans (again_step.trans r3)⟩
theorem op_run {p : Program} {w : World} {S : SharedT} {m : Sem Fin} {c : Code} {pos : Pos} {F : Frame} {st : List Frame} {Q : Fin → SharedT → Prop} (h : GoS p w m S Q) : ∃ a S' pos', Q a S' ∧ RT p w S ⟨m, c, pos, F :: st⟩ S' ⟨.pure a, c, pos', F :: st⟩ := by
  obtain ⟨a, S', pos', h1, h2⟩ := h .pure c pos F st
  rw [bind_pure_fin] at h2
  exact ⟨a, S', pos', h1, h2⟩
theorem den_or (args : Args) : DEN (.builtin "frozenset.__or__" args) = Builtin.«frozenset.__or__» args := by
  rw [DEN_eq]
  have e : entryFor treeTable "frozenset.__or__" = some Builtin.«frozenset.__or__» := by kernel_rfl
  unfold denote
  dsimp only
  rw [e]
theorem den_sub (args : Args) : DEN (.builtin "frozenset.__sub__" args) = Builtin.«frozenset.__sub__» args := by
  rw [DEN_eq]
  have e : entryFor treeTable "frozenset.__sub__" = some Builtin.«frozenset.__sub__» := by kernel_rfl
  unfold denote
  dsimp only
  rw [e]
theorem eqOk_a (p : Program) (w : World) : EqOk p w 9 1519 1615 := by
  intro b r S
  revert w
  refine byRowG "special-get-raises" fun v w => ?_
  intro f c pos F st
  obtain ⟨T, n, life, gens, drawn, toks, os⟩ := S
  refine ⟨true, _, pos, ⟨rfl, rfl⟩, RT.ofQ (n := 4) ?_⟩
  cases v <;> kernel_rfl
theorem eqOk_b (p : Program) (w : World) : EqOk p w 9 1519 1619 := by
  intro b r S
  revert w
  refine byRowG "special-get-raises" fun v w => ?_
  intro f c pos F st
  obtain ⟨T, n, life, gens, drawn, toks, os⟩ := S
  refine ⟨true, _, pos, ⟨rfl, rfl⟩, RT.ofQ (n := 4) ?_⟩
  cases v <;> kernel_rfl
theorem eqOk_c (p : Program) (w : World) : EqOk p w 10 1523 1621 := by
  intro b r S
  revert w
  refine byRowG "special-get-raises" fun v w => ?_
  intro f c pos F st
  obtain ⟨T, n, life, gens, drawn, toks, os⟩ := S
  refine ⟨true, _, pos, ⟨rfl, rfl⟩, RT.ofQ (n := 4) ?_⟩
  cases v <;> kernel_rfl
end
section
open PySem.Spec PySem.Calls
set_option hygiene false
local macro_rules
  | `(tactic| obtain $p:rcasesPatMed := $h:term) => `(tactic| (refine Classical.byContradiction fun hng9 => ?_; rcases $h:term with $p:rcasesPatMed <;> (refine hng9 ?_; clear hng9)))
set_option hygiene true
noncomputable def goS (p : Program) (w : World) : Nat → SharedT → Thread → Option (SharedT × Thread)
  | 0, S, t => some (S, t)
  | n + 1, S, t => match through t with
    | true => none
    | false => match PySem.W.Fast.tw6613529449190102663 63 (some (.ref 6)) t with
      | false => none
      | true => match PySem.W.Fast.tw10156331382660048174 (PySem.W.Fast.tw11892475500146522536 PySem.W.Fast.tw14364793385576792824) p w S t with
        | some (S', t') => goS p w n S' t'
        | none => none
theorem goS_top {p : Program} {w : World} : ∀ {n S t S' t' N r}, goS p w n S t = some (S', t') → topRun treeTable p w 63 (some (.ref 6)) N S'.abs t' = some r → topRun treeTable p w 63 (some (.ref 6)) (n + N) S.abs t = some r
  | 0, S, t, S', t', N, r, h, k => by
    obtain ⟨rfl, rfl⟩ : S = S' ∧ t = t' := by simpa [goS] using h
    rw [Nat.zero_add]; exact k
  | n + 1, S, t, S', t', N, r, h, k => by
    rw [show n + 1 + N = n + N + 1 by omega]
    unfold goS at h
    unfold topRun
    rw [← PySem.W.Fast.te6613529449190102663, ← PySem.W.Fast.te10156331382660048174, ← PySem.W.Fast.te11892475500146522536, ← PySem.W.Fast.te14364793385576792824] at h
    cases ht : through t with
    | true => rw [ht] at h; cases h
    | false =>
      rw [ht] at h
      cases hk : stepOk 63 (some (.ref 6)) t with
      | false => rw [hk] at h; cases h
      | true =>
        rw [hk] at h
        cases hs : stepT (denote treeTable) p w S t with
        | none => rw [hs] at h; cases h
        | some r' => obtain ⟨S₂, t₂⟩ := r'; rw [hs] at h; dsimp only; rw [stepT_spec hs]; exact goS_top h k
noncomputable def opR (p : Program) (n : Nat) (w : World) (os : OsState) := PySem.W.Fast.tw14789777615569096658 TT p w n ⟨.nil, 0, {}, #[], {}, 1, os⟩ (start p).2
noncomputable def seeR (x : Option (SharedT × Thread)) : Option (SharedT × Option (List Value)) := match x with
  | some (s, t) => some (s, t.atExitBegin)
  | none => none
theorem see_start {p : Program} {w : World} {n : Nat} {S : SharedT} (h : ∀ os, seeR (opR p n w os) = some ({ S with os := os }, some [])) :
    importEnds treeTable p w (n + 1) (start p).1 (start p).2 = some (SharedT.abs { S with os := (start p).1.os }) := by
  have h := h (start p).1.os
  generalize hx : opR p n w (start p).1.os = x at h
  cases x with
  | none => cases h
  | some x =>
    obtain ⟨s, t⟩ := x
    have h' : (s, t.atExitBegin) = (({ S with os := (start p).1.os } : SharedT), some []) := Option.some.inj h
    have h1 : s = { S with os := (start p).1.os } := congrArg Prod.fst h'
    have ht : t.atExitBegin = some [] := congrArg Prod.snd h'
    have hy : impGoT treeTable p w n ⟨.nil, 0, {}, #[], {}, 1, (start p).1.os⟩ (start p).2 = some (s, t) := by
      rw [← hx]
      unfold opR TT
      rw [← PySem.W.Fast.te14789777615569096658, ← PySem.W.Fast.te14364793385576792824]
    rw [← h1]
    refine imp_go (impGo_of hy) ?_
    unfold importEnds
    rw [ht]
def HeadW (p q : Program) (loose : List Str) (Xt : Shared → Bool) (YP : World → Heap → Prop) (w : World) : Prop :=
  ∃ (s s₀ s₁ : Shared) (Na Nb : Nat), importEnds treeTable (opening p) w Na (start (opening p)).1 (start (opening p)).2 = some s ∧ fenceModules? p s = some s₀ ∧ topFrom treeTable p w Nb s₀ = some s₁ ∧
    openSeen q loose (importedModules p.main.body) Xt false s₁ = openGood q loose ∧ YP w s₁.heap
theorem HeadW.behind {p q : Program} {loose : List Str} {Xt : Shared → Bool} {XP : (Str → Option Value) → Heap → Prop} {YP : World → Heap → Prop} {w : World} (H : HeadW p q loose Xt YP w)
    (hX : ∀ s, Xt s = true → XP (s.heap.nsMap mainGlobals) s.heap) (hch : chainsOk q = true) :
    (∃ s, AfterRun (opening p) w s) ∧ ∀ s, AfterRun (opening p) w s → ∃ s₀, fenceModules? p s = some s₀ ∧ s₀.gens = #[] ∧ ∃ s₁, TopRan p w s₀ s₁ ∧ s₁.asleep ∧ leftWithCleanup s₁.gens = false ∧ s₁.heap.isNs mainGlobals = true ∧
      Ground q loose [] XP w s₁ (s₁.heap.nsMap mainGlobals) (s₁.heap.nsMap builtinsNs) s₁.heap ∧ YP w s₁.heap := by
  obtain ⟨s, s₀, s₁, Na, Nb, h1, h2, h3, h4, hY⟩ := H
  rw [← table_eq_tree] at h1 h3
  have A := AfterImport.of_importEnds h1
  refine ⟨⟨s, A⟩, fun t ht => ?_⟩
  cases AfterImport.unique ht A
  have z : s₀.asleep := Shared.asleep_of_life (fence_lifeW h2) A.life
  unfold topFrom at h3
  cases hc : (s₀.heap.isNs mainGlobals && s₀.gens.size == 0) with
  | false => rw [hc] at h3; cases h3
  | true =>
    rw [hc] at h3
    obtain ⟨hg, hn⟩ := Bool.and_eq_true_iff.mp hc
    obtain ⟨s₂, h5, h6⟩ := Option.bind_eq_some_iff.mp h3
    cases hs : (staticsOk (importedModules p.main.body) s₀.heap s₂.heap && namesBound p s₂.heap && gensDone s₂ && laidKept s₀.heap s₂.heap) with
    | false => rw [hs] at h6; cases h6
    | true =>
      rw [hs] at h6
      cases Option.some.inj h6
      simp only [Bool.and_eq_true] at hs
      obtain ⟨⟨⟨hst, hnb⟩, hgd⟩, hlk⟩ := hs
      obtain ⟨a, l, os, fr⟩ := topRun_spec _ _ _ _ z h5
      obtain ⟨G, g0, g1, g2, g3, g4, g5⟩ := ground_of_open (w := w) hX hch h4
      have g0' : leftWithCleanup s₁.gens = false := by simpa using g0
      refine ⟨s₀, h2, Array.eq_empty_of_size_eq_zero (beq_iff_eq.mp hn), s₁, ?_, Shared.asleep_of_life l z, g0', g1, G, hY⟩
      exact ⟨a, l, Shared.rest_eq os, fun b o hb hn => fr b o (Heap.lt_size hb) (fun q => hn (.inl q)) (fun q => hn (.inr (.inl q))) (fun q => hn (.inr (.inr ((Pin.globalOf_eq hg _).trans q)))) hb,
        g2, statics_of_ok hst, g3, g4, g5, gens_of_done hgd, names_of_bound hnb, laid_of_kept hlk⟩
def GoodK (c : ClaimW) (cl : Str → Option Addr) (mean : ExcName → Option Value) (args : List WData) (s₁ : Shared) (res : Result) (s' : Shared) : Prop := GoodWG c cl mean args s₁ res s' ∧ s'.gens = #[]
abbrev WalkK (q : Program) (loose : List Str) (XP : (Str → Option Value) → Heap → Prop) (YP : World → Heap → Prop) (r : RowW) (d : DefRec) (kwd : List (Str × PySem.Expr)) (run : Value → List Value → Sem Value) : Prop :=
  ∀ (w : World) (s₀ s₁ : Shared) (mg mb : Str → Option Value), Ground q loose r.records XP w s₀ mg mb s₁.heap → YP w s₁.heap → ∀ (a : Addr) (o : Obj) (pm cd doc dV kV : Value), s₁.heap.get? a = some o →
    o.data = .func { docDef d.name d.params d.body d.scope pm cd doc with defaults := dV, kwdefaults := kV } → s₁.heap.CodeRec cd d.name → Dflts mg s₁.heap d.params kwd dV kV → mg d.name = some (.ref a) → s₁.gens = #[] →
    ∀ (args : List WData) (vals : List Value) (as : List Addr), r.claim.pre args = true → WData.layableAll args = true → ReadsAllW r.records (classAt s₀.heap) s₁.heap vals args as → WellAll w.params s₁.heap vals args → (∀ a ∈ as, (a == sysModules) = false) →
      wpAny (model r.prog w) callerA (run (.ref a) vals) (fun v s' => GoodK r.claim (classAt s₀.heap) (ExcName.means s₀.heap) args s₁ (.ok (.ret v)) s')
        (fun e s' => GoodK r.claim (classAt s₀.heap) (ExcName.means s₀.heap) args s₁ (.error e) s') s₁
theorem goodK_ends {c : ClaimW} {s₀ s₁ s' : Shared} {args : List WData} {vs : List Value} {as : List Addr} {r : Result} (hsame : c.same = none) (hwi : c.within = []) (hi : ∀ a b, c.ident a b = true)
    (hrd : ReadsAllW c.records (classAt s₀.heap) s₁.heap vs args as) (hold : ∀ a ∈ as, ∃ o, s₁.heap.get? a = some o) (hos₁ : s₁.os = s₀.os)
    (g : GoodK c (classAt s₀.heap) (ExcName.means s₀.heap) args { s₁ with gens := #[] } r s') : c.Ends s₀ args vs s₁ r s' ∧ s'.os = s₀.os ∧ s'.gens = #[] := by
  obtain ⟨⟨hcase, hK, hos, _⟩, hg⟩ := g
  refine ⟨?_, hos.trans hos₁, hg⟩
  rcases hcase with ⟨v, d, bs, rfl, hnr, hrv, hpost, hun⟩ | ⟨e, ob, cls, rfl, he, hcls, hpr, hnew⟩
  · refine .inl ⟨v, rfl, hnr, ⟨d, args, bs, as, hrv, hrd.keepsK fun b o e hc => hK.get_of_cls e hc, hpost, fun hu => ⟨(hun hu).1, (hun hu).2, fun a ha hb => ?_⟩, fun _ _ => hi _ _⟩, fun i hi' => ?_, fun b o hb _ _ => hK.old b o hb, fun i hi' => ?_⟩
    · obtain ⟨o, ho⟩ := hold a hb
      have := (hun hu).2 a ha
      rw [show s₁.heap.get? a = none from this] at ho; cases ho
    · rw [hsame] at hi'; cases hi'
    · rw [hwi] at hi'; cases hi'
  · exact .inr ⟨e, ob, cls, rfl, he, hcls, hpr, hnew, fun b o hb => hK.old b o hb⟩
theorem open_headW {r : RowW} {run : Value → List Value → Sem Value} {tree : List Value → Sem Fin} {q : Program} {loose defs kps : List Str} {writes : Bool} {Xt : Shared → Bool} {XP : (Str → Option Value) → Heap → Prop} {YP : World → Heap → Prop}
    (left : ∀ w, HeadW r.prog q loose Xt YP w) (hYk : ∀ w h h', YP w h → (∀ b o, h.get? b = some o → h'.get? b = some o) → YP w h') (hX : ∀ s, Xt s = true → XP (s.heap.nsMap mainGlobals) s.heap) (hXk : ∀ mg h h', XP mg h → (∀ b o, h.get? b = some o → h'.get? b = some o) → XP mg h')
    (hRf : ∀ s, Xt s = true → RecFacts r.records s.heap) (hwr : (!writes || r.records.isEmpty) = true) (ok : (chainsOk q && opensWell r.prog && (frees r && r.within.isEmpty)) = true) (hb : r.prog.bare) (hw : r.promised)
    (ht : ∀ vs (w : World) (s : Shared) mg f (Q : Fin → Shared → Prop) (E : Value → Shared → Prop), s.heap.Ns mainGlobals mg → mg r.name = some f → wpAny (model r.prog w) callerA (run f vs) (fun v s' => Q (.done (.ret v)) s') E s → wpAny (model r.prog w) callerA (tree vs) Q E s)
    (pin : ∀ w s, s.heap.isNs mainGlobals = true → Ground q loose [] XP w s (s.heap.nsMap mainGlobals) (s.heap.nsMap builtinsNs) s.heap → ∀ n ∈ defs, isTheDefsW r.prog s.heap n)
    (call : ∀ (w : World) (s₀ s₁ : Shared) (mg mb : Str → Option Value), Ground q loose r.records XP w s₀ mg mb s₁.heap → YP w s₁.heap → ∀ (args : List WData) (vs : List Value) (as : List Addr),
      r.claim.pre args = true → WData.layableAll args = true → s₁.gens = #[] → ReadsAllW r.records (classAt s₀.heap) s₁.heap vs args as → WellAll w.params s₁.heap vs args → (∀ a ∈ as, (a == sysModules) = false) → ∃ f, mg r.name = some f ∧
        wpAny (model r.prog w) callerA (run f vs) (fun v s' => GoodK r.claim (classAt s₀.heap) (ExcName.means s₀.heap) args s₁ (.ok (.ret v)) s')
          (fun e s' => GoodK r.claim (classAt s₀.heap) (ExcName.means s₀.heap) args s₁ (.error e) s') s₁) : r.claim.HoldsOpenBy (fun vs => ⟨tree vs, .builtin "claim.caller" {}, default, []⟩) defs kps writes := by
  simp only [Bool.and_eq_true] at ok
  obtain ⟨⟨hch, o1⟩, k5, k6⟩ := ok
  obtain ⟨hsame, hu, ha, hap, hm⟩ := frees_parts k5
  have hX2 : ∀ s, Xt s = true → (fun mg h => XP mg h ∧ RecFacts r.records h) (s.heap.nsMap mainGlobals) s.heap := fun s hs => ⟨hX s hs, hRf s hs⟩
  refine ⟨⟨hb, o1, by show r.makers.map _ = []; rw [hm]; rfl⟩, hw.witness, fun w => ⟨((left w).behind (XP := fun mg h => XP mg h ∧ RecFacts r.records h) hX2 hch).1, fun s' hs' => ?_⟩⟩
  obtain ⟨s₀, hf, hg0, s, hT, hz, hgens, hg, G0, y⟩ := ((left w).behind (XP := fun mg h => XP mg h ∧ RecFacts r.records h) hX2 hch).2 s' hs'
  have RF := G0.X.2
  have G1 : Ground q loose [] XP w s (s.heap.nsMap mainGlobals) (s.heap.nsMap builtinsNs) s.heap := ⟨G0.T, G0.B, G0.D, G0.TE, G0.TD, G0.W, G0.X.1, G0.cls, G0.has, G0.apart, G0.once, G0.K⟩
  have hT' := hT
  refine ⟨s₀, hf, hg0, s, hT, pin w s hg G1, RF.1, RF.2.1, ?_⟩
  have G : Ground q loose r.records XP w s _ _ s.heap := RF.ground G1
  refine ClaimW.callFrom_of_specN (c := r.claim) hz hgens fun args hpre hlay ord hord => ?_
  obtain ⟨⟨vs, s₁⟩, hlaid⟩ := Option.isSome_iff_exists.mp (layAllW_isSome (P := w.params) (ord := ord) G.has args r.args s (pre_splitW hpre).1)
  have keeps := layAllW_keeps _ _ _ hlaid
  have hal := layAllW_rest _ _ _ hlaid
  obtain ⟨as, hrd, hin, hold⟩ := reads_layAllW hord _ _ _ hlaid hlay s₁.heap (fun _ _ e => e)
  have G₁ := G.keeps hXk keeps
  have low : ∀ a ∈ as, (a == sysModules) = false := fun a ha => beq_eq_false_iff_ne.mpr fun e => by
    have := (hin.2.2 a ha).1
    subst e
    exact absurd G.low (Nat.not_lt.mpr this)
  obtain ⟨f, hf, h⟩ := call w s { s₁ with gens := #[] } _ _ G₁ (hYk _ _ _ y keeps) args vs as hpre hlay rfl hrd (well_layAllW hord args s _ hlaid _ fun _ _ e => e) low
  have hi := ident_freeW hu ha hap
  have hwi : r.claim.within = [] := List.isEmpty_iff.mp k6
  refine ⟨vs, s₁, hlaid, ht vs w { s₁ with gens := #[] } _ f _ _ G₁.T.g hf (wpAny_mono h (fun v s' g => ?_) fun e s' g => ?_)⟩
  · have z := goodK_ends (c := r.claim) hsame hwi hi hrd hold hal.2.2.1 g
    exact ⟨_, rfl, z.1, z.2.1, z.2.2, fun q => ⟨namesKept_of hT' hg kps keeps g.1.2.1.old, noTable hwr q⟩⟩
  · have z := goodK_ends (c := r.claim) hsame hwi hi hrd hold hal.2.2.1 g
    exact ⟨z.1, z.2.1, z.2.2, fun q => ⟨namesKept_of hT' hg kps keeps g.1.2.1.old, noTable hwr q⟩⟩
theorem holds_headW {r : OpenRow} {q : Program} {loose : List Str} {Xt : Shared → Bool} {XP : (Str → Option Value) → Heap → Prop} {YP : World → Heap → Prop} {d : DefRec} {kwd : List (Str × PySem.Expr)}
    (left : ∀ w, HeadW r.prog q loose Xt YP w) (hYk : ∀ w h h', YP w h → (∀ b o, h.get? b = some o → h'.get? b = some o) → YP w h')
    (hX : ∀ s, Xt s = true → XP (s.heap.nsMap mainGlobals) s.heap) (hXk : ∀ mg h h', XP mg h → (∀ b o, h.get? b = some o → h'.get? b = some o) → XP mg h')
    (hdef : defOf q r.name = some (d, kwd)) (hp : r.prog.theDef r.name = some (d.params, d.body, d.scope)) (hk : kwWritten? d.params.kwonlyargs d.params.kw_defaults = some kwd) (hRf : ∀ s, Xt s = true → RecFacts r.records s.heap) (hwr : (!r.writes || r.records.isEmpty) = true)
    (k1 : r.wellSaid = true) (ok : (chainsOk q && opensWell r.prog && (frees r.toRowW && r.within.isEmpty)) = true) (hb : r.prog.bare) (hw : r.toRowW.promised)
    (call : WalkK q loose XP YP r.toRowW d kwd fun f vs => PySem.call f vs) : r.Holds := by
  refine ⟨k1, hw, open_headW (r := r.toRowW) (run := fun f vs => PySem.call f vs) (tree := fun vs => do match ← nsGet mainNs r.name with
      | some f => do ret (← PySem.call f vs)
      | none => unsupported "claim.caller:no-such-global") left hYk hX hXk hRf hwr ok hb hw (fun vs w s mg f Q E hg hf h => ?_) (fun w s hg G n hn => ?_) fun w s₀ s₁ mg mb G Y args vs as hpre hlay hg hrd hwl hlo => ?_⟩
  · exact wpAny_bind (wpAny_nsGet hg (by rw [hf]; exact wpAny_bind (wpAny_mono h (fun _ _ x => wpAny_pure x) fun _ _ x => x)))
  · obtain rfl : n = r.name := by split at hn <;> simp_all
    exact pinned_of_view hg G hdef hp hk
  · obtain ⟨a, o, pm, cd, doc, dV, kV, h1, h2, h3, h4, h5⟩ := G.fn hdef
    exact ⟨.ref a, h1, call w s₀ s₁ mg mb G Y a o pm cd doc dV kV h2 h3 h4 h5 (defOf_name hdef ▸ h1) hg args vs as hpre hlay hrd hwl hlo⟩
end
section
set_option maxHeartbeats 0
theorem ls_split {P : Nat → Prop} {n : Nat} (h : ∀ i, i < n → P i) (hn : P n) : ∀ i, i < n + 1 → P i := fun i hi => (Nat.lt_succ_iff_lt_or_eq.mp hi).elim (h i) fun e => e ▸ hn
abbrev GG := Nat → SC
noncomputable def insT (o : Obj) (T : BT) : Nat → BT := BT.rec (motive := fun _ => Nat → BT) (fun _ => .node o .nil .nil) (fun v l r hl hr a => bif Nat.beq a 0 then .node o l r else bif Nat.beq (a % 2) 1 then .node v (hl (a / 2)) r else .node v l (hr (a / 2 - 1))) T
noncomputable def up (T : BT) (l : List (Nat × Obj)) : BT := l.foldl (fun T p => insT p.2 T p.1) T
noncomputable abbrev S := Str.ofString
noncomputable section
noncomputable abbrev z0 (d : Data) : Obj := ⟨.none, none, d, #[]⟩
noncomputable abbrev zc (c : String) (d : Data) : Obj := ⟨.type c, none, d, #[]⟩
noncomputable abbrev zs (x : String) (t : Tok) : Value := .str (S x) t
noncomputable abbrev zi (x : Int) (t : Tok) : Value := .int x t
noncomputable abbrev zz (l : List Int) : Data := .seq (l.map fun x => .int x 0).toArray 0
noncomputable def zqL : Nat → List Int → List Value
  | _, [] => []
  | t, x :: l => .int x t :: zqL (t + 1) l
noncomputable abbrev zq (t : Nat) (l : List Int) : Data := .seq (zqL t l).toArray 0
noncomputable abbrev zk (P : Params) (k : String) (t : Nat) (v : Value) : DictEntry := de P (S k) t v
noncomputable abbrev zj (x : Int) (t : Tok) : Value := .int (-x) t
noncomputable def nl (k n : Nat) : List Nat := Nat.rec (motive := fun _ => Nat → List Nat) (fun _ => []) (fun _ ih n => (bif Nat.blt (n % 2048) 2030 then n % 2048 else [4294967295, 67043328, 1048576].getD (n % 2048 - 2030) 0) :: ih (n / 2048)) k n
noncomputable abbrev nS (l : List Nat) : Str := ⟨l.toArray⟩
noncomputable def cA (a b c d e f g h i j k l m n o p q r s u v w x y z A B C D E F G : Nat) (t : List Nat) : List Nat := a :: b :: c :: d :: e :: f :: g :: h :: i :: j :: k :: l :: m :: n :: o :: p :: q :: r :: s :: u :: v :: w :: x :: y :: z :: A :: B :: C :: D :: E :: F :: G :: t
noncomputable def nz (k n : Nat) : List Int := (nl k n).map Int.ofNat
noncomputable def nr0 : List Int := nz 246 0x80000403c00811024048000390600580280d00217c080010000180c7ee0000400b8000720c00b00501a0040002d0200ac0800601a0040000b030000228100ca0400300d00200017017024048000390600580280d00217c080010000180c7ee0000400b8000720c00b00501a0b8080010000740b8000220000100f0240001c83002c014068010be0400080000c063f700002005c000390620580280d03607407830020014038010000b40802b0200180680100002c0c08410c03c0000201e048000370600580280d00217c080010000180c7ee0000400b80006e0c00b00501a1bc0801d03e03c090000620c00b00501a0042f81000200003018fdc000080170000c41801600a0343101003a0f007812000000000000001f83f7ef0000240580d00217c080010000180c7ee0000580b800000000000000fc1fbf780001202c068780200a4038300201a803fee0020000200e
noncomputable def nr1 : List Int := nz 107 0x4090010000e41801600a037f7000014060038110020001c83002c014068060020280c0060220b80800100007c0b8050220001c83002c0140680006a0c00b00501a0100883a02000c088000720c00b00501a0001a83002c014068020220e8080010220000100f0000cc1801600a03419010016034078000720c00b00501a0001883002c0140680f00e00008fee0100000200e
noncomputable def nr2 : List Int := nz 299 0x409012000008078150220001c83002c0140680006a0c00b00501a0500883a02004c0880000403c000330600580280d0640400580d01e0001c83002c014068000620c00b00501a03c038120220440880005a0401581000c034080110801080780f0220003d0100b40400300d01c0440700700200029817024004000390600580280dfdc0000501801a044008000720c00b00501a0180080a0300300882e0200040001f02e02c088000720c00b00501a0001a83002c0140680a0220e8080090220001c83002c0140680006a0c00b00501a0200883a02001c0880000403c000330600580280d0640400580d01e0001c83002c014068000620c00b00501a03c0380602200000000000003f87f00020000480b01a004000c902e0140880000403c000310600580280d0660400580d01e0001c83002c014068000640c40b00501a03c0e00f0000e41881600a0341801001601c0201105a04001811000008078000640c00b00501a0c40800b01a03c000390620580280d0600400580700404416810002044008000720c00b00501a0100200a03000008fee0140000200e
noncomputable def P0 : Program := PySem.Challenge.pw_kq0035_04
noncomputable def st (i : Nat) : Stmt := P0.main.body.getD i (.Pass ⟨0, 0, 0, 0⟩)
noncomputable def nthR (l : List Stmt) (i : Nat) : Stmt := l.getD i (.Pass ⟨0, 0, 0, 0⟩)
noncomputable def bodyR : Stmt → List Stmt
  | .FunctionDef _ _ b _ _ _ _ _ _ _ => b
  | .ClassDef _ _ _ b _ _ _ _ _ _ _ => b
  | .If _ b _ _ => b
  | .For _ _ b _ _ => b
  | .While _ b _ _ => b
  | _ => []
noncomputable def elseR : Stmt → List Stmt
  | .If _ _ b _ => b
  | _ => []
noncomputable def valR : Stmt → PySem.Expr
  | .Assign _ v _ => v
  | _ => .Constant .none 0 ⟨0, 0, 0, 0⟩
noncomputable abbrev noR : Arguments × FuncBody × Scope := (⟨[], [], none, [], [], none, []⟩, .stmts [], { kind := .function, names := [], isGenerator := false, isCoroutine := false, more := [] })
noncomputable def defR : Stmt → Arguments × FuncBody × Scope
  | .FunctionDef _ a b _ _ _ s _ _ _ => (a, .stmts b, s)
  | _ => noR
noncomputable def lamR : PySem.Expr → Arguments × FuncBody × Scope
  | .Lambda a b s _ => (a, .expr b, s)
  | _ => noR
noncomputable def fd (name qual : Str) (r : Arguments × FuncBody × Scope) (globals : Addr) (closure : List (Str × Addr)) (defaults kwdefaults doc pyModule : Value) (annotations : Option Addr) (code closureTuple : Value) (builtins : Addr) : FuncData :=
  ⟨name, qual, r.1, r.2.1, r.2.2, globals, closure, defaults, kwdefaults, doc, pyModule, annotations, code, closureTuple, builtins⟩
noncomputable abbrev wv (v : Bool) (w : World) : World := w.withFollow "special-get-raises" v
theorem half_pos {a : Nat} (ha : a ≠ 0) (h1 : ¬ a % 2 = 1) : 0 < a / 2 := Nat.pos_of_ne_zero fun z => ha (by rw [← Nat.div_add_mod a 2, z, (Nat.mod_two_eq_zero_or_one a).resolve_right h1])
theorem half_inj {a b : Nat} (ha : a ≠ 0) (hb : b ≠ 0) (h1 : ¬ a % 2 = 1) (h2 : ¬ b % 2 = 1) (e : a / 2 - 1 = b / 2 - 1) : a = b := by
  have e2 : a / 2 = b / 2 := by rw [← Nat.sub_add_cancel (half_pos ha h1), e, Nat.sub_add_cancel (half_pos hb h2)]
  rw [← Nat.div_add_mod a 2, ← Nat.div_add_mod b 2, e2, (Nat.mod_two_eq_zero_or_one a).resolve_right h1, (Nat.mod_two_eq_zero_or_one b).resolve_right h2]
theorem odd_inj {a b : Nat} (h1 : a % 2 = 1) (h2 : b % 2 = 1) (e : a / 2 = b / 2) : a = b := by
  rw [← Nat.div_add_mod a 2, ← Nat.div_add_mod b 2, e, h1, h2]
theorem bt_comm {f h : Obj → Obj} : ∀ (T : BT) {a b : Nat}, a ≠ b → (T.set a f).set b h = (T.set b h).set a f
  | .nil, _, _, _ => rfl
  | .node v l r, a, b, hab => by
    rw [BT.set_node v l r a, BT.set_node v l r b]
    by_cases ha : a = 0
    · have hb : b ≠ 0 := fun e => hab (ha.trans e.symm)
      rw [if_pos ha, if_neg hb, BT.set_node, if_neg hb]
      by_cases h1 : b % 2 = 1
      · rw [if_pos h1, if_pos h1, BT.set_node, if_pos ha]
      · rw [if_neg h1, if_neg h1, BT.set_node, if_pos ha]
    · rw [if_neg ha]
      by_cases hb : b = 0
      · rw [if_pos hb]
        by_cases h1 : a % 2 = 1
        · rw [if_pos h1, BT.set_node, if_pos hb, BT.set_node, if_neg ha, if_pos h1]
        · rw [if_neg h1, BT.set_node, if_pos hb, BT.set_node, if_neg ha, if_neg h1]
      · rw [if_neg hb]
        by_cases h1 : a % 2 = 1 <;> by_cases h2 : b % 2 = 1
        · rw [if_pos h1, if_pos h2, BT.set_node, if_neg hb, if_pos h2, BT.set_node, if_neg ha, if_pos h1, bt_comm l (fun e => hab (odd_inj h1 h2 e))]
        · rw [if_pos h1, if_neg h2, BT.set_node, if_neg hb, if_neg h2, BT.set_node, if_neg ha, if_pos h1]
        · rw [if_neg h1, if_pos h2, BT.set_node, if_neg hb, if_pos h2, BT.set_node, if_neg ha, if_neg h1]
        · rw [if_neg h1, if_neg h2, BT.set_node, if_neg hb, if_neg h2, BT.set_node, if_neg ha, if_neg h1, bt_comm r (fun e => hab (half_inj ha hb h1 h2 e))]
theorem nd_of {cs : Nat → Nat × Tok} {N : Nat} (h : ((List.range N).all fun i => (List.range i).all fun j => (cs j).1 != (cs i).1) = true) : ∀ i j, j < i → i < N → (cs j).1 ≠ (cs i).1 := by
  intro i j hj hi
  rw [List.all_eq_true] at h
  have := h i (List.mem_range.mpr hi)
  rw [List.all_eq_true] at this
  have := this j (List.mem_range.mpr hj)
  exact bne_iff_ne.mp this
theorem mk_put (T : BT) (n k : Nat) (G : Array GenState) (os : OsState) (a : Addr) (o : Obj) : put (mk T n k G os) a o = mk (T.set a fun _ => o) n k G os := rfl
def o0 (P : Params) : Obj := zc "dict" (.dict #[(zk P "__name__" 1 (zs "builtins" 160)), (zk P "__doc__" 2 (.builtin "builtins.__doc__:str#opaque")), (zk P "__package__" 3 (.builtin "builtins.__package__:str#opaque")), (zk P "__loader__" 4 (.builtin "builtins.__loader__:shared#opaque")), (zk P "__spec__" 5 (.builtin "builtins.__spec__#opaque")), (zk P "__build_class__" 6 (.builtin "__build_class__")), (zk P "__import__" 7 (.builtin "__import__")), (zk P "abs" 8 (.builtin "abs")), (zk P "all" 9 (.builtin "all")), (zk P "any" 10 (.builtin "any")), (zk P "ascii" 11 (.builtin "ascii")), (zk P "bin" 12 (.builtin "bin")), (zk P "breakpoint" 13 (.builtin "breakpoint")), (zk P "callable" 14 (.builtin "callable")), (zk P "chr" 15 (.builtin "chr")), (zk P "compile" 16 (.builtin "compile")), (zk P "delattr" 17 (.builtin "delattr")), (zk P "dir" 18 (.builtin "dir")), (zk P "divmod" 19 (.builtin "divmod")), (zk P "eval" 20 (.builtin "eval")), (zk P "exec" 21 (.builtin "exec")), (zk P "format" 22 (.builtin "format")), (zk P "getattr" 23 (.builtin "getattr")), (zk P "globals" 24 (.builtin "globals")), (zk P "hasattr" 25 (.builtin "hasattr")), (zk P "hash" 26 (.builtin "hash")), (zk P "hex" 27 (.builtin "hex")), (zk P "id" 28 (.builtin "id")), (zk P "input" 29 (.builtin "input")), (zk P "isinstance" 30 (.builtin "isinstance")), (zk P "issubclass" 31 (.builtin "issubclass")), (zk P "iter" 32 (.builtin "iter")), (zk P "aiter" 33 (.builtin "aiter")), (zk P "len" 34 (.builtin "len")), (zk P "locals" 35 (.builtin "locals")), (zk P "max" 36 (.builtin "max")), (zk P "min" 37 (.builtin "min")), (zk P "next" 38 (.builtin "next")), (zk P "anext" 39 (.builtin "anext")), (zk P "oct" 40 (.builtin "oct")), (zk P "ord" 41 (.builtin "ord")), (zk P "pow" 42 (.builtin "pow")), (zk P "print" 43 (.builtin "print")), (zk P "repr" 44 (.builtin "repr")), (zk P "round" 45 (.builtin "round")), (zk P "setattr" 46 (.builtin "setattr")), (zk P "sorted" 47 (.builtin "sorted")), (zk P "sum" 48 (.builtin "sum")), (zk P "vars" 49 (.builtin "vars")), (zk P "None" 50 .none), (zk P "Ellipsis" 51 .ellipsis), (zk P "NotImplemented" 52 .notImplemented), (zk P "False" 53 (.bool false)), (zk P "True" 54 (.bool true)), (zk P "bool" 55 (.type "bool")), (zk P "memoryview" 56 (.type "memoryview")), (zk P "bytearray" 57 (.type "bytearray")), (zk P "bytes" 58 (.type "bytes")), (zk P "classmethod" 59 (.type "classmethod")), (zk P "complex" 60 (.type "complex")), (zk P "dict" 61 (.type "dict")), (zk P "enumerate" 62 (.type "enumerate")), (zk P "filter" 63 (.type "filter")), (zk P "float" 64 (.type "float")), (zk P "frozenset" 65 (.type "frozenset")), (zk P "property" 66 (.type "property")), (zk P "int" 67 (.type "int")), (zk P "list" 68 (.type "list")), (zk P "map" 69 (.type "map")), (zk P "object" 70 (.type "object")), (zk P "range" 71 (.type "range")), (zk P "reversed" 72 (.type "reversed")), (zk P "set" 73 (.type "set")), (zk P "slice" 74 (.type "slice")), (zk P "staticmethod" 75 (.type "staticmethod")), (zk P "str" 76 (.type "str")), (zk P "super" 77 (.type "super")), (zk P "tuple" 78 (.type "tuple")), (zk P "type" 79 (.type "type")), (zk P "zip" 80 (.type "zip")), (zk P "__debug__" 81 (.bool true)), (zk P "BaseException" 82 (.type "BaseException")), (zk P "BaseExceptionGroup" 83 (.type "BaseExceptionGroup")), (zk P "Exception" 84 (.type "Exception")), (zk P "GeneratorExit" 85 (.type "GeneratorExit")), (zk P "KeyboardInterrupt" 86 (.type "KeyboardInterrupt")), (zk P "SystemExit" 87 (.type "SystemExit")), (zk P "ArithmeticError" 88 (.type "ArithmeticError")), (zk P "AssertionError" 89 (.type "AssertionError")), (zk P "AttributeError" 90 (.type "AttributeError")), (zk P "BufferError" 91 (.type "BufferError")), (zk P "EOFError" 92 (.type "EOFError")), (zk P "ImportError" 93 (.type "ImportError")), (zk P "LookupError" 94 (.type "LookupError")), (zk P "MemoryError" 95 (.type "MemoryError")), (zk P "NameError" 96 (.type "NameError")), (zk P "OSError" 97 (.type "OSError")), (zk P "ReferenceError" 98 (.type "ReferenceError")), (zk P "RuntimeError" 99 (.type "RuntimeError")), (zk P "StopAsyncIteration" 100 (.type "StopAsyncIteration")), (zk P "StopIteration" 101 (.type "StopIteration")), (zk P "SyntaxError" 102 (.type "SyntaxError")), (zk P "SystemError" 103 (.type "SystemError")), (zk P "TypeError" 104 (.type "TypeError")), (zk P "ValueError" 105 (.type "ValueError")), (zk P "Warning" 106 (.type "Warning")), (zk P "FloatingPointError" 107 (.type "FloatingPointError")), (zk P "OverflowError" 108 (.type "OverflowError")), (zk P "ZeroDivisionError" 109 (.type "ZeroDivisionError")), (zk P "BytesWarning" 110 (.type "BytesWarning")), (zk P "DeprecationWarning" 111 (.type "DeprecationWarning")), (zk P "EncodingWarning" 112 (.type "EncodingWarning")), (zk P "FutureWarning" 113 (.type "FutureWarning")), (zk P "ImportWarning" 114 (.type "ImportWarning")), (zk P "PendingDeprecationWarning" 115 (.type "PendingDeprecationWarning")), (zk P "ResourceWarning" 116 (.type "ResourceWarning")), (zk P "RuntimeWarning" 117 (.type "RuntimeWarning")), (zk P "SyntaxWarning" 118 (.type "SyntaxWarning")), (zk P "UnicodeWarning" 119 (.type "UnicodeWarning")), (zk P "UserWarning" 120 (.type "UserWarning")), (zk P "BlockingIOError" 121 (.type "BlockingIOError")), (zk P "ChildProcessError" 122 (.type "ChildProcessError")), (zk P "ConnectionError" 123 (.type "ConnectionError")), (zk P "FileExistsError" 124 (.type "FileExistsError")), (zk P "FileNotFoundError" 125 (.type "FileNotFoundError")), (zk P "InterruptedError" 126 (.type "InterruptedError")), (zk P "IsADirectoryError" 127 (.type "IsADirectoryError")), (zk P "NotADirectoryError" 128 (.type "NotADirectoryError")), (zk P "PermissionError" 129 (.type "PermissionError")), (zk P "ProcessLookupError" 130 (.type "ProcessLookupError")), (zk P "TimeoutError" 131 (.type "TimeoutError")), (zk P "IndentationError" 132 (.type "IndentationError")), (zk P "_IncompleteInputError" 133 (.type "_IncompleteInputError")), (zk P "IndexError" 134 (.type "IndexError")), (zk P "KeyError" 135 (.type "KeyError")), (zk P "ModuleNotFoundError" 136 (.type "ModuleNotFoundError")), (zk P "NotImplementedError" 137 (.type "NotImplementedError")), (zk P "PythonFinalizationError" 138 (.type "PythonFinalizationError")), (zk P "RecursionError" 139 (.type "RecursionError")), (zk P "UnboundLocalError" 140 (.type "UnboundLocalError")), (zk P "UnicodeError" 141 (.type "UnicodeError")), (zk P "BrokenPipeError" 142 (.type "BrokenPipeError")), (zk P "ConnectionAbortedError" 143 (.type "ConnectionAbortedError")), (zk P "ConnectionRefusedError" 144 (.type "ConnectionRefusedError")), (zk P "ConnectionResetError" 145 (.type "ConnectionResetError")), (zk P "TabError" 146 (.type "TabError")), (zk P "UnicodeDecodeError" 147 (.type "UnicodeDecodeError")), (zk P "UnicodeEncodeError" 148 (.type "UnicodeEncodeError")), (zk P "UnicodeTranslateError" 149 (.type "UnicodeTranslateError")), (zk P "ExceptionGroup" 150 (.type "ExceptionGroup")), (zk P "EnvironmentError" 151 (.type "OSError")), (zk P "IOError" 152 (.type "OSError")), (zk P "open" 153 (.builtin "open")), (zk P "quit" 154 (.builtin "builtins.quit#opaque")), (zk P "exit" 155 (.builtin "builtins.exit#opaque")), (zk P "copyright" 156 (.builtin "builtins.copyright#opaque")), (zk P "credits" 157 (.builtin "builtins.credits#opaque")), (zk P "license" 158 (.builtin "builtins.license#opaque")), (zk P "help" 159 (.builtin "builtins.help#opaque"))] 159)
def o1 (P : Params) : Obj := zc "dict" (.dict #[(zk P "builtins" 162 (.ref 4)), (zk P "__main__" 163 (.ref 5)), (zk P "_sre" 244 (.ref 12)), (zk P "_collections" 292 (.ref 30)), (zk P "_datetime" 397 (.ref 36)), (zk P "_functools" 458 (.ref 59))] 6)
def o2 (P : Params) : Obj := z0 (.dict #[(zk P "\x69mport.loaded._sre" 183 (.bool true)), (zk P "class._frozen_importlib.BuiltinImporter" 185 (.ref 14)), (zk P "watched.\x69mport" 206 (.ref 18)), (zk P "class._frozen_importlib.ModuleSpec" 216 (.ref 22)), (zk P "sys.modules.booked-epoch" 245 (zi 6 0)), (zk P "\x69mport.later-laid._sre" 270 (.bool true)), (zk P "watched.library" 272 (.ref 27)), (zk P "watched.library-objects" 0 (zs "\x0c\x1e$;" 0)), (zk P "watched.library-deep._sre" 273 (zs "\x04\x00\x00\x0b\x04\x00\x00\x0b\x04\x00\x00\x03\x04\x00\x00\x0b\x08\x04dict\x02" 0)), (zk P "\x69mport.loaded._collections" 280 (.bool true)), (zk P "sys.modules.landed._collections" 294 (.bool true)), (zk P "\x69mport.later-laid._collections" 309 (.bool true)), (zk P "watched.library-deep._collections" 311 (zs "\x04\x00\x00\x1d\x04\x00\x00\x1d\x04\x00\x00\x03\x04\x00\x00\x1d\x08\x04dict\x02" 0)), (zk P "\x69mport.loaded._datetime" 326 (.bool true)), (zk P "class._frozen_importlib_external._LoaderBasics" 331 (.ref 39)), (zk P "class._frozen_importlib_external.FileLoader" 347 (.ref 44)), (zk P "class._frozen_importlib_external.ExtensionFileLoader" 368 (.ref 49)), (zk P "datetime.timedelta.zero" 418 (.ref 55)), (zk P "datetime.timezone.utc" 419 (.ref 56)), (zk P "\x69mport.later-laid._datetime" 422 (.bool true)), (zk P "\x69mport.loaded._functools" 446 (.bool true)), (zk P "sys.modules.landed._functools" 460 (.bool true)), (zk P "\x69mport.later-laid._functools" 473 (.bool true)), (zk P "watched.library-deep._functools" 475 (zs "\x04\x00\x00:\x04\x00\x00:\x04\x00\x00\x03\x04\x00\x00:\x08\x04dict\x02" 0))] 24)
def e0 (P : Params) : DictEntry := zk P "__doc__" 166 .none
def e1 (P : Params) : DictEntry := zk P "__package__" 167 .none
def e2 (P : Params) : DictEntry := zk P "__loader__" 168 (.builtin "__main__.__loader__#opaque")
def e3 (P : Params) : DictEntry := zk P "__spec__" 169 .none
def e4 (P : Params) : DictEntry := zk P "__annotations__" 170 (.ref 6)
def e5 (P : Params) : DictEntry := zk P "__builtins__" 171 (.ref 4)
def e6 (P : Params) : DictEntry := zk P "__file__" 173 (zs "/claim/cut.py" 172)
def e7 (P : Params) : DictEntry := zk P "__cached__" 174 .none
def e8 (P : Params) : DictEntry := zk P "_sre" 275 (.ref 12)
def e9 (P : Params) : DictEntry := zk P "_tuplegetter" 317 (.type "collections._tuplegetter")
def e10 (P : Params) : DictEntry := zk P "date" 429 (.type "datetime.date")
def e11 (P : Params) : DictEntry := zk P "datetime" 432 (.type "datetime.datetime")
def e12 (P : Params) : DictEntry := zk P "time" 435 (.type "datetime.time")
def e13 (P : Params) : DictEntry := zk P "timedelta" 438 (.type "datetime.timedelta")
def e14 (P : Params) : DictEntry := zk P "timezone" 441 (.type "datetime.timezone")
def e15 (P : Params) : DictEntry := zk P "_lru_cache_wrapper" 481 (.type "functools._lru_cache_wrapper")
def o3 (P : Params) : Obj := zc "dict" (.dict #[(zk P "__name__" 165 (zs "__main__" 164)), (e0 P), (e1 P), (e2 P), (e3 P), (e4 P), (e5 P), (e6 P), (e7 P), (e8 P), (e9 P), (e10 P), (e11 P), (e12 P), (e13 P), (e14 P), (e15 P)] 17)
noncomputable def o4 : Obj := ⟨(.type "module"), (some 0), .plain, #[]⟩
noncomputable def o5 : Obj := ⟨(.type "module"), (some 3), .plain, #[]⟩
def o6 : Obj := zc "dict" (.dict #[] 0)
def o7 : Obj := zc "tuple" (.seq #[] 0)
def o8 : Obj := z0 (.fields #[])
def o9 : Obj := zc "code" (.fields #[(zs "<module>" 176), (zs "<module>" 177), (zs "/claim/cut.py" 178), (zi 1 0), (zi 0 0), (zi 0 0), (zi 0 0), (zi 0 0), (.ref 7), (.bool false), (zi 175 0), (.ref 8), .none, .none, .none, .none, (zi 179 0), (zi 1 0), (zs "/claim/cut.py" 180)])
noncomputable def o10 : Obj := ⟨(.type "frame"), none, .plain, #[(some (.ref 9)), (some (.ref 3)), (some (.ref 3)), none, (some (.str (S "__main__") 164)), none, (some (.ref 0))]⟩
def e16 (P : Params) : DictEntry := zk P "__name__" 247 (zs "_sre" 246)
def e17 (P : Params) : DictEntry := zk P "__doc__" 248 .none
def e18 (P : Params) : DictEntry := zk P "__package__" 250 (zs "" 249)
def e19 (P : Params) : DictEntry := zk P "compile" 253 (.builtin "_sre.compile")
def e20 (P : Params) : DictEntry := zk P "MAGIC" 261 (.int (20230612) 260)
def e21 (P : Params) : DictEntry := zk P "CODESIZE" 263 (.int (4) 262)
def e22 (P : Params) : DictEntry := zk P "MAXREPEAT" 265 (.int (4294967295) 264)
def e23 (P : Params) : DictEntry := zk P "MAXGROUPS" 267 (.int (1073741823) 266)
def e24 (P : Params) : DictEntry := zk P "copyright" 269 (zs " SRE 2.2.2 Copyright (c) 1997-2002 by Secret Labs AB " 268)
def o11 (P : Params) : Obj := zc "dict" (.dict #[(e16 P), (e17 P), (e18 P), (zk P "__loader__" 251 (.ref 14)), (zk P "__spec__" 252 (.ref 26)), (e19 P), (zk P "template" 254 (.builtin "_sre.template")), (zk P "getcodesize" 255 (.builtin "_sre.getcodesize")), (zk P "ascii_iscased" 256 (.builtin "_sre.ascii_iscased")), (zk P "unicode_iscased" 257 (.builtin "_sre.unicode_iscased")), (zk P "ascii_tolower" 258 (.builtin "_sre.ascii_tolower")), (zk P "unicode_tolower" 259 (.builtin "_sre.unicode_tolower")), (e20 P), (e21 P), (e22 P), (e23 P), (e24 P)] 17)
def o12 : Obj := ⟨(.type "module"), (some 11), .plain, #[]⟩
def o13 (P : Params) : Obj := zc "dict" (.dict #[(zk P "__module__" 189 (zs "_frozen_importlib" 186)), (zk P "__firstlineno__" 190 (zi 971 187)), (zk P "__doc__" 191 (.builtin "_frozen_importlib.BuiltinImporter.__doc__:str#opaque")), (zk P "_ORIGIN" 192 (zs "built-in" 188)), (zk P "find_spec" 193 (.builtin "_frozen_importlib.BuiltinImporter.find_spec#opaque")), (zk P "create_module" 194 (.builtin "_frozen_importlib.BuiltinImporter.create_module#opaque")), (zk P "exec_module" 195 (.builtin "_frozen_importlib.BuiltinImporter.exec_module#opaque")), (zk P "get_code" 196 (.builtin "_frozen_importlib.BuiltinImporter.get_code#opaque")), (zk P "get_source" 197 (.builtin "_frozen_importlib.BuiltinImporter.get_source#opaque")), (zk P "is_package" 198 (.builtin "_frozen_importlib.BuiltinImporter.is_package#opaque")), (zk P "load_module" 199 (.builtin "_frozen_importlib.BuiltinImporter.load_module#opaque")), (zk P "__static_attributes__" 200 (.ref 15)), (zk P "__dict__" 202 (.ref 16)), (zk P "__weakref__" 204 (.ref 17))] 14)
def o14 : Obj := zc "type" (.cls ⟨(S "BuiltinImporter"), [(.type "object")], [(.ref 14), (.type "object")], 13, (S "BuiltinImporter"), true, [], [], false, none, false⟩)
def o16 : Obj := zc "getset_descriptor" (.fields #[(zs "__dict__" 201), (.ref 14), (.builtin "function.__dict__"), (.builtin "function.__dict__#set")])
def o17 : Obj := zc "getset_descriptor" (.fields #[(zs "__weakref__" 203), (.ref 14), (.builtin "ExceptionGroup.__weakref__"), .none])
def o18 : Obj := z0 (.seq #[(zi 13 0), (.str (nS (cA 6 189 10 95 95 109 111 100 117 108 101 95 95 6 186 17 95 102 114 111 122 101 110 95 105 109 112 111 114 116 108 105 (cA 98 6 190 15 95 95 102 105 114 115 116 108 105 110 101 110 111 95 95 4 187 0 971 6 191 7 95 95 100 111 99 95 (cA 95 9 52 95 102 114 111 122 101 110 95 105 109 112 111 114 116 108 105 98 46 66 117 105 108 116 105 110 73 109 112 111 (cA 114 116 101 114 46 95 95 100 111 99 95 95 58 115 116 114 35 111 112 97 113 117 101 6 192 7 95 79 82 73 71 73 (cA 78 6 188 8 98 117 105 108 116 45 105 110 6 193 9 102 105 110 100 95 115 112 101 99 9 50 95 102 114 111 122 101 (cA 110 95 105 109 112 111 114 116 108 105 98 46 66 117 105 108 116 105 110 73 109 112 111 114 116 101 114 46 102 105 110 100 (cA 95 115 112 101 99 35 111 112 97 113 117 101 6 194 13 99 114 101 97 116 101 95 109 111 100 117 108 101 9 54 95 102 (cA 114 111 122 101 110 95 105 109 112 111 114 116 108 105 98 46 66 117 105 108 116 105 110 73 109 112 111 114 116 101 114 46 (cA 99 114 101 97 116 101 95 109 111 100 117 108 101 35 111 112 97 113 117 101 6 195 11 101 120 101 99 95 109 111 100 117 (cA 108 101 9 52 95 102 114 111 122 101 110 95 105 109 112 111 114 116 108 105 98 46 66 117 105 108 116 105 110 73 109 112 (cA 111 114 116 101 114 46 101 120 101 99 95 109 111 100 117 108 101 35 111 112 97 113 117 101 6 196 8 103 101 116 95 99 (cA 111 100 101 9 49 95 102 114 111 122 101 110 95 105 109 112 111 114 116 108 105 98 46 66 117 105 108 116 105 110 73 109 (cA 112 111 114 116 101 114 46 103 101 116 95 99 111 100 101 35 111 112 97 113 117 101 6 197 10 103 101 116 95 115 111 117 (cA 114 99 101 9 51 95 102 114 111 122 101 110 95 105 109 112 111 114 116 108 105 98 46 66 117 105 108 116 105 110 73 109 (cA 112 111 114 116 101 114 46 103 101 116 95 115 111 117 114 99 101 35 111 112 97 113 117 101 6 198 10 105 115 95 112 97 (cA 99 107 97 103 101 9 51 95 102 114 111 122 101 110 95 105 109 112 111 114 116 108 105 98 46 66 117 105 108 116 105 110 (cA 73 109 112 111 114 116 101 114 46 105 115 95 112 97 99 107 97 103 101 35 111 112 97 113 117 101 6 199 11 108 111 97 (cA 100 95 109 111 100 117 108 101 9 52 95 102 114 111 122 101 110 95 105 109 112 111 114 116 108 105 98 46 66 117 105 108 (cA 116 105 110 73 109 112 111 114 116 101 114 46 108 111 97 100 95 109 111 100 117 108 101 35 111 112 97 113 117 101 6 200 (cA 21 95 95 115 116 97 116 105 99 95 97 116 116 114 105 98 117 116 101 115 95 95 4 0 0 15 6 202 8 95 95 100 [105, 99, 116, 95, 95, 4, 0, 0, 16, 6, 204, 11, 95, 95, 119, 101, 97, 107, 114, 101, 102, 95, 95, 4, 0, 0, 17]))))))))))))))))))))) 0), (.bool true), (.bool true), (zs "" 205), (zi 21 0), (.str (nS (cA 6 227 10 95 95 109 111 100 117 108 101 95 95 6 217 17 95 102 114 111 122 101 110 95 105 109 112 111 114 116 108 105 (cA 98 6 228 15 95 95 102 105 114 115 116 108 105 110 101 110 111 95 95 4 218 0 562 6 229 7 95 95 100 111 99 95 (cA 95 9 47 95 102 114 111 122 101 110 95 105 109 112 111 114 116 108 105 98 46 77 111 100 117 108 101 83 112 101 99 46 (cA 95 95 100 111 99 95 95 58 115 116 114 35 111 112 97 113 117 101 6 230 8 95 95 105 110 105 116 95 95 9 44 95 (cA 102 114 111 122 101 110 95 105 109 112 111 114 116 108 105 98 46 77 111 100 117 108 101 83 112 101 99 46 95 95 105 110 (cA 105 116 95 95 35 111 112 97 113 117 101 6 231 8 95 95 114 101 112 114 95 95 9 44 95 102 114 111 122 101 110 95 (cA 105 109 112 111 114 116 108 105 98 46 77 111 100 117 108 101 83 112 101 99 46 95 95 114 101 112 114 95 95 35 111 112 (cA 97 113 117 101 6 232 6 95 95 101 113 95 95 9 42 95 102 114 111 122 101 110 95 105 109 112 111 114 116 108 105 98 (cA 46 77 111 100 117 108 101 83 112 101 99 46 95 95 101 113 95 95 35 111 112 97 113 117 101 6 233 6 99 97 99 104 (cA 101 100 9 42 95 102 114 111 122 101 110 95 105 109 112 111 114 116 108 105 98 46 77 111 100 117 108 101 83 112 101 99 (cA 46 99 97 99 104 101 100 35 111 112 97 113 117 101 6 234 6 112 97 114 101 110 116 9 42 95 102 114 111 122 101 110 (cA 95 105 109 112 111 114 116 108 105 98 46 77 111 100 117 108 101 83 112 101 99 46 112 97 114 101 110 116 35 111 112 97 (cA 113 117 101 6 235 12 104 97 115 95 108 111 99 97 116 105 111 110 9 48 95 102 114 111 122 101 110 95 105 109 112 111 (cA 114 116 108 105 98 46 77 111 100 117 108 101 83 112 101 99 46 104 97 115 95 108 111 99 97 116 105 111 110 35 111 112 (cA 97 113 117 101 6 236 21 95 95 115 116 97 116 105 99 95 97 116 116 114 105 98 117 116 101 115 95 95 4 0 0 23 (cA 6 238 8 95 95 100 105 99 116 95 95 4 0 0 24 6 240 11 95 95 119 101 97 107 114 101 102 95 95 4 0 0 [25, 6, 241, 8, 95, 95, 104, 97, 115, 104, 95, 95, 0]))))))))))))))))) 0), (.bool true), (.bool true), (zs "" 242), (zi 38 0), (.str (nS (cA 6 334 10 95 95 109 111 100 117 108 101 95 95 6 332 26 95 102 114 111 122 101 110 95 105 109 112 111 114 116 108 105 (cA 98 95 101 120 116 101 114 110 97 108 6 335 15 95 95 102 105 114 115 116 108 105 110 101 110 111 95 95 4 333 0 1001 (cA 6 336 7 95 95 100 111 99 95 95 9 59 95 102 114 111 122 101 110 95 105 109 112 111 114 116 108 105 98 95 101 120 (cA 116 101 114 110 97 108 46 95 76 111 97 100 101 114 66 97 115 105 99 115 46 95 95 100 111 99 95 95 58 115 116 114 (cA 35 111 112 97 113 117 101 6 337 10 105 115 95 112 97 99 107 97 103 101 9 58 95 102 114 111 122 101 110 95 105 109 (cA 112 111 114 116 108 105 98 95 101 120 116 101 114 110 97 108 46 95 76 111 97 100 101 114 66 97 115 105 99 115 46 105 (cA 115 95 112 97 99 107 97 103 101 35 111 112 97 113 117 101 6 338 13 99 114 101 97 116 101 95 109 111 100 117 108 101 (cA 9 61 95 102 114 111 122 101 110 95 105 109 112 111 114 116 108 105 98 95 101 120 116 101 114 110 97 108 46 95 76 111 (cA 97 100 101 114 66 97 115 105 99 115 46 99 114 101 97 116 101 95 109 111 100 117 108 101 35 111 112 97 113 117 101 6 (cA 339 11 101 120 101 99 95 109 111 100 117 108 101 9 59 95 102 114 111 122 101 110 95 105 109 112 111 114 116 108 105 98 (cA 95 101 120 116 101 114 110 97 108 46 95 76 111 97 100 101 114 66 97 115 105 99 115 46 101 120 101 99 95 109 111 100 (cA 117 108 101 35 111 112 97 113 117 101 6 340 11 108 111 97 100 95 109 111 100 117 108 101 9 59 95 102 114 111 122 101 (cA 110 95 105 109 112 111 114 116 108 105 98 95 101 120 116 101 114 110 97 108 46 95 76 111 97 100 101 114 66 97 115 105 (cA 99 115 46 108 111 97 100 95 109 111 100 117 108 101 35 111 112 97 113 117 101 6 341 21 95 95 115 116 97 116 105 99 (cA 95 97 116 116 114 105 98 117 116 101 115 95 95 4 0 0 40 6 343 8 95 95 100 105 99 116 95 95 4 0 0 41 [6, 345, 11, 95, 95, 119, 101, 97, 107, 114, 101, 102, 95, 95, 4, 0, 0, 42])))))))))))))))) 0), (.bool true), (.bool true), (zs "" 346), (zi 43 0), (.str (nS (cA 6 352 10 95 95 109 111 100 117 108 101 95 95 6 348 26 95 102 114 111 122 101 110 95 105 109 112 111 114 116 108 105 (cA 98 95 101 120 116 101 114 110 97 108 6 353 15 95 95 102 105 114 115 116 108 105 110 101 110 111 95 95 4 349 0 1176 (cA 6 354 7 95 95 100 111 99 95 95 9 56 95 102 114 111 122 101 110 95 105 109 112 111 114 116 108 105 98 95 101 120 (cA 116 101 114 110 97 108 46 70 105 108 101 76 111 97 100 101 114 46 95 95 100 111 99 95 95 58 115 116 114 35 111 112 (cA 97 113 117 101 6 355 8 95 95 105 110 105 116 95 95 9 53 95 102 114 111 122 101 110 95 105 109 112 111 114 116 108 (cA 105 98 95 101 120 116 101 114 110 97 108 46 70 105 108 101 76 111 97 100 101 114 46 95 95 105 110 105 116 95 95 35 (cA 111 112 97 113 117 101 6 356 6 95 95 101 113 95 95 9 51 95 102 114 111 122 101 110 95 105 109 112 111 114 116 108 (cA 105 98 95 101 120 116 101 114 110 97 108 46 70 105 108 101 76 111 97 100 101 114 46 95 95 101 113 95 95 35 111 112 (cA 97 113 117 101 6 357 8 95 95 104 97 115 104 95 95 9 53 95 102 114 111 122 101 110 95 105 109 112 111 114 116 108 (cA 105 98 95 101 120 116 101 114 110 97 108 46 70 105 108 101 76 111 97 100 101 114 46 95 95 104 97 115 104 95 95 35 (cA 111 112 97 113 117 101 6 358 11 108 111 97 100 95 109 111 100 117 108 101 9 56 95 102 114 111 122 101 110 95 105 109 (cA 112 111 114 116 108 105 98 95 101 120 116 101 114 110 97 108 46 70 105 108 101 76 111 97 100 101 114 46 108 111 97 100 (cA 95 109 111 100 117 108 101 35 111 112 97 113 117 101 6 359 12 103 101 116 95 102 105 108 101 110 97 109 101 9 57 95 (cA 102 114 111 122 101 110 95 105 109 112 111 114 116 108 105 98 95 101 120 116 101 114 110 97 108 46 70 105 108 101 76 111 (cA 97 100 101 114 46 103 101 116 95 102 105 108 101 110 97 109 101 35 111 112 97 113 117 101 6 360 8 103 101 116 95 100 (cA 97 116 97 9 53 95 102 114 111 122 101 110 95 105 109 112 111 114 116 108 105 98 95 101 120 116 101 114 110 97 108 46 (cA 70 105 108 101 76 111 97 100 101 114 46 103 101 116 95 100 97 116 97 35 111 112 97 113 117 101 6 361 19 103 101 116 (cA 95 114 101 115 111 117 114 99 101 95 114 101 97 100 101 114 9 64 95 102 114 111 122 101 110 95 105 109 112 111 114 116 (cA 108 105 98 95 101 120 116 101 114 110 97 108 46 70 105 108 101 76 111 97 100 101 114 46 103 101 116 95 114 101 115 111 (cA 117 114 99 101 95 114 101 97 100 101 114 35 111 112 97 113 117 101 6 362 21 95 95 115 116 97 116 105 99 95 97 116 (cA 116 114 105 98 117 116 101 115 95 95 4 0 0 45 6 364 8 95 95 100 105 99 116 95 95 4 0 0 46 6 366 11 [95, 95, 119, 101, 97, 107, 114, 101, 102, 95, 95, 4, 0, 0, 47])))))))))))))))))))))) 0), (.bool true), (.bool true), (zs "" 367), (zi 48 0), (.str (nS (cA 6 373 10 95 95 109 111 100 117 108 101 95 95 6 369 26 95 102 114 111 122 101 110 95 105 109 112 111 114 116 108 105 (cA 98 95 101 120 116 101 114 110 97 108 6 374 15 95 95 102 105 114 115 116 108 105 110 101 110 111 95 95 4 370 0 1296 (cA 6 375 7 95 95 100 111 99 95 95 9 65 95 102 114 111 122 101 110 95 105 109 112 111 114 116 108 105 98 95 101 120 (cA 116 101 114 110 97 108 46 69 120 116 101 110 115 105 111 110 70 105 108 101 76 111 97 100 101 114 46 95 95 100 111 99 (cA 95 95 58 115 116 114 35 111 112 97 113 117 101 6 376 8 95 95 105 110 105 116 95 95 9 62 95 102 114 111 122 101 (cA 110 95 105 109 112 111 114 116 108 105 98 95 101 120 116 101 114 110 97 108 46 69 120 116 101 110 115 105 111 110 70 105 (cA 108 101 76 111 97 100 101 114 46 95 95 105 110 105 116 95 95 35 111 112 97 113 117 101 6 377 6 95 95 101 113 95 (cA 95 9 60 95 102 114 111 122 101 110 95 105 109 112 111 114 116 108 105 98 95 101 120 116 101 114 110 97 108 46 69 120 (cA 116 101 110 115 105 111 110 70 105 108 101 76 111 97 100 101 114 46 95 95 101 113 95 95 35 111 112 97 113 117 101 6 (cA 378 8 95 95 104 97 115 104 95 95 9 62 95 102 114 111 122 101 110 95 105 109 112 111 114 116 108 105 98 95 101 120 (cA 116 101 114 110 97 108 46 69 120 116 101 110 115 105 111 110 70 105 108 101 76 111 97 100 101 114 46 95 95 104 97 115 (cA 104 95 95 35 111 112 97 113 117 101 6 379 13 99 114 101 97 116 101 95 109 111 100 117 108 101 9 67 95 102 114 111 (cA 122 101 110 95 105 109 112 111 114 116 108 105 98 95 101 120 116 101 114 110 97 108 46 69 120 116 101 110 115 105 111 110 (cA 70 105 108 101 76 111 97 100 101 114 46 99 114 101 97 116 101 95 109 111 100 117 108 101 35 111 112 97 113 117 101 6 (cA 380 11 101 120 101 99 95 109 111 100 117 108 101 9 65 95 102 114 111 122 101 110 95 105 109 112 111 114 116 108 105 98 (cA 95 101 120 116 101 114 110 97 108 46 69 120 116 101 110 115 105 111 110 70 105 108 101 76 111 97 100 101 114 46 101 120 (cA 101 99 95 109 111 100 117 108 101 35 111 112 97 113 117 101 6 381 10 105 115 95 112 97 99 107 97 103 101 9 64 95 (cA 102 114 111 122 101 110 95 105 109 112 111 114 116 108 105 98 95 101 120 116 101 114 110 97 108 46 69 120 116 101 110 115 (cA 105 111 110 70 105 108 101 76 111 97 100 101 114 46 105 115 95 112 97 99 107 97 103 101 35 111 112 97 113 117 101 6 (cA 382 8 103 101 116 95 99 111 100 101 9 62 95 102 114 111 122 101 110 95 105 109 112 111 114 116 108 105 98 95 101 120 (cA 116 101 114 110 97 108 46 69 120 116 101 110 115 105 111 110 70 105 108 101 76 111 97 100 101 114 46 103 101 116 95 99 (cA 111 100 101 35 111 112 97 113 117 101 6 383 10 103 101 116 95 115 111 117 114 99 101 9 64 95 102 114 111 122 101 110 (cA 95 105 109 112 111 114 116 108 105 98 95 101 120 116 101 114 110 97 108 46 69 120 116 101 110 115 105 111 110 70 105 108 (cA 101 76 111 97 100 101 114 46 103 101 116 95 115 111 117 114 99 101 35 111 112 97 113 117 101 6 384 12 103 101 116 95 (cA 102 105 108 101 110 97 109 101 9 66 95 102 114 111 122 101 110 95 105 109 112 111 114 116 108 105 98 95 101 120 116 101 (cA 114 110 97 108 46 69 120 116 101 110 115 105 111 110 70 105 108 101 76 111 97 100 101 114 46 103 101 116 95 102 105 108 (cA 101 110 97 109 101 35 111 112 97 113 117 101 6 385 21 95 95 115 116 97 116 105 99 95 97 116 116 114 105 98 117 116 [101, 115, 95, 95, 4, 0, 0, 50])))))))))))))))))))))))))))) 0), (.bool true), (.bool true), (zs "" 386)] 4)
def o19 : Obj := zc "list" (.seq #[] 0)
def o20 (P : Params) : Obj := zc "dict" (.dict #[(zk P "name" 208 (zs "_sre" 207)), (zk P "loader" 209 (.ref 14)), (zk P "origin" 210 (zs "built-in" 184)), (zk P "loader_state" 211 .none), (zk P "submodule_search_locations" 212 .none), (zk P "_uninitialized_submodules" 213 (.ref 19)), (zk P "_set_fileattr" 214 (.bool false)), (zk P "_cached" 215 .none), (zk P "_initializing" 243 (.bool false))] 9)
def o21 (P : Params) : Obj := zc "dict" (.dict #[(zk P "__module__" 227 (zs "_frozen_importlib" 217)), (zk P "__firstlineno__" 228 (zi 562 218)), (zk P "__doc__" 229 (.builtin "_frozen_importlib.ModuleSpec.__doc__:str#opaque")), (zk P "__init__" 230 (.builtin "_frozen_importlib.ModuleSpec.__init__#opaque")), (zk P "__repr__" 231 (.builtin "_frozen_importlib.ModuleSpec.__repr__#opaque")), (zk P "__eq__" 232 (.builtin "_frozen_importlib.ModuleSpec.__eq__#opaque")), (zk P "cached" 233 (.builtin "_frozen_importlib.ModuleSpec.cached#opaque")), (zk P "parent" 234 (.builtin "_frozen_importlib.ModuleSpec.parent#opaque")), (zk P "has_location" 235 (.builtin "_frozen_importlib.ModuleSpec.has_location#opaque")), (zk P "__static_attributes__" 236 (.ref 23)), (zk P "__dict__" 238 (.ref 24)), (zk P "__weakref__" 240 (.ref 25)), (zk P "__hash__" 241 .none)] 13)
def o22 : Obj := zc "type" (.cls ⟨(S "ModuleSpec"), [(.type "object")], [(.ref 22), (.type "object")], 21, (S "ModuleSpec"), true, [], [], false, none, false⟩)
def o23 : Obj := zc "tuple" (.seq #[(zs "_cached" 219), (zs "_set_fileattr" 220), (zs "_uninitialized_submodules" 221), (zs "loader" 222), (zs "loader_state" 223), (zs "name" 224), (zs "origin" 225), (zs "submodule_search_locations" 226)] 0)
def o24 : Obj := zc "getset_descriptor" (.fields #[(zs "__dict__" 237), (.ref 22), (.builtin "function.__dict__"), (.builtin "function.__dict__#set")])
def o25 : Obj := zc "getset_descriptor" (.fields #[(zs "__weakref__" 239), (.ref 22), (.builtin "ExceptionGroup.__weakref__"), .none])
def o26 : Obj := ⟨(.ref 22), (some 20), .plain, #[]⟩
def o27 : Obj := z0 (.seq #[(zi 11 0), (.str (nS (cA 6 247 8 95 95 110 97 109 101 95 95 6 246 4 95 115 114 101 6 248 7 95 95 100 111 99 95 95 0 6 250 11 (cA 95 95 112 97 99 107 97 103 101 95 95 6 249 0 6 251 10 95 95 108 111 97 100 101 114 95 95 4 0 0 14 6 (cA 252 8 95 95 115 112 101 99 95 95 4 0 0 26 6 253 7 99 111 109 112 105 108 101 9 12 95 115 114 101 46 99 (cA 111 109 112 105 108 101 6 254 8 116 101 109 112 108 97 116 101 9 13 95 115 114 101 46 116 101 109 112 108 97 116 101 (cA 6 255 11 103 101 116 99 111 100 101 115 105 122 101 9 16 95 115 114 101 46 103 101 116 99 111 100 101 115 105 122 101 (cA 6 256 13 97 115 99 105 105 95 105 115 99 97 115 101 100 9 18 95 115 114 101 46 97 115 99 105 105 95 105 115 99 (cA 97 115 101 100 6 257 15 117 110 105 99 111 100 101 95 105 115 99 97 115 101 100 9 20 95 115 114 101 46 117 110 105 (cA 99 111 100 101 95 105 115 99 97 115 101 100 6 258 13 97 115 99 105 105 95 116 111 108 111 119 101 114 9 18 95 115 (cA 114 101 46 97 115 99 105 105 95 116 111 108 111 119 101 114 6 259 15 117 110 105 99 111 100 101 95 116 111 108 111 119 (cA 101 114 9 20 95 115 114 101 46 117 110 105 99 111 100 101 95 116 111 108 111 119 101 114 6 261 5 77 65 71 73 67 (cA 4 260 0 20230612 6 263 8 67 79 68 69 83 73 90 69 4 262 0 4 6 265 9 77 65 88 82 69 80 69 65 84 4 (cA 264 0 4294967295 6 267 9 77 65 88 71 82 79 85 80 83 4 266 0 1073741823 6 269 9 99 111 112 121 114 105 103 104 116 6 (cA 268 53 32 83 82 69 32 50 46 50 46 50 32 67 111 112 121 114 105 103 104 116 32 40 99 41 32 49 57 57 55 45 [50, 48, 48, 50, 32, 98, 121, 32, 83, 101, 99, 114, 101, 116, 32, 76, 97, 98, 115, 32, 65, 66, 32])))))))))))))) 0), (.bool true), (.bool false), (zs "_sre" 271), (zi 29 0), (.str (nS (cA 6 296 8 95 95 110 97 109 101 95 95 6 295 12 95 99 111 108 108 101 99 116 105 111 110 115 6 297 7 95 95 100 (cA 111 99 95 95 9 31 95 99 111 108 108 101 99 116 105 111 110 115 46 95 95 100 111 99 95 95 58 115 116 114 35 111 (cA 112 97 113 117 101 6 299 11 95 95 112 97 99 107 97 103 101 95 95 6 298 0 6 300 10 95 95 108 111 97 100 101 (cA 114 95 95 4 0 0 14 6 301 8 95 95 115 112 101 99 95 95 4 0 0 33 6 302 15 95 99 111 117 110 116 95 (cA 101 108 101 109 101 110 116 115 9 28 95 99 111 108 108 101 99 116 105 111 110 115 46 95 99 111 117 110 116 95 101 108 (cA 101 109 101 110 116 115 6 303 5 100 101 113 117 101 8 17 99 111 108 108 101 99 116 105 111 110 115 46 100 101 113 117 (cA 101 6 304 11 100 101 102 97 117 108 116 100 105 99 116 8 23 99 111 108 108 101 99 116 105 111 110 115 46 100 101 102 (cA 97 117 108 116 100 105 99 116 6 305 15 95 100 101 113 117 101 95 105 116 101 114 97 116 111 114 8 27 99 111 108 108 (cA 101 99 116 105 111 110 115 46 95 100 101 113 117 101 95 105 116 101 114 97 116 111 114 6 306 23 95 100 101 113 117 101 (cA 95 114 101 118 101 114 115 101 95 105 116 101 114 97 116 111 114 8 35 99 111 108 108 101 99 116 105 111 110 115 46 95 (cA 100 101 113 117 101 95 114 101 118 101 114 115 101 95 105 116 101 114 97 116 111 114 6 307 12 95 116 117 112 108 101 103 (cA 101 116 116 101 114 8 24 99 111 108 108 101 99 116 105 111 110 115 46 95 116 117 112 108 101 103 101 116 116 101 114 6 (cA 308 11 79 114 100 101 114 101 100 68 105 99 116 8 23 99 111 108 108 101 99 116 105 111 110 115 46 79 114 100 101 114 [101, 100, 68, 105, 99, 116])))))))))))))) 0), (.bool true), (.bool false), (zs "_collections" 310), (zi 35 0), (.str (nS (cA 6 400 8 95 95 110 97 109 101 95 95 6 399 9 95 100 97 116 101 116 105 109 101 6 402 7 95 95 100 111 99 95 (cA 95 6 401 41 70 97 115 116 32 105 109 112 108 101 109 101 110 116 97 116 105 111 110 32 111 102 32 116 104 101 32 100 (cA 97 116 101 116 105 109 101 32 116 121 112 101 46 6 404 11 95 95 112 97 99 107 97 103 101 95 95 6 403 0 6 405 (cA 10 95 95 108 111 97 100 101 114 95 95 4 0 0 51 6 406 8 95 95 115 112 101 99 95 95 4 0 0 54 6 407 (cA 8 95 95 102 105 108 101 95 95 6 327 128 47 110 105 120 47 115 116 111 114 101 47 119 106 49 102 53 54 113 107 121 (cA 52 112 109 106 99 55 108 48 114 54 98 54 108 55 119 104 110 110 119 55 104 112 54 45 112 121 116 104 111 110 51 45 (cA 51 46 49 51 46 49 53 47 108 105 98 47 112 121 116 104 111 110 51 46 49 51 47 108 105 98 45 100 121 110 108 111 (cA 97 100 47 95 100 97 116 101 116 105 109 101 46 99 112 121 116 104 111 110 45 51 49 51 45 120 56 54 95 54 52 45 (cA 108 105 110 117 120 45 103 110 117 46 115 111 6 408 4 100 97 116 101 8 13 100 97 116 101 116 105 109 101 46 100 97 (cA 116 101 6 409 8 100 97 116 101 116 105 109 101 8 17 100 97 116 101 116 105 109 101 46 100 97 116 101 116 105 109 101 (cA 6 410 4 116 105 109 101 8 13 100 97 116 101 116 105 109 101 46 116 105 109 101 6 411 9 116 105 109 101 100 101 108 (cA 116 97 8 18 100 97 116 101 116 105 109 101 46 116 105 109 101 100 101 108 116 97 6 412 6 116 122 105 110 102 111 8 (cA 15 100 97 116 101 116 105 109 101 46 116 122 105 110 102 111 6 413 8 116 105 109 101 122 111 110 101 8 17 100 97 116 (cA 101 116 105 109 101 46 116 105 109 101 122 111 110 101 6 415 7 77 73 78 89 69 65 82 4 414 0 1 6 417 7 77 (cA 65 88 89 69 65 82 4 416 0 9999 6 420 3 85 84 67 4 0 0 56 6 421 13 100 97 116 101 116 105 109 101 95 (cA 67 65 80 73 9 30 95 100 97 116 101 116 105 109 101 46 100 97 116 101 116 105 109 101 95 67 65 80 73 35 111 112 [97, 113, 117, 101]))))))))))))))))) 0), (.bool true), (.bool false), (zs "_datetime" 423), (zi 58 0), (.str (nS (cA 6 462 8 95 95 110 97 109 101 95 95 6 461 10 95 102 117 110 99 116 111 111 108 115 6 464 7 95 95 100 111 99 (cA 95 95 6 463 32 84 111 111 108 115 32 116 104 97 116 32 111 112 101 114 97 116 101 32 111 110 32 102 117 110 99 116 (cA 105 111 110 115 46 6 466 11 95 95 112 97 99 107 97 103 101 95 95 6 465 0 6 467 10 95 95 108 111 97 100 101 (cA 114 95 95 4 0 0 14 6 468 8 95 95 115 112 101 99 95 95 4 0 0 62 6 469 6 114 101 100 117 99 101 9 (cA 17 95 102 117 110 99 116 111 111 108 115 46 114 101 100 117 99 101 6 470 10 99 109 112 95 116 111 95 107 101 121 9 (cA 21 95 102 117 110 99 116 111 111 108 115 46 99 109 112 95 116 111 95 107 101 121 6 471 7 112 97 114 116 105 97 108 (cA 8 17 102 117 110 99 116 111 111 108 115 46 112 97 114 116 105 97 108 6 472 18 95 108 114 117 95 99 97 99 104 101 (cA 95 119 114 97 112 112 101 114 8 28 102 117 110 99 116 111 111 108 115 46 95 108 114 117 95 99 97 99 104 101 95 119 [114, 97, 112, 112, 101, 114]))))))))) 0), (.bool true), (.bool false), (zs "_functools" 474)] 3)
def o28 : Obj := zc "tuple" (.seq #[(zs "_tuplegetter" 277)] 0)
def e25 (P : Params) : DictEntry := zk P "__name__" 296 (zs "_collections" 295)
def e26 (P : Params) : DictEntry := zk P "__package__" 299 (zs "" 298)
def e27 (P : Params) : DictEntry := zk P "_count_elements" 302 (.builtin "_collections._count_elements")
def e28 (P : Params) : DictEntry := zk P "deque" 303 (.type "collections.deque")
def e29 (P : Params) : DictEntry := zk P "defaultdict" 304 (.type "collections.defaultdict")
def e30 (P : Params) : DictEntry := zk P "_tuplegetter" 307 (.type "collections._tuplegetter")
def e31 (P : Params) : DictEntry := zk P "OrderedDict" 308 (.type "collections.OrderedDict")
def o29 (P : Params) : Obj := zc "dict" (.dict #[(e25 P), (zk P "__doc__" 297 (.builtin "_collections.__doc__:str#opaque")), (e26 P), (zk P "__loader__" 300 (.ref 14)), (zk P "__spec__" 301 (.ref 33)), (e27 P), (e28 P), (e29 P), (zk P "_deque_iterator" 305 (.type "collections._deque_iterator")), (zk P "_deque_reverse_iterator" 306 (.type "collections._deque_reverse_iterator")), (e30 P), (e31 P)] 12)
def o30 : Obj := ⟨(.type "module"), (some 29), .plain, #[]⟩
def o32 (P : Params) : Obj := zc "dict" (.dict #[(zk P "name" 283 (zs "_collections" 282)), (zk P "loader" 284 (.ref 14)), (zk P "origin" 285 (zs "built-in" 281)), (zk P "loader_state" 286 .none), (zk P "submodule_search_locations" 287 .none), (zk P "_uninitialized_submodules" 288 (.ref 31)), (zk P "_set_fileattr" 289 (.bool false)), (zk P "_cached" 290 .none), (zk P "_initializing" 291 (.bool false))] 9)
def o33 : Obj := ⟨(.ref 22), (some 32), .plain, #[]⟩
def o34 : Obj := zc "tuple" (.seq #[(zs "date" 319), (zs "datetime" 320), (zs "time" 321), (zs "timedelta" 322), (zs "timezone" 323)] 0)
def e32 (P : Params) : DictEntry := zk P "__name__" 400 (zs "_datetime" 399)
def e33 (P : Params) : DictEntry := zk P "__doc__" 402 (zs "Fast implementation of the datetime type." 401)
def e34 (P : Params) : DictEntry := zk P "__package__" 404 (zs "" 403)
def e35 (P : Params) : DictEntry := zk P "__file__" 407 (zs "/nix/store/wj1f56qky4pmjc7l0r6b6l7whnnw7hp6-python3-3.13.15/lib/python3.13/lib-dynload/_datetime.cpython-313-x86_64-linux-gnu.so" 327)
def e36 (P : Params) : DictEntry := zk P "date" 408 (.type "datetime.date")
def e37 (P : Params) : DictEntry := zk P "datetime" 409 (.type "datetime.datetime")
def e38 (P : Params) : DictEntry := zk P "time" 410 (.type "datetime.time")
def e39 (P : Params) : DictEntry := zk P "timedelta" 411 (.type "datetime.timedelta")
def e40 (P : Params) : DictEntry := zk P "tzinfo" 412 (.type "datetime.tzinfo")
def e41 (P : Params) : DictEntry := zk P "timezone" 413 (.type "datetime.timezone")
def e42 (P : Params) : DictEntry := zk P "MINYEAR" 415 (.int (1) 414)
def e43 (P : Params) : DictEntry := zk P "MAXYEAR" 417 (.int (9999) 416)
def o35 (P : Params) : Obj := zc "dict" (.dict #[(e32 P), (e33 P), (e34 P), (zk P "__loader__" 405 (.ref 51)), (zk P "__spec__" 406 (.ref 54)), (e35 P), (e36 P), (e37 P), (e38 P), (e39 P), (e40 P), (e41 P), (e42 P), (e43 P), (zk P "UTC" 420 (.ref 56)), (zk P "datetime_CAPI" 421 (.builtin "_datetime.datetime_CAPI#opaque"))] 16)
def o36 : Obj := ⟨(.type "module"), (some 35), .plain, #[]⟩
def o37 (P : Params) : Obj := zc "dict" (.dict #[(zk P "name" 329 (zs "_datetime" 328)), (zk P "path" 330 (zs "/nix/store/wj1f56qky4pmjc7l0r6b6l7whnnw7hp6-python3-3.13.15/lib/python3.13/lib-dynload/_datetime.cpython-313-x86_64-linux-gnu.so" 327))] 2)
def o38 (P : Params) : Obj := zc "dict" (.dict #[(zk P "__module__" 334 (zs "_frozen_importlib_external" 332)), (zk P "__firstlineno__" 335 (zi 1001 333)), (zk P "__doc__" 336 (.builtin "_frozen_importlib_external._LoaderBasics.__doc__:str#opaque")), (zk P "is_package" 337 (.builtin "_frozen_importlib_external._LoaderBasics.is_package#opaque")), (zk P "create_module" 338 (.builtin "_frozen_importlib_external._LoaderBasics.create_module#opaque")), (zk P "exec_module" 339 (.builtin "_frozen_importlib_external._LoaderBasics.exec_module#opaque")), (zk P "load_module" 340 (.builtin "_frozen_importlib_external._LoaderBasics.load_module#opaque")), (zk P "__static_attributes__" 341 (.ref 40)), (zk P "__dict__" 343 (.ref 41)), (zk P "__weakref__" 345 (.ref 42))] 10)
def o39 : Obj := zc "type" (.cls ⟨(S "_LoaderBasics"), [(.type "object")], [(.ref 39), (.type "object")], 38, (S "_LoaderBasics"), true, [], [(.ref 49)], false, none, false⟩)
def o41 : Obj := zc "getset_descriptor" (.fields #[(zs "__dict__" 342), (.ref 39), (.builtin "function.__dict__"), (.builtin "function.__dict__#set")])
def o42 : Obj := zc "getset_descriptor" (.fields #[(zs "__weakref__" 344), (.ref 39), (.builtin "ExceptionGroup.__weakref__"), .none])
def o43 (P : Params) : Obj := zc "dict" (.dict #[(zk P "__module__" 352 (zs "_frozen_importlib_external" 348)), (zk P "__firstlineno__" 353 (zi 1176 349)), (zk P "__doc__" 354 (.builtin "_frozen_importlib_external.FileLoader.__doc__:str#opaque")), (zk P "__init__" 355 (.builtin "_frozen_importlib_external.FileLoader.__init__#opaque")), (zk P "__eq__" 356 (.builtin "_frozen_importlib_external.FileLoader.__eq__#opaque")), (zk P "__hash__" 357 (.builtin "_frozen_importlib_external.FileLoader.__hash__#opaque")), (zk P "load_module" 358 (.builtin "_frozen_importlib_external.FileLoader.load_module#opaque")), (zk P "get_filename" 359 (.builtin "_frozen_importlib_external.FileLoader.get_filename#opaque")), (zk P "get_data" 360 (.builtin "_frozen_importlib_external.FileLoader.get_data#opaque")), (zk P "get_resource_reader" 361 (.builtin "_frozen_importlib_external.FileLoader.get_resource_reader#opaque")), (zk P "__static_attributes__" 362 (.ref 45)), (zk P "__dict__" 364 (.ref 46)), (zk P "__weakref__" 366 (.ref 47))] 13)
def o44 : Obj := zc "type" (.cls ⟨(S "FileLoader"), [(.type "object")], [(.ref 44), (.type "object")], 43, (S "FileLoader"), true, [], [(.ref 49)], false, none, false⟩)
def o45 : Obj := zc "tuple" (.seq #[(zs "name" 350), (zs "path" 351)] 0)
def o46 : Obj := zc "getset_descriptor" (.fields #[(zs "__dict__" 363), (.ref 44), (.builtin "function.__dict__"), (.builtin "function.__dict__#set")])
def o47 : Obj := zc "getset_descriptor" (.fields #[(zs "__weakref__" 365), (.ref 44), (.builtin "ExceptionGroup.__weakref__"), .none])
def o48 (P : Params) : Obj := zc "dict" (.dict #[(zk P "__module__" 373 (zs "_frozen_importlib_external" 369)), (zk P "__firstlineno__" 374 (zi 1296 370)), (zk P "__doc__" 375 (.builtin "_frozen_importlib_external.ExtensionFileLoader.__doc__:str#opaque")), (zk P "__init__" 376 (.builtin "_frozen_importlib_external.ExtensionFileLoader.__init__#opaque")), (zk P "__eq__" 377 (.builtin "_frozen_importlib_external.ExtensionFileLoader.__eq__#opaque")), (zk P "__hash__" 378 (.builtin "_frozen_importlib_external.ExtensionFileLoader.__hash__#opaque")), (zk P "create_module" 379 (.builtin "_frozen_importlib_external.ExtensionFileLoader.create_module#opaque")), (zk P "exec_module" 380 (.builtin "_frozen_importlib_external.ExtensionFileLoader.exec_module#opaque")), (zk P "is_package" 381 (.builtin "_frozen_importlib_external.ExtensionFileLoader.is_package#opaque")), (zk P "get_code" 382 (.builtin "_frozen_importlib_external.ExtensionFileLoader.get_code#opaque")), (zk P "get_source" 383 (.builtin "_frozen_importlib_external.ExtensionFileLoader.get_source#opaque")), (zk P "get_filename" 384 (.builtin "_frozen_importlib_external.ExtensionFileLoader.get_filename#opaque")), (zk P "__static_attributes__" 385 (.ref 50))] 13)
def o49 : Obj := zc "type" (.cls ⟨(S "ExtensionFileLoader"), [(.ref 44), (.ref 39)], [(.ref 49), (.ref 44), (.ref 39), (.type "object")], 48, (S "ExtensionFileLoader"), true, [], [], false, none, false⟩)
def o50 : Obj := zc "tuple" (.seq #[(zs "name" 371), (zs "path" 372)] 0)
noncomputable def o51 : Obj := ⟨(.ref 49), (some 37), .plain, #[]⟩
def o53 (P : Params) : Obj := zc "dict" (.dict #[(zk P "name" 388 (zs "_datetime" 387)), (zk P "loader" 389 (.ref 51)), (zk P "origin" 390 (zs "/nix/store/wj1f56qky4pmjc7l0r6b6l7whnnw7hp6-python3-3.13.15/lib/python3.13/lib-dynload/_datetime.cpython-313-x86_64-linux-gnu.so" 327)), (zk P "loader_state" 391 .none), (zk P "submodule_search_locations" 392 .none), (zk P "_uninitialized_submodules" 393 (.ref 52)), (zk P "_set_fileattr" 394 (.bool true)), (zk P "_cached" 395 .none), (zk P "_initializing" 396 (.bool false))] 9)
def o54 : Obj := ⟨(.ref 22), (some 53), .plain, #[]⟩
def o55 : Obj := zc "datetime.timedelta" (.fields #[(zi 0 0), (zi 0 0), (zi 0 0)])
def o56 : Obj := zc "datetime.timezone" (.fields #[(.ref 55), .none])
def o57 : Obj := zc "tuple" (.seq #[(zs "_lru_cache_wrapper" 443)] 0)
def e44 (P : Params) : DictEntry := zk P "__name__" 462 (zs "_functools" 461)
def e45 (P : Params) : DictEntry := zk P "__doc__" 464 (zs "Tools that operate on functions." 463)
def e46 (P : Params) : DictEntry := zk P "__package__" 466 (zs "" 465)
def e47 (P : Params) : DictEntry := zk P "reduce" 469 (.builtin "_functools.reduce")
def e48 (P : Params) : DictEntry := zk P "cmp_to_key" 470 (.builtin "_functools.cmp_to_key")
def e49 (P : Params) : DictEntry := zk P "partial" 471 (.type "functools.partial")
def e50 (P : Params) : DictEntry := zk P "_lru_cache_wrapper" 472 (.type "functools._lru_cache_wrapper")
def o58 (P : Params) : Obj := zc "dict" (.dict #[(e44 P), (e45 P), (e46 P), (zk P "__loader__" 467 (.ref 14)), (zk P "__spec__" 468 (.ref 62)), (e47 P), (e48 P), (e49 P), (e50 P)] 9)
def o59 : Obj := ⟨(.type "module"), (some 58), .plain, #[]⟩
def o61 (P : Params) : Obj := zc "dict" (.dict #[(zk P "name" 449 (zs "_functools" 448)), (zk P "loader" 450 (.ref 14)), (zk P "origin" 451 (zs "built-in" 447)), (zk P "loader_state" 452 .none), (zk P "submodule_search_locations" 453 .none), (zk P "_uninitialized_submodules" 454 (.ref 60)), (zk P "_set_fileattr" 455 (.bool false)), (zk P "_cached" 456 .none), (zk P "_initializing" 457 (.bool false))] 9)
noncomputable def o62 : Obj := ⟨(.ref 22), (some 61), .plain, #[]⟩
noncomputable def Topen (g : GG) (P : Params) : BT := (.node (o0 P) (.node (o1 P) (.node (o3 P) (.node o7 (.node o7 (L o19) (L o47)) (.node o23 (L o39) (L o55))) (.node (o11 P) (.node o19 (L (o35 P)) (L o51)) (.node o27 (L (o43 P)) (L o59)))) (.node o5 (.node o9 (.node o17 (L o33) (L o49)) (.node o25 (L o41) (L o57))) (.node (o13 P) (.node (o21 P) (L (o37 P)) (L (o53 P))) (.node (o29 P) (L o45) (L (o61 P)))))) (.node (o2 P) (.node o4 (.node o8 (.node o16 (L (o32 P)) (L (o48 P))) (.node o24 (L o7) (L o56))) (.node o12 (.node (o20 P) (L o36) (L o19)) (.node o28 (L o44) (L o19)))) (.node o6 (.node o10 (.node o18 (L o34) (L o50)) (.node o26 (L o42) (L (o58 P)))) (.node o14 (.node o22 (L (o38 P)) (L o54)) (.node o30 (L o46) (L o62))))))
def o11v1 (P : Params) : Obj := zc "dict" (.dict #[(e16 P), (e17 P), (e18 P), (zk P "__loader__" 251 (.builtin "off-the-table:_sre.__loader__:shared#opaque")), (zk P "__spec__" 252 (.builtin "off-the-table:_sre.__spec__:shared#opaque")), (e19 P), (zk P "template" 254 (.builtin "off-the-table:_sre.template:shared#opaque")), (zk P "getcodesize" 255 (.builtin "off-the-table:_sre.getcodesize:shared#opaque")), (zk P "ascii_iscased" 256 (.builtin "off-the-table:_sre.ascii_iscased:shared#opaque")), (zk P "unicode_iscased" 257 (.builtin "off-the-table:_sre.unicode_iscased:shared#opaque")), (zk P "ascii_tolower" 258 (.builtin "off-the-table:_sre.ascii_tolower:shared#opaque")), (zk P "unicode_tolower" 259 (.builtin "off-the-table:_sre.unicode_tolower:shared#opaque")), (e20 P), (e21 P), (e22 P), (e23 P), (e24 P)] 17)
def o29v1 (P : Params) : Obj := zc "dict" (.dict #[(e25 P), (zk P "__doc__" 297 (.builtin "off-the-table:_collections.__doc__:shared#opaque")), (e26 P), (zk P "__loader__" 300 (.builtin "off-the-table:_collections.__loader__:shared#opaque")), (zk P "__spec__" 301 (.builtin "off-the-table:_collections.__spec__:shared#opaque")), (e27 P), (e28 P), (e29 P), (zk P "_deque_iterator" 305 (.builtin "off-the-table:_collections._deque_iterator:shared#opaque")), (zk P "_deque_reverse_iterator" 306 (.builtin "off-the-table:_collections._deque_reverse_iterator:shared#opaque")), (e30 P), (e31 P)] 12)
def o35v1 (P : Params) : Obj := zc "dict" (.dict #[(e32 P), (e33 P), (e34 P), (zk P "__loader__" 405 (.builtin "off-the-table:_datetime.__loader__:shared#opaque")), (zk P "__spec__" 406 (.builtin "off-the-table:_datetime.__spec__:shared#opaque")), (e35 P), (e36 P), (e37 P), (e38 P), (e39 P), (e40 P), (e41 P), (e42 P), (e43 P), (zk P "UTC" 420 (.builtin "off-the-table:_datetime.UTC:shared#opaque")), (zk P "datetime_CAPI" 421 (.builtin "off-the-table:_datetime.datetime_CAPI:shared#opaque"))] 16)
def o58v1 (P : Params) : Obj := zc "dict" (.dict #[(e44 P), (e45 P), (e46 P), (zk P "__loader__" 467 (.builtin "off-the-table:_functools.__loader__:shared#opaque")), (zk P "__spec__" 468 (.builtin "off-the-table:_functools.__spec__:shared#opaque")), (e47 P), (e48 P), (e49 P), (e50 P)] 9)
noncomputable def Tzero (g : GG) (P : Params) : BT := up (Topen g P) [(11, o11v1 P), (29, o29v1 P), (35, o35v1 P), (58, o58v1 P)]
def o65 : Obj := zc "code" (.fields #[(zs "<module>" 483), (zs "<module>" 484), (zs "/claim/cut.py" 485), (zi 1 0), (zi 0 0), (zi 0 0), (zi 0 0), (zi 0 0), (.ref 63), (.bool false), (zi 482 0), (.ref 64), .none, .none, .none, .none, (zi 486 0), (zi 1 0), (zs "/claim/cut.py" 487)])
noncomputable def o66 : Obj := ⟨(.type "frame"), none, .plain, #[(some (.ref 65)), (some (.ref 3)), (some (.ref 3)), none, (some (.str (S "__main__") 164)), none, (some (.ref 0))]⟩
def T0 (g : GG) (P : Params) : BT := up (Topen g P) [(11, o11v1 P), (29, o29v1 P), (35, o35v1 P), (58, o58v1 P), (63, o7), (64, o8), (65, o65), (66, o66)]
noncomputable def env0 : Env := { scope := P0.main.scope, locals := mainNs, globals := mainNs, cells := [], code := (.ref 65), frame := some 66 }
def S0 (g : Nat → SC) (w : World) (os : OsState) : SharedT := mk (T0 g w.params) 67 488 #[] os
def e51 (P : Params) : DictEntry := zk P "_wall" 494 (.ref 73)
def e52 (P : Params) : DictEntry := zk P "_WallAttr" 534 (.ref 98)
def e53 (P : Params) : DictEntry := zk P "RE_NUMBER" 792 (.ref 107)
def o3v1 (P : Params) : Obj := zc "dict" (.dict #[(zk P "__name__" 165 (zs "cpy313.tomllib._re" 535)), (e0 P), (e1 P), (e2 P), (e3 P), (e4 P), (e5 P), (e6 P), (e7 P), (e8 P), (e9 P), (e10 P), (e11 P), (e12 P), (e13 P), (e14 P), (e15 P), (e51 P), (e52 P), (e53 P)] 20)
def o64v1 : Obj := z0 (.fields #[(zi 5 0), (zi 0 0), (.ref 72), (zi 8 0), (zi 0 0), (.ref 79)])
def o69 : Obj := zc "tuple" (.seq #[(zs "k" 491)] 0)
def o71 : Obj := z0 (.func (fd (S "_wall") (S "_wall") (defR (st 4)) 0 [] .none .none .none .none none .none .none 0))
def o72 : Obj := zc "code" (.fields #[(zs "_wall" 488), (zs "_wall" 489), (zs "/claim/cut.py" 490), (zi 5 0), (zi 1 0), (zi 0 0), (zi 0 0), (zi 3 0), (.ref 67), (.bool true), (zi 482 0), (.ref 68), .none, (.ref 69), (.ref 70), (.ref 71), (zi 492 0), (zi 5 0), (zs "/claim/cut.py" 493)])
def o73 : Obj := zc "function" (.func (fd (S "_wall") (S "_wall") (defR (st 4)) 3 [] .none .none .none (zs "__main__" 164) none (.ref 72) .none 0))
def o75 : Obj := zc "builtin_function_or_method" (.fields #[(.builtin "type.__prepare__"), (.type "type")])
def e54 (P : Params) : DictEntry := zk P "__module__" 502 (zs "__main__" 164)
def e55 (P : Params) : DictEntry := zk P "__firstlineno__" 506 (.int (8) 505)
def e56 (P : Params) : DictEntry := zk P "__init__" 514 (.ref 87)
def e57 (P : Params) : DictEntry := zk P "__get__" 523 (.ref 95)
def e58 (P : Params) : DictEntry := zk P "__set__" 524 (.ref 95)
def e59 (P : Params) : DictEntry := zk P "__delete__" 525 (.ref 95)
def e60 (P : Params) : DictEntry := zk P "__static_attributes__" 527 (.ref 96)
def o76 (P : Params) : Obj := zc "dict" (.dict #[(e54 P), (zk P "__qualname__" 504 (zs "_WallAttr" 503)), (e55 P), (e56 P), (e57 P), (e58 P), (e59 P), (e60 P)] 8)
def o78 : Obj := z0 (.fields #[(zi 9 0), (zi 4 0), (.ref 86), (zi 11 0), (zi 4 0), (.ref 94)])
def o79 : Obj := zc "code" (.fields #[(zs "_WallAttr" 497), (zs "_WallAttr" 498), (zs "/claim/cut.py" 499), (zi 8 0), (zi 0 0), (zi 0 0), (zi 0 0), (zi 0 0), (.ref 77), (.bool false), (zi 482 0), (.ref 78), .none, .none, .none, .none, (zi 500 0), (zi 8 0), (zs "/claim/cut.py" 501)])
noncomputable def o80 : Obj := ⟨(.type "frame"), none, .plain, #[(some (.ref 79)), (some (.ref 3)), (some (.ref 76)), none, (some (.str (S "__main__") 164)), none, (some (.ref 0))]⟩
def o83 : Obj := zc "tuple" (.seq #[(zs "self" 510), (zs "k" 511)] 0)
def o85 : Obj := z0 (.func (fd (S "__init__") (S "_WallAttr.__init__") (defR (nthR (bodyR (st 5)) 0)) 0 [] .none .none .none .none none .none .none 0))
def o86 : Obj := zc "code" (.fields #[(zs "__init__" 507), (zs "_WallAttr.__init__" 508), (zs "/claim/cut.py" 509), (zi 9 0), (zi 2 0), (zi 0 0), (zi 0 0), (zi 3 0), (.ref 81), (.bool true), (zi 482 0), (.ref 82), .none, (.ref 83), (.ref 84), (.ref 85), (zi 512 0), (zi 9 0), (zs "/claim/cut.py" 513)])
def o87 : Obj := zc "function" (.func (fd (S "__init__") (S "_WallAttr.__init__") (defR (nthR (bodyR (st 5)) 0)) 3 [] .none .none .none (zs "__main__" 164) none (.ref 86) .none 0))
def o88 : Obj := zc "tuple" (.seq #[.none] 0)
def o91 : Obj := zc "tuple" (.seq #[(zs "self" 518), (zs "o" 519), (zs "t" 520)] 0)
def o93 : Obj := z0 (.func (fd (S "__get__") (S "_WallAttr.__get__") (defR (nthR (bodyR (st 5)) 1)) 0 [] .none .none .none .none none .none .none 0))
def o94 : Obj := zc "code" (.fields #[(zs "__get__" 515), (zs "_WallAttr.__get__" 516), (zs "/claim/cut.py" 517), (zi 11 0), (zi 3 0), (zi 0 0), (zi 0 0), (zi 3 0), (.ref 89), (.bool true), (zi 482 0), (.ref 90), .none, (.ref 91), (.ref 92), (.ref 93), (zi 521 0), (zi 11 0), (zs "/claim/cut.py" 522)])
def o95 : Obj := zc "function" (.func (fd (S "__get__") (S "_WallAttr.__get__") (defR (nthR (bodyR (st 5)) 1)) 3 [] (.ref 88) .none .none (zs "__main__" 164) none (.ref 94) .none 0))
def o96 : Obj := zc "tuple" (.seq #[(zs "k" 526)] 0)
def o97 (P : Params) : Obj := zc "dict" (.dict #[(e54 P), (e55 P), (e56 P), (e57 P), (e58 P), (e59 P), (e60 P), (zk P "__dict__" 529 (.ref 99)), (zk P "__weakref__" 531 (.ref 100)), (zk P "__doc__" 532 .none)] 4)
noncomputable def o98 : Obj := ⟨(.type "type"), none, (.cls ⟨(S "_WallAttr"), [(.type "object")], [(.ref 98), (.type "object")], 97, (S "_WallAttr"), true, [], [], false, none, false⟩), #[none, none, (some (.str (S "_WallAttr") 495)), (some (.str (S "_WallAttr") 503)), (some (.builtin "object.__new__")), (some (.bool true))]⟩
def o99 : Obj := zc "getset_descriptor" (.fields #[(zs "__dict__" 528), (.ref 98), (.builtin "function.__dict__"), (.builtin "function.__dict__#set")])
def o100 : Obj := zc "getset_descriptor" (.fields #[(zs "__weakref__" 530), (.ref 98), (.builtin "ExceptionGroup.__weakref__"), .none])
def o101 : Obj := zc "super" (.fields #[(.ref 98), (.ref 98), (.ref 98)])
def o102 : Obj := zc "builtin_function_or_method" (.fields #[(.builtin "object.__init_subclass__"), (.ref 98)])
def o103 : Obj := zc "list" (zq 540 nr0)
def o104 (P : Params) : Obj := zc "dict" (.dict #[(zk P "floatpart" 787 (zi 1 788))] 1)
def o105 : Obj := zc "tuple" (.seq #[.none, (zs "floatpart" 790)] 0)
def o106 : Obj := zc "tuple" (zz nr0)
def o107 : Obj := zc "re.Pattern" (.fields #[(.str (nS (cA 10 48 10 40 63 58 10 32 32 32 32 120 91 48 45 57 65 45 70 97 45 102 93 40 63 58 95 63 91 48 45 57 (cA 65 45 70 97 45 102 93 41 42 32 32 32 35 32 104 101 120 10 32 32 32 32 124 10 32 32 32 32 98 91 48 49 (cA 93 40 63 58 95 63 91 48 49 93 41 42 32 32 32 32 32 32 32 32 32 32 32 32 32 32 32 32 32 35 32 98 (cA 105 110 10 32 32 32 32 124 10 32 32 32 32 111 91 48 45 55 93 40 63 58 95 63 91 48 45 55 93 41 42 32 (cA 32 32 32 32 32 32 32 32 32 32 32 32 32 32 35 32 111 99 116 10 41 10 124 10 91 43 45 93 63 40 63 58 (cA 48 124 91 49 45 57 93 40 63 58 95 63 91 48 45 57 93 41 42 41 32 32 32 32 32 32 32 32 32 35 32 100 (cA 101 99 44 32 105 110 116 101 103 101 114 32 112 97 114 116 10 40 63 80 60 102 108 111 97 116 112 97 114 116 62 10 (cA 32 32 32 32 40 63 58 92 46 91 48 45 57 93 40 63 58 95 63 91 48 45 57 93 41 42 41 63 32 32 32 32 (cA 32 32 32 32 32 35 32 111 112 116 105 111 110 97 108 32 102 114 97 99 116 105 111 110 97 108 32 112 97 114 116 10 (cA 32 32 32 32 40 63 58 91 101 69 93 91 43 45 93 63 91 48 45 57 93 40 63 58 95 63 91 48 45 57 93 41 (cA 42 41 63 32 32 35 32 111 112 116 105 111 110 97 108 32 101 120 112 111 110 101 110 116 32 112 97 114 116 10 41 10 [])))))))))))) 538), (zi 96 791), (zi 1 0), (.ref 104), (.ref 105), (.ref 106), (zi 0 0)])
def T4 (g : GG) (P : Params) : BT := up (Topen g P) [(3, o3v1 P), (11, o11v1 P), (29, o29v1 P), (35, o35v1 P), (58, o58v1 P), (63, o7), (64, o64v1), (65, o65), (66, o66), (67, o7), (68, o8), (69, o69), (70, o7), (71, o71), (72, o72), (73, o73), (74, o7), (75, o75), (76, o76 P), (77, o7), (78, o78), (79, o79), (80, o80), (81, o7), (82, o8), (83, o83), (84, o7), (85, o85), (86, o86), (87, o87), (88, o88), (89, o7), (90, o8), (91, o91), (92, o7), (93, o93), (94, o94), (95, o95), (96, o96), (97, o97 P), (98, o98), (99, o99), (100, o100), (101, o101), (102, o102), (103, o103), (104, o104 P), (105, o105), (106, o106), (107, o107)]
def S4 (g : Nat → SC) (w : World) (os : OsState) : SharedT := mk (T4 g w.params) 108 793 #[] os
theorem pc0 (g : Nat → SC) (p : Program) (b rest : List Stmt) (os : OsState) (w : World) : RT p w (S0 g w os) (restQ (st 4 :: st 5 :: st 6 :: st 7 :: rest) env0 (.body b env0) ⟨0, 0, 0, 0⟩) (S4 g w os) (restQ rest env0 (.body b env0) ⟨15, 0, 15, 9⟩) := by
  revert w
  refine byRowG "special-get-raises" fun v w => ?_
  cases v
  · exact RT.ofQ (n := 627) (by kernel_rfl)
  · exact RT.ofQ (n := 627) (by kernel_rfl)
def e61 (P : Params) : DictEntry := zk P "__name__" 165 (zs "functools" 1237)
def e62 (P : Params) : DictEntry := zk P "RE_LOCALTIME" 905 (.ref 112)
def e63 (P : Params) : DictEntry := zk P "RE_DATETIME" 1210 (.ref 117)
def e64 (P : Params) : DictEntry := zk P "match_to_datetime" 1236 (.ref 124)
def e65 (P : Params) : DictEntry := zk P "WRAPPER_ASSIGNMENTS" 1244 (.ref 125)
def e66 (P : Params) : DictEntry := zk P "WRAPPER_UPDATES" 1246 (.ref 126)
def e67 (P : Params) : DictEntry := zk P "update_wrapper" 1258 (.ref 134)
def o3v2 (P : Params) : Obj := zc "dict" (.dict #[(e61 P), (e0 P), (e1 P), (e2 P), (e3 P), (e4 P), (e5 P), (e6 P), (e7 P), (e8 P), (e9 P), (e10 P), (e11 P), (e12 P), (e13 P), (e14 P), (e15 P), (e51 P), (e52 P), (e53 P), (e62 P), (e63 P), (e64 P), (e65 P), (e66 P), (e67 P)] 26)
def o64v2 : Obj := z0 (.fields #[(zi 5 0), (zi 0 0), (.ref 72), (zi 8 0), (zi 0 0), (.ref 79), (zi 18 0), (zi 0 0), (.ref 123), (zi 35 0), (zi 0 0), (.ref 133)])
def o108 : Obj := zc "list" (zq 796 nr1)
def o110 : Obj := zc "tuple" (.seq #[.none, .none, .none, .none, .none] 0)
def o111 : Obj := zc "tuple" (zz nr1)
def o112 : Obj := zc "re.Pattern" (.fields #[(.str (nS (cA 40 91 48 49 93 91 48 45 57 93 124 50 91 48 45 51 93 41 58 40 91 48 45 53 93 91 48 45 57 93 41 58 (cA 40 91 48 45 53 93 91 48 45 57 93 41 40 63 58 92 46 40 91 48 45 57 93 123 49 44 54 125 41 91 48 45 [57, 93, 42, 41, 63]))) 794), (zi 32 904), (zi 4 0), .none, .none, (.ref 111), (zi 0 0)])
def o113 : Obj := zc "list" (zq 909 nr2)
def o115 : Obj := zc "tuple" (.seq #[.none, .none, .none, .none, .none, .none, .none, .none, .none, .none, .none, .none] 0)
def o116 : Obj := zc "tuple" (zz nr2)
def o117 : Obj := zc "re.Pattern" (.fields #[(.str (nS (cA 10 40 91 48 45 57 93 123 52 125 41 45 40 48 91 49 45 57 93 124 49 91 48 45 50 93 41 45 40 48 91 49 (cA 45 57 93 124 91 49 50 93 91 48 45 57 93 124 51 91 48 49 93 41 32 32 35 32 100 97 116 101 44 32 101 46 (cA 103 46 32 49 57 56 56 45 49 48 45 50 55 10 40 63 58 10 32 32 32 32 91 84 116 32 93 10 32 32 32 32 (cA 40 91 48 49 93 91 48 45 57 93 124 50 91 48 45 51 93 41 58 40 91 48 45 53 93 91 48 45 57 93 41 58 (cA 40 91 48 45 53 93 91 48 45 57 93 41 40 63 58 92 46 40 91 48 45 57 93 123 49 44 54 125 41 91 48 45 (cA 57 93 42 41 63 10 32 32 32 32 40 63 58 40 91 90 122 93 41 124 40 91 43 45 93 41 40 91 48 49 93 91 (cA 48 45 57 93 124 50 91 48 45 51 93 41 58 40 91 48 45 53 93 91 48 45 57 93 41 41 63 32 32 35 32 111 [112, 116, 105, 111, 110, 97, 108, 32, 116, 105, 109, 101, 32, 111, 102, 102, 115, 101, 116, 10, 41, 63, 10])))))))) 907), (zi 96 1209), (zi 11 0), .none, .none, (.ref 116), (zi 0 0)])
def o120 : Obj := zc "tuple" (.seq #[(zs "match" 1214), (zs "year_str" 1215), (zs "month_str" 1216), (zs "day_str" 1217), (zs "hour_str" 1218), (zs "minute_str" 1219), (zs "sec_str" 1220), (zs "micros_str" 1221), (zs "zulu_time" 1222), (zs "offset_sign_str" 1223), (zs "offset_hour_str" 1224), (zs "offset_minute_str" 1225), (zs "year" 1226), (zs "month" 1227), (zs "day" 1228), (zs "hour" 1229), (zs "minute" 1230), (zs "sec" 1231), (zs "micros" 1232), (zs "tz" 1233)] 0)
def o122 : Obj := z0 (.func (fd (S "match_to_datetime") (S "match_to_datetime") (defR (st 10)) 0 [] .none .none .none .none none .none .none 0))
def o123 : Obj := zc "code" (.fields #[(zs "match_to_datetime" 1211), (zs "match_to_datetime" 1212), (zs "/claim/cut.py" 1213), (zi 18 0), (zi 1 0), (zi 0 0), (zi 0 0), (zi 3 0), (.ref 118), (.bool true), (zi 482 0), (.ref 119), .none, (.ref 120), (.ref 121), (.ref 122), (zi 1234 0), (zi 18 0), (zs "/claim/cut.py" 1235)])
def o124 : Obj := zc "function" (.func (fd (S "match_to_datetime") (S "match_to_datetime") (defR (st 10)) 3 [] .none .none .none (zs "cpy313.tomllib._re" 535) none (.ref 123) .none 0))
def o125 : Obj := zc "tuple" (.seq #[(zs "__module__" 1239), (zs "__name__" 1240), (zs "__qualname__" 1241), (zs "__doc__" 1242), (zs "__type_params__" 1243)] 0)
def o126 : Obj := zc "tuple" (.seq #[(zs "__dict__" 1245)] 0)
def o127 : Obj := zc "tuple" (.seq #[(.ref 125), (.ref 126)] 0)
def o130 : Obj := zc "tuple" (.seq #[(zs "wrapper" 1250), (zs "wrapped" 1251), (zs "assigned" 1252), (zs "updated" 1253), (zs "value" 1254), (zs "update" 1255)] 0)
def o132 : Obj := z0 (.func (fd (S "update_wrapper") (S "update_wrapper") (defR (st 14)) 0 [] .none .none .none .none none .none .none 0))
def o133 : Obj := zc "code" (.fields #[(zs "update_wrapper" 1247), (zs "update_wrapper" 1248), (zs "/claim/cut.py" 1249), (zi 35 0), (zi 4 0), (zi 0 0), (zi 0 0), (zi 3 0), (.ref 128), (.bool true), (zi 482 0), (.ref 129), .none, (.ref 130), (.ref 131), (.ref 132), (zi 1256 0), (zi 35 0), (zs "/claim/cut.py" 1257)])
def o134 : Obj := zc "function" (.func (fd (S "update_wrapper") (S "update_wrapper") (defR (st 14)) 3 [] (.ref 127) .none .none (zs "functools" 1237) none (.ref 133) .none 0))
def T11 (g : GG) (P : Params) : BT := up (Topen g P) [(3, o3v2 P), (11, o11v1 P), (29, o29v1 P), (35, o35v1 P), (58, o58v1 P), (63, o7), (64, o64v2), (65, o65), (66, o66), (67, o7), (68, o8), (69, o69), (70, o7), (71, o71), (72, o72), (73, o73), (74, o7), (75, o75), (76, o76 P), (77, o7), (78, o78), (79, o79), (80, o80), (81, o7), (82, o8), (83, o83), (84, o7), (85, o85), (86, o86), (87, o87), (88, o88), (89, o7), (90, o8), (91, o91), (92, o7), (93, o93), (94, o94), (95, o95), (96, o96), (97, o97 P), (98, o98), (99, o99), (100, o100), (101, o101), (102, o102), (103, o103), (104, o104 P), (105, o105), (106, o106), (107, o107), (108, o108), (109, o6), (110, o110), (111, o111), (112, o112), (113, o113), (114, o6), (115, o115), (116, o116), (117, o117), (118, o7), (119, o8), (120, o120), (121, o7), (122, o122), (123, o123), (124, o124), (125, o125), (126, o126), (127, o127), (128, o7), (129, o8), (130, o130), (131, o7), (132, o132), (133, o133), (134, o134)]
def S11 (g : Nat → SC) (w : World) (os : OsState) : SharedT := mk (T11 g w.params) 135 1259 #[] os
theorem pc4 (g : Nat → SC) (p : Program) (b rest : List Stmt) (os : OsState) (w : World) : RT p w (S4 g w os) (restQ (st 8 :: st 9 :: st 10 :: st 11 :: st 12 :: st 13 :: st 14 :: rest) env0 (.body b env0) ⟨15, 0, 15, 9⟩) (S11 g w os) (restQ rest env0 (.body b env0) ⟨35, 0, 79, 18⟩) := by
  exact RT.ofQ (n := 626) (by kernel_rfl)
def e68 (P : Params) : DictEntry := zk P "CacheInfo" 1362 (.ref 198)
def o3v3 (P : Params) : Obj := zc "dict" (.dict #[(e61 P), (e0 P), (e1 P), (e2 P), (e3 P), (e4 P), (e5 P), (e6 P), (e7 P), (e8 P), (e9 P), (e10 P), (e11 P), (e12 P), (e13 P), (e14 P), (e15 P), (e51 P), (e52 P), (e53 P), (e62 P), (e63 P), (e64 P), (e65 P), (e66 P), (e67 P), (e68 P)] 27)
def o64v3 : Obj := z0 (.fields #[(zi 5 0), (zi 0 0), (.ref 72), (zi 8 0), (zi 0 0), (.ref 79), (zi 18 0), (zi 0 0), (.ref 123), (zi 35 0), (zi 0 0), (.ref 133), (zi 80 0), (zi 0 0), (.ref 140)])
def o135 : Obj := zc "tuple" (.seq #[(.type "tuple")] 0)
def e69 (P : Params) : DictEntry := zk P "__module__" 1266 (zs "functools" 1237)
def e70 (P : Params) : DictEntry := zk P "__firstlineno__" 1270 (.int (80) 1269)
def e71 (P : Params) : DictEntry := zk P "__slots__" 1271 (.ref 142)
def e72 (P : Params) : DictEntry := zk P "_fields" 1276 (.ref 143)
def e73 (P : Params) : DictEntry := zk P "_field_defaults" 1277 (.ref 144)
def e74 (P : Params) : DictEntry := zk P "_make" 1309 (.ref 160)
def e75 (P : Params) : DictEntry := zk P "_replace" 1318 (.ref 168)
def e76 (P : Params) : DictEntry := zk P "__replace__" 1319 (.ref 168)
def e77 (P : Params) : DictEntry := zk P "__repr__" 1326 (.ref 175)
def e78 (P : Params) : DictEntry := zk P "_asdict" 1333 (.ref 182)
def e79 (P : Params) : DictEntry := zk P "__getnewargs__" 1340 (.ref 189)
def e80 (P : Params) : DictEntry := zk P "__match_args__" 1345 (.ref 190)
def e81 (P : Params) : DictEntry := zk P "hits" 1348 (.ref 191)
def e82 (P : Params) : DictEntry := zk P "misses" 1351 (.ref 192)
def e83 (P : Params) : DictEntry := zk P "maxsize" 1354 (.ref 193)
def e84 (P : Params) : DictEntry := zk P "currsize" 1357 (.ref 194)
def e85 (P : Params) : DictEntry := zk P "__static_attributes__" 1358 (.ref 195)
def o137 (P : Params) : Obj := zc "dict" (.dict #[(e69 P), (zk P "__qualname__" 1268 (zs "CacheInfo" 1267)), (e70 P), (e71 P), (e72 P), (e73 P), (zk P "__new__" 1288 (.ref 151)), (e74 P), (e75 P), (e76 P), (e77 P), (e78 P), (e79 P), (e80 P), (e81 P), (e82 P), (e83 P), (e84 P), (e85 P)] 19)
def o139 : Obj := z0 (.fields #[(zi 85 0), (zi 4 0), (.ref 150), (zi 89 0), (zi 4 0), (.ref 157), (zi 95 0), (zi 4 0), (.ref 167), (zi 102 0), (zi 4 0), (.ref 174), (zi 105 0), (zi 4 0), (.ref 181), (zi 108 0), (zi 4 0), (.ref 188)])
def o140 : Obj := zc "code" (.fields #[(zs "CacheInfo" 1261), (zs "CacheInfo" 1262), (zs "/claim/cut.py" 1263), (zi 80 0), (zi 0 0), (zi 0 0), (zi 0 0), (zi 0 0), (.ref 138), (.bool false), (zi 482 0), (.ref 139), .none, .none, .none, .none, (zi 1264 0), (zi 80 0), (zs "/claim/cut.py" 1265)])
noncomputable def o141 : Obj := ⟨(.type "frame"), none, .plain, #[(some (.ref 140)), (some (.ref 3)), (some (.ref 137)), none, (some (.str (S "functools") 1237)), none, (some (.ref 0))]⟩
def o143 : Obj := zc "tuple" (.seq #[(zs "hits" 1272), (zs "misses" 1273), (zs "maxsize" 1274), (zs "currsize" 1275)] 0)
def o147 : Obj := zc "tuple" (.seq #[(zs "_cls" 1281), (zs "hits" 1282), (zs "misses" 1283), (zs "maxsize" 1284), (zs "currsize" 1285)] 0)
def o149 : Obj := z0 (.func (fd (S "__new__") (S "CacheInfo.__new__") (defR (nthR (bodyR (st 15)) 3)) 0 [] .none .none .none .none none .none .none 0))
def o150 : Obj := zc "code" (.fields #[(zs "__new__" 1278), (zs "CacheInfo.__new__" 1279), (zs "/claim/cut.py" 1280), (zi 85 0), (zi 5 0), (zi 0 0), (zi 0 0), (zi 3 0), (.ref 145), (.bool true), (zi 482 0), (.ref 146), .none, (.ref 147), (.ref 148), (.ref 149), (zi 1286 0), (zi 85 0), (zs "/claim/cut.py" 1287)])
def o151 : Obj := zc "function" (.func (fd (S "__new__") (S "CacheInfo.__new__") (defR (nthR (bodyR (st 15)) 3)) 3 [] .none .none .none (zs "functools" 1237) none (.ref 150) .none 0))
def o154 : Obj := zc "tuple" (.seq #[(zs "cls" 1292), (zs "iterable" 1293), (zs "result" 1294)] 0)
def o156 : Obj := z0 (.func (fd (S "_make") (S "CacheInfo._make") (defR (nthR (bodyR (st 15)) 4)) 0 [] .none .none .none .none none .none .none 0))
def o157 : Obj := zc "code" (.fields #[(zs "_make" 1289), (zs "CacheInfo._make" 1290), (zs "/claim/cut.py" 1291), (zi 88 0), (zi 2 0), (zi 0 0), (zi 0 0), (zi 3 0), (.ref 152), (.bool true), (zi 482 0), (.ref 153), .none, (.ref 154), (.ref 155), (.ref 156), (zi 1295 0), (zi 88 0), (zs "/claim/cut.py" 1296)])
def o158 : Obj := zc "function" (.func (fd (S "_make") (S "CacheInfo._make") (defR (nthR (bodyR (st 15)) 4)) 3 [] .none .none .none (zs "functools" 1237) (some 161) (.ref 157) .none 0))
def o159 (P : Params) : Obj := zc "dict" (.dict #[(zk P "__module__" 1298 (zs "functools" 1237)), (zk P "__name__" 1301 (zs "_make" 1300)), (zk P "__qualname__" 1304 (zs "CacheInfo._make" 1303)), (zk P "__doc__" 1306 .none), (zk P "__annotations__" 1308 (.ref 161))] 5)
noncomputable def o160 : Obj := ⟨(.type "classmethod"), (some 159), (.fields #[(.ref 158), (.bool false)]), #[]⟩
def o164 : Obj := zc "tuple" (.seq #[(zs "self" 1313), (zs "kwds" 1314), (zs "result" 1315)] 0)
def o166 : Obj := z0 (.func (fd (S "_replace") (S "CacheInfo._replace") (defR (nthR (bodyR (st 15)) 5)) 0 [] .none .none .none .none none .none .none 0))
def o167 : Obj := zc "code" (.fields #[(zs "_replace" 1310), (zs "CacheInfo._replace" 1311), (zs "/claim/cut.py" 1312), (zi 95 0), (zi 1 0), (zi 1 0), (zi 0 0), (zi 11 0), (.ref 162), (.bool true), (zi 482 0), (.ref 163), .none, (.ref 164), (.ref 165), (.ref 166), (zi 1316 0), (zi 95 0), (zs "/claim/cut.py" 1317)])
def o168 : Obj := zc "function" (.func (fd (S "_replace") (S "CacheInfo._replace") (defR (nthR (bodyR (st 15)) 5)) 3 [] .none .none .none (zs "functools" 1237) none (.ref 167) .none 0))
def o171 : Obj := zc "tuple" (.seq #[(zs "self" 1323)] 0)
def o173 : Obj := z0 (.func (fd (S "__repr__") (S "CacheInfo.__repr__") (defR (nthR (bodyR (st 15)) 7)) 0 [] .none .none .none .none none .none .none 0))
def o174 : Obj := zc "code" (.fields #[(zs "__repr__" 1320), (zs "CacheInfo.__repr__" 1321), (zs "/claim/cut.py" 1322), (zi 102 0), (zi 1 0), (zi 0 0), (zi 0 0), (zi 3 0), (.ref 169), (.bool true), (zi 482 0), (.ref 170), .none, (.ref 171), (.ref 172), (.ref 173), (zi 1324 0), (zi 102 0), (zs "/claim/cut.py" 1325)])
def o175 : Obj := zc "function" (.func (fd (S "__repr__") (S "CacheInfo.__repr__") (defR (nthR (bodyR (st 15)) 7)) 3 [] .none .none .none (zs "functools" 1237) none (.ref 174) .none 0))
def o178 : Obj := zc "tuple" (.seq #[(zs "self" 1330)] 0)
def o180 : Obj := z0 (.func (fd (S "_asdict") (S "CacheInfo._asdict") (defR (nthR (bodyR (st 15)) 8)) 0 [] .none .none .none .none none .none .none 0))
def o181 : Obj := zc "code" (.fields #[(zs "_asdict" 1327), (zs "CacheInfo._asdict" 1328), (zs "/claim/cut.py" 1329), (zi 105 0), (zi 1 0), (zi 0 0), (zi 0 0), (zi 3 0), (.ref 176), (.bool true), (zi 482 0), (.ref 177), .none, (.ref 178), (.ref 179), (.ref 180), (zi 1331 0), (zi 105 0), (zs "/claim/cut.py" 1332)])
def o182 : Obj := zc "function" (.func (fd (S "_asdict") (S "CacheInfo._asdict") (defR (nthR (bodyR (st 15)) 8)) 3 [] .none .none .none (zs "functools" 1237) none (.ref 181) .none 0))
def o185 : Obj := zc "tuple" (.seq #[(zs "self" 1337)] 0)
def o187 : Obj := z0 (.func (fd (S "__getnewargs__") (S "CacheInfo.__getnewargs__") (defR (nthR (bodyR (st 15)) 9)) 0 [] .none .none .none .none none .none .none 0))
def o188 : Obj := zc "code" (.fields #[(zs "__getnewargs__" 1334), (zs "CacheInfo.__getnewargs__" 1335), (zs "/claim/cut.py" 1336), (zi 108 0), (zi 1 0), (zi 0 0), (zi 0 0), (zi 3 0), (.ref 183), (.bool true), (zi 482 0), (.ref 184), .none, (.ref 185), (.ref 186), (.ref 187), (zi 1338 0), (zi 108 0), (zs "/claim/cut.py" 1339)])
def o189 : Obj := zc "function" (.func (fd (S "__getnewargs__") (S "CacheInfo.__getnewargs__") (defR (nthR (bodyR (st 15)) 9)) 3 [] .none .none .none (zs "functools" 1237) none (.ref 188) .none 0))
def o190 : Obj := zc "tuple" (.seq #[(zs "hits" 1341), (zs "misses" 1342), (zs "maxsize" 1343), (zs "currsize" 1344)] 0)
def o191 : Obj := zc "collections._tuplegetter" (.fields #[(zi 0 0), (zs "Alias for field number 0" 1347), (.bool true)])
def o192 : Obj := zc "collections._tuplegetter" (.fields #[(zi 1 0), (zs "Alias for field number 1" 1350), (.bool true)])
def o193 : Obj := zc "collections._tuplegetter" (.fields #[(zi 2 0), (zs "Alias for field number 2" 1353), (.bool true)])
def o194 : Obj := zc "collections._tuplegetter" (.fields #[(zi 3 0), (zs "Alias for field number 3" 1356), (.bool true)])
def o197 (P : Params) : Obj := zc "dict" (.dict #[(e69 P), (e70 P), (e71 P), (e72 P), (e73 P), (zk P "__new__" 1288 (.ref 199)), (e74 P), (e75 P), (e76 P), (e77 P), (e78 P), (e79 P), (e80 P), (e81 P), (e82 P), (e83 P), (e84 P), (e85 P), (zk P "__doc__" 1360 .none)] 2)
noncomputable def o198 : Obj := ⟨(.type "type"), none, (.cls ⟨(S "CacheInfo"), [(.type "tuple")], [(.ref 198), (.type "tuple"), (.type "object")], 197, (S "CacheInfo"), false, [], [], false, none, false⟩), #[(some (.ref 135)), none, (some (.str (S "CacheInfo") 1259)), (some (.str (S "CacheInfo") 1267)), (some .none), (some (.bool false))]⟩
def o199 : Obj := zc "staticmethod" (.fields #[(.ref 151)])
def o200 : Obj := zc "super" (.fields #[(.ref 198), (.ref 198), (.ref 198)])
def o201 : Obj := zc "builtin_function_or_method" (.fields #[(.builtin "object.__init_subclass__"), (.ref 198)])
def b0 (g : GG) (P : Params) : BT := (.node o8 (L o7) .nil)
def b1 (g : GG) (P : Params) : BT := (.node o7 (L o7) (L o7))
def b2 (g : GG) (P : Params) : BT := (.node o7 (L o7) .nil)
def b3 (g : GG) (P : Params) : BT := (.node o7 (L o8) .nil)
def b4 (g : GG) (P : Params) : BT := (.node o8 (L o8) .nil)
def T12 (g : GG) (P : Params) : BT := (.node (o0 P) (.node (o1 P) (.node (o3v3 P) (.node o7 (.node o7 (.node o19 (.node o7 (L o127) (L o191)) (.node o95 (L (o159 P)) .nil)) (.node o47 (.node o79 (L o143) .nil) (.node o111 (L o175) .nil))) (.node o23 (.node o39 (.node o71 (L o135) (L o199)) (.node o103 (L o167) .nil)) (.node o55 (.node o87 (L o151) .nil) (b0 g P)))) (.node (o11v1 P) (.node o19 (.node (o35v1 P) (b1 g P) (.node o99 (L o8) .nil)) (.node o51 (.node o83 (L o147) .nil) (.node o115 (L o7) .nil))) (.node o27 (.node (o43 P) (.node o75 (L o139) .nil) (.node o107 (L o171) .nil)) (.node o59 (.node o91 (L o7) .nil) (.node o123 (L o187) .nil))))) (.node o5 (.node o9 (.node o17 (.node o33 (.node o65 (L o8) (L o193)) (.node (o97 P) (L o6) .nil)) (.node o49 (b2 g P) (.node o113 (L o8) .nil))) (.node o25 (.node o41 (.node o73 (L (o137 P)) (L o201)) (.node o105 (L o7) .nil)) (.node o57 (b3 g P) (.node o7 (L o185) .nil)))) (.node (o13 P) (.node (o21 P) (.node (o37 P) (.node o69 (L o133) (L (o197 P))) (.node o101 (L o7) .nil)) (.node (o53 P) (.node o85 (L o149) .nil) (.node o117 (L o181) .nil))) (.node (o29v1 P) (.node o45 (.node o7 (L o141) .nil) (.node o6 (L o173) .nil)) (.node (o61 P) (.node o93 (L o157) .nil) (.node o125 (L o189) .nil)))))) (.node (o2 P) (.node o4 (.node o8 (.node o16 (.node (o32 P) (.node o64v3 (L o7) (L o192)) (.node o96 (L o160) .nil)) (.node (o48 P) (.node o80 (L o6) .nil) (.node o112 (L o7) .nil))) (.node o24 (.node o7 (.node o72 (L o75) (L o200)) (.node (o104 P) (L o168) .nil)) (.node o56 (.node o88 (L o7) .nil) (.node o120 (L o8) .nil)))) (.node o12 (.node (o20 P) (.node o36 (.node o8 (L o132) (L o19)) (.node o100 (L o164) .nil)) (.node o19 (b2 g P) (.node o116 (L o180) .nil))) (.node o28 (.node o44 (.node (o76 P) (L o140) .nil) (.node o108 (L o7) .nil)) (.node o19 (.node o7 (L o156) .nil) (.node o124 (L o188) .nil))))) (.node o6 (.node o10 (.node o18 (.node o34 (.node o66 (L o130) (L o194)) (.node o98 (L o7) .nil)) (.node o50 (b4 g P) (.node o6 (L o178) .nil))) (.node o26 (.node o42 (b2 g P) (.node o106 (L o8) .nil)) (.node (o58v1 P) (.node o8 (L o154) .nil) (.node o122 (L o7) .nil)))) (.node o14 (.node o22 (.node (o38 P) (.node o7 (L o134) (L o198)) (.node o102 (L o166) .nil)) (.node o54 (.node o86 (L o150) .nil) (.node o7 (L o182) .nil))) (.node o30 (.node o46 (.node o78 (L o7) .nil) (.node o110 (L o174) .nil)) (.node o62 (.node o94 (L o158) .nil) (.node o126 (L o190) .nil)))))))
def S12 (g : Nat → SC) (w : World) (os : OsState) : SharedT := mk (T12 g w.params) 202 1363 #[] os
theorem pc11 (g : Nat → SC) (p : Program) (b rest : List Stmt) (os : OsState) (w : World) : RT p w (S11 g w os) (restQ (st 15 :: rest) env0 (.body b env0) ⟨35, 0, 79, 18⟩) (S12 g w os) (restQ rest env0 (.body b env0) ⟨80, 0, 114, 58⟩) := by
  exact RT.ofQ (n := 720) (by kernel_rfl)
def e86 (P : Params) : DictEntry := zk P "_CacheInfo" 1363 (.ref 198)
def e87 (P : Params) : DictEntry := zk P "lru_cache" 1377 (.ref 209)
def e88 (P : Params) : DictEntry := zk P "cached_tz" 1445 (.ref 232)
def o3v4 (P : Params) : Obj := zc "dict" (.dict #[(zk P "__name__" 165 (zs "cpy313.tomllib._re" 1378)), (e0 P), (e1 P), (e2 P), (e3 P), (e4 P), (e5 P), (e6 P), (e7 P), (e8 P), (e9 P), (e10 P), (e11 P), (e12 P), (e13 P), (e14 P), (e15 P), (e51 P), (e52 P), (e53 P), (e62 P), (e63 P), (e64 P), (e65 P), (e66 P), (e67 P), (e68 P), (e86 P), (e87 P), (e88 P)] 30)
def o64v4 : Obj := z0 (.fields #[(zi 5 0), (zi 0 0), (.ref 72), (zi 8 0), (zi 0 0), (.ref 79), (zi 18 0), (zi 0 0), (.ref 123), (zi 35 0), (zi 0 0), (.ref 133), (zi 80 0), (zi 0 0), (.ref 140), (zi 116 0), (zi 0 0), (.ref 208), (zi 135 0), (zi 0 0), (.ref 226)])
def o202 : Obj := zc "tuple" (.seq #[(zi 128 1364), (.bool false)] 0)
def o204 : Obj := z0 (.fields #[(zi 128 0), (zi 4 0), (.ref 219)])
def o205 : Obj := zc "tuple" (.seq #[(zs "maxsize" 1368), (zs "typed" 1369), (zs "user_function" 1370), (zs "wrapper" 1371), (zs "decorating_function" 1372)] 0)
def o206 : Obj := zc "tuple" (.seq #[(zs "maxsize" 1373), (zs "typed" 1374)] 0)
def o207 : Obj := z0 (.func (fd (S "lru_cache") (S "lru_cache") (defR (st 17)) 0 [] .none .none .none .none none .none .none 0))
def o208 : Obj := zc "code" (.fields #[(zs "lru_cache" 1365), (zs "lru_cache" 1366), (zs "/claim/cut.py" 1367), (zi 116 0), (zi 2 0), (zi 0 0), (zi 0 0), (zi 3 0), (.ref 203), (.bool true), (zi 482 0), (.ref 204), .none, (.ref 205), (.ref 206), (.ref 207), (zi 1375 0), (zi 116 0), (zs "/claim/cut.py" 1376)])
def o209 : Obj := zc "function" (.func (fd (S "lru_cache") (S "lru_cache") (defR (st 17)) 3 [] (.ref 202) .none .none (zs "functools" 1237) none (.ref 208) .none 0))
def o210 (P : Params) : Obj := zc "frame" (.dict #[(zk P "decorating_function" 1390 (.ref 220))] 1)
def o211 : Obj := zc "cell" (.cell (some .none))
def o212 : Obj := zc "cell" (.cell (some (.bool false)))
def o213 : Obj := zc "tuple" (.seq #[(.ref 211), (.ref 212)] 0)
def o214 : Obj := zc "tuple" (.seq #[(zs "maxsize" 1384), (zs "typed" 1385)] 0)
def o215 : Obj := z0 (.fields #[(zi 130 0), (zi 35 0), (.ref 239)])
def o216 : Obj := zc "tuple" (.seq #[(zs "user_function" 1386), (zs "wrapper" 1387)] 0)
def o218 : Obj := z0 (.func (fd (S "decorating_function") (S "lru_cache.<locals>.decorating_function") (defR (nthR (bodyR (st 17)) 1)) 0 [] .none .none .none .none none .none .none 0))
def o219 : Obj := zc "code" (.fields #[(zs "decorating_function" 1381), (zs "lru_cache.<locals>.decorating_function" 1382), (zs "/claim/cut.py" 1383), (zi 128 0), (zi 1 0), (zi 0 0), (zi 0 0), (zi 19 0), (.ref 214), (.bool true), (zi 482 0), (.ref 215), .none, (.ref 216), (.ref 217), (.ref 218), (zi 1388 0), (zi 128 0), (zs "/claim/cut.py" 1389)])
def o220 : Obj := zc "function" (.func (fd (S "decorating_function") (S "lru_cache.<locals>.decorating_function") (defR (nthR (bodyR (st 17)) 1)) 3 [((S "typed"), 212), ((S "maxsize"), 211)] .none .none .none (zs "cpy313.tomllib._re" 1378) none (.ref 219) (.ref 213) 0))
def o223 : Obj := zc "tuple" (.seq #[(zs "hour_str" 1394), (zs "minute_str" 1395), (zs "sign_str" 1396), (zs "sign" 1397)] 0)
def o225 : Obj := z0 (.func (fd (S "cached_tz") (S "cached_tz") (defR (st 19)) 0 [] .none .none .none .none none .none .none 0))
def o226 : Obj := zc "code" (.fields #[(zs "cached_tz" 1391), (zs "cached_tz" 1392), (zs "/claim/cut.py" 1393), (zi 134 0), (zi 3 0), (zi 0 0), (zi 0 0), (zi 3 0), (.ref 221), (.bool true), (zi 482 0), (.ref 222), .none, (.ref 223), (.ref 224), (.ref 225), (zi 1398 0), (zi 134 0), (zs "/claim/cut.py" 1399)])
def o227 : Obj := ⟨(.type "function"), (some 245), (.func (fd (S "cached_tz") (S "cached_tz") (defR (st 19)) 3 [] .none .none .none (.str (S "cpy313.tomllib._re") 1378) none (.ref 226) .none 0)), #[]⟩
def o228 (P : Params) : Obj := zc "frame" (.dict #[(zk P "user_function" 1400 (.ref 227)), (zk P "wrapper" 1401 (.ref 232))] 2)
def o229 : Obj := z0 (.dict #[] 0)
def o230 : Obj := z0 (.fields #[(zi 0 0), (zi 0 0)])
def o231 : Obj := zc "object" .plain
noncomputable def o232 : Obj := ⟨(.type "functools._lru_cache_wrapper"), (some 241), (.fields #[(.ref 227), (.int (-1) 0), (.bool false), (.ref 198), (.ref 229), (.ref 230), .none, (.ref 231)]), #[]⟩
def o234 : Obj := zc "tuple" (.seq #[(zs "maxsize" 1405), (zs "typed" 1406)] 0)
def o238 : Obj := z0 (.func (fd (S "<lambda>") (S "lru_cache.<locals>.decorating_function.<locals>.<lambda>") (lamR (valR (nthR (bodyR (nthR (bodyR (st 17)) 1)) 1))) 0 [] .none .none .none .none none .none .none 0))
def o239 : Obj := zc "code" (.fields #[(zs "<lambda>" 1402), (zs "lru_cache.<locals>.decorating_function.<locals>.<lambda>" 1403), (zs "/claim/cut.py" 1404), (zi 130 0), (zi 0 0), (zi 0 0), (zi 0 0), (zi 19 0), (.ref 234), (.bool true), (zi 482 0), (.ref 235), .none, (.ref 236), (.ref 237), (.ref 238), (zi 1407 0), (zi 130 0), (zs "/claim/cut.py" 1408)])
def o240 : Obj := zc "function" (.func (fd (S "<lambda>") (S "lru_cache.<locals>.decorating_function.<locals>.<lambda>") (lamR (valR (nthR (bodyR (nthR (bodyR (st 17)) 1)) 1))) 3 [((S "typed"), 212), ((S "maxsize"), 211)] .none .none .none (zs "cpy313.tomllib._re" 1378) none (.ref 239) (.ref 233) 0))
def o241 (P : Params) : Obj := zc "dict" (.dict #[(zk P "cache_parameters" 1410 (.ref 240)), (zk P "__module__" 1419 (zs "cpy313.tomllib._re" 1378)), (zk P "__name__" 1424 (zs "cached_tz" 1421)), (zk P "__qualname__" 1429 (zs "cached_tz" 1426)), (zk P "__doc__" 1433 .none), (zk P "__type_params__" 1437 (.ref 243)), (zk P "__wrapped__" 1444 (.ref 227))] 7)
def o242 (P : Params) : Obj := zc "frame" (.dict #[(zk P "wrapper" 1411 (.ref 232)), (zk P "wrapped" 1412 (.ref 227)), (zk P "assigned" 1413 (.ref 125)), (zk P "updated" 1414 (.ref 126)), (zk P "value" 1416 (.ref 245)), (zk P "update" 1440 (.ref 244))] 6)
def o244 : Obj := zc "builtin_function_or_method" (.fields #[(.builtin "dict.update"), (.ref 241)])
def T16 (g : GG) (P : Params) : BT := up (T12 g P) [(3, o3v4 P), (64, o64v4), (202, o202), (203, o7), (204, o204), (205, o205), (206, o206), (207, o207), (208, o208), (209, o209), (210, o210 P), (211, o211), (212, o212), (213, o213), (214, o214), (215, o215), (216, o216), (217, o7), (218, o218), (219, o219), (220, o220), (221, o7), (222, o8), (223, o223), (224, o7), (225, o225), (226, o226), (227, o227), (228, o228 P), (229, o229), (230, o230), (231, o231), (232, o232), (233, o213), (234, o234), (235, o8), (236, o7), (237, o7), (238, o238), (239, o239), (240, o240), (241, o241 P), (242, o242 P), (243, o7), (244, o244), (245, o6)]
def S16 (g : Nat → SC) (w : World) (os : OsState) : SharedT := mk (T16 g w.params) 246 1446 #[] os
theorem pc12 (g : Nat → SC) (p : Program) (b rest : List Stmt) (os : OsState) (w : World) : RT p w (S12 g w os) (restQ (st 16 :: st 17 :: st 18 :: st 19 :: rest) env0 (.body b env0) ⟨80, 0, 114, 58⟩) (S16 g w os) (restQ rest env0 (.body b env0) ⟨135, 0, 137, 90⟩) := by
  revert w
  refine byRowG "special-get-raises" fun v w => ?_
  cases v
  · exact RT.ofQ (n := 715) (by kernel_rfl)
  · exact RT.ofQ (n := 715) (by kernel_rfl)
def e89 (P : Params) : DictEntry := zk P "__name__" 165 (zs "cpy313.tomllib._parser" 1466)
def e90 (P : Params) : DictEntry := zk P "match_to_localtime" 1457 (.ref 252)
def e91 (P : Params) : DictEntry := zk P "match_to_number" 1465 (.ref 259)
def e92 (P : Params) : DictEntry := zk P "MAX_KEY_PARTS" 1469 (.int (1000) 1468)
def o3v5 (P : Params) : Obj := zc "dict" (.dict #[(e89 P), (e0 P), (e1 P), (e2 P), (e3 P), (e4 P), (e5 P), (e6 P), (e7 P), (e8 P), (e9 P), (e10 P), (e11 P), (e12 P), (e13 P), (e14 P), (e15 P), (e51 P), (e52 P), (e53 P), (e62 P), (e63 P), (e64 P), (e65 P), (e66 P), (e67 P), (e68 P), (e86 P), (e87 P), (e88 P), (e90 P), (e91 P), (e92 P)] 33)
def o64v5 : Obj := z0 (.fields #[(zi 5 0), (zi 0 0), (.ref 72), (zi 8 0), (zi 0 0), (.ref 79), (zi 18 0), (zi 0 0), (.ref 123), (zi 35 0), (zi 0 0), (.ref 133), (zi 80 0), (zi 0 0), (.ref 140), (zi 116 0), (zi 0 0), (.ref 208), (zi 135 0), (zi 0 0), (.ref 226), (zi 138 0), (zi 0 0), (.ref 251), (zi 142 0), (zi 0 0), (.ref 258)])
def o248 : Obj := zc "tuple" (.seq #[(zs "match" 1449), (zs "hour_str" 1450), (zs "minute_str" 1451), (zs "sec_str" 1452), (zs "micros_str" 1453), (zs "micros" 1454)] 0)
def o250 : Obj := z0 (.func (fd (S "match_to_localtime") (S "match_to_localtime") (defR (st 20)) 0 [] .none .none .none .none none .none .none 0))
def o251 : Obj := zc "code" (.fields #[(zs "match_to_localtime" 1446), (zs "match_to_localtime" 1447), (zs "/claim/cut.py" 1448), (zi 138 0), (zi 1 0), (zi 0 0), (zi 0 0), (zi 3 0), (.ref 246), (.bool true), (zi 482 0), (.ref 247), .none, (.ref 248), (.ref 249), (.ref 250), (zi 1455 0), (zi 138 0), (zs "/claim/cut.py" 1456)])
def o252 : Obj := zc "function" (.func (fd (S "match_to_localtime") (S "match_to_localtime") (defR (st 20)) 3 [] .none .none .none (zs "cpy313.tomllib._re" 1378) none (.ref 251) .none 0))
def o255 : Obj := zc "tuple" (.seq #[(zs "match" 1461), (zs "parse_float" 1462)] 0)
def o257 : Obj := z0 (.func (fd (S "match_to_number") (S "match_to_number") (defR (st 21)) 0 [] .none .none .none .none none .none .none 0))
def o258 : Obj := zc "code" (.fields #[(zs "match_to_number" 1458), (zs "match_to_number" 1459), (zs "/claim/cut.py" 1460), (zi 142 0), (zi 2 0), (zi 0 0), (zi 0 0), (zi 3 0), (.ref 253), (.bool true), (zi 482 0), (.ref 254), .none, (.ref 255), (.ref 256), (.ref 257), (zi 1463 0), (zi 142 0), (zs "/claim/cut.py" 1464)])
def o259 : Obj := zc "function" (.func (fd (S "match_to_number") (S "match_to_number") (defR (st 21)) 3 [] .none .none .none (zs "cpy313.tomllib._re" 1378) none (.ref 258) .none 0))
def T20 (g : GG) (P : Params) : BT := up (T12 g P) [(3, o3v5 P), (64, o64v5), (202, o202), (203, o7), (204, o204), (205, o205), (206, o206), (207, o207), (208, o208), (209, o209), (210, o210 P), (211, o211), (212, o212), (213, o213), (214, o214), (215, o215), (216, o216), (217, o7), (218, o218), (219, o219), (220, o220), (221, o7), (222, o8), (223, o223), (224, o7), (225, o225), (226, o226), (227, o227), (228, o228 P), (229, o229), (230, o230), (231, o231), (232, o232), (233, o213), (234, o234), (235, o8), (236, o7), (237, o7), (238, o238), (239, o239), (240, o240), (241, o241 P), (242, o242 P), (243, o7), (244, o244), (245, o6), (246, o7), (247, o8), (248, o248), (249, o7), (250, o250), (251, o251), (252, o252), (253, o7), (254, o8), (255, o255), (256, o7), (257, o257), (258, o258), (259, o259)]
def S20 (g : Nat → SC) (w : World) (os : OsState) : SharedT := mk (T20 g w.params) 260 1470 #[] os
theorem pc16 (g : Nat → SC) (p : Program) (b rest : List Stmt) (os : OsState) (w : World) : RT p w (S16 g w os) (restQ (st 20 :: st 21 :: st 22 :: st 23 :: rest) env0 (.body b env0) ⟨135, 0, 137, 90⟩) (S20 g w os) (restQ rest env0 (.body b env0) ⟨147, 0, 147, 13⟩) := by
  exact RT.ofQ (n := 82) (by kernel_rfl)
def o64v6 : Obj := z0 (.fields #[(zi 5 0), (zi 0 0), (.ref 72), (zi 8 0), (zi 0 0), (.ref 79), (zi 18 0), (zi 0 0), (.ref 123), (zi 35 0), (zi 0 0), (.ref 133), (zi 80 0), (zi 0 0), (.ref 140), (zi 116 0), (zi 0 0), (.ref 208), (zi 135 0), (zi 0 0), (.ref 226), (zi 138 0), (zi 0 0), (.ref 251), (zi 142 0), (zi 0 0), (.ref 258), (zi 148 0), (zi 23 0), (.ref 264)])
def o260 : Obj := zc "range" (.fields #[(zi 0 1471), (zi 32 1470), (zi 1 1472)])
def o261 : Obj := zc "range_iterator" (.fields #[(zi 0 0), (zi 32 0), (zi 1 0)])
def o264 : Obj := zc "code" (.fields #[(zs "<genexpr>" 1473), (zs "<genexpr>" 1474), (zs "/claim/cut.py" 1475), (zi 148 0), (zi 1 0), (zi 0 0), (zi 0 0), (zi 35 0), (.ref 262), (.bool true), (zi 482 0), (.ref 263), .none, .none, .none, .none, (zi 1476 0), (zi 148 0), (zs "/claim/cut.py" 1477)])
def e93 (P : Params) : DictEntry := zk P ".0" 1478 (.ref 261)
def o265 (P : Params) : Obj := zc "frame" (.dict #[(e93 P)] 1)
def o266 : Obj := zc "generator" (.fields #[(zi 0 0), (zs "<genexpr>" 1479), (zs "<genexpr>" 1480)])
def b5 (g : GG) (P : Params) : BT := (.node o7 (.node o127 (L o255) .nil) (L o191))
def b6 (g : GG) (P : Params) : BT := (.node o19 (b5 g P) (.node o95 (L (o159 P)) (L o223)))
def b7 (g : GG) (P : Params) : BT := (.node o111 (L o175) (L o239))
def b8 (g : GG) (P : Params) : BT := (.node o71 (.node o135 (L o8) .nil) (L o199))
def b9 (g : GG) (P : Params) : BT := (.node o39 (b8 g P) (.node o103 (L o167) (L o231)))
def b10 (g : GG) (P : Params) : BT := (.node o8 (L o7) (L o8))
def b11 (g : GG) (P : Params) : BT := (.node o23 (b9 g P) (.node o55 (.node o87 (L o151) (L o215)) (b10 g P)))
def b12 (g : GG) (P : Params) : BT := (.node o7 (.node o7 (L o259) .nil) (L o7))
def b13 (g : GG) (P : Params) : BT := (.node (o35v1 P) (b12 g P) (.node o99 (L o8) (L o227)))
def b14 (g : GG) (P : Params) : BT := (.node o115 (L o7) (L o7))
def b15 (g : GG) (P : Params) : BT := (.node o75 (.node o139 (L (so (g 267))) .nil) (L o7))
def b16 (g : GG) (P : Params) : BT := (.node (o43 P) (b15 g P) (.node o107 (L o171) (L o8)))
def b17 (g : GG) (P : Params) : BT := (.node o123 (L o187) (L o251))
def b18 (g : GG) (P : Params) : BT := (.node o27 (b16 g P) (.node o59 (.node o91 (L o7) (L o219)) (b17 g P)))
def b19 (g : GG) (P : Params) : BT := (.node (o11v1 P) (.node o19 (b13 g P) (.node o51 (.node o83 (L o147) (L o211)) (b14 g P))) (b18 g P))
def b20 (g : GG) (P : Params) : BT := (.node o65 (.node o8 (L o257) .nil) (L o193))
def b21 (g : GG) (P : Params) : BT := (.node o33 (b20 g P) (.node (o97 P) (L o6) (L o225)))
def b22 (g : GG) (P : Params) : BT := (.node o113 (L o8) (L (o241 P)))
def b23 (g : GG) (P : Params) : BT := (.node o105 (L o7) (L o213))
def b24 (g : GG) (P : Params) : BT := (.node o7 (L o185) (L o7))
def b25 (g : GG) (P : Params) : BT := (.node o57 (.node o7 (L o8) (L o7)) (b24 g P))
def b26 (g : GG) (P : Params) : BT := (.node o101 (L o7) (L o229))
def b27 (g : GG) (P : Params) : BT := (.node o117 (L o181) (L o6))
def b28 (g : GG) (P : Params) : BT := (.node (o53 P) (.node o85 (L o149) (L o213)) (b27 g P))
def b29 (g : GG) (P : Params) : BT := (.node o6 (L o173) (L o7))
def b30 (g : GG) (P : Params) : BT := (.node o125 (L o189) (L o7))
def b31 (g : GG) (P : Params) : BT := (.node (o61 P) (.node o93 (L o157) (L o7)) (b30 g P))
def b32 (g : GG) (P : Params) : BT := (.node o64v6 (b2 g P) (L o192))
def b33 (g : GG) (P : Params) : BT := (.node (o32 P) (b32 g P) (.node o96 (L o160) (L o7)))
def b34 (g : GG) (P : Params) : BT := (.node o112 (L o7) (L o240))
def b35 (g : GG) (P : Params) : BT := (.node o72 (.node o75 (L o264) .nil) (L o200))
def b36 (g : GG) (P : Params) : BT := (.node o7 (b35 g P) (.node (o104 P) (L o168) (L o232)))
def b37 (g : GG) (P : Params) : BT := (.node o120 (L o8) (L o248))
def b38 (g : GG) (P : Params) : BT := (.node o24 (b36 g P) (.node o56 (.node o88 (L o7) (L o216)) (b37 g P)))
def b39 (g : GG) (P : Params) : BT := (.node o8 (.node o132 (L o260) .nil) (L o19))
def b40 (g : GG) (P : Params) : BT := (.node o36 (b39 g P) (.node o100 (L o164) (L (o228 P))))
def b41 (g : GG) (P : Params) : BT := (.node o116 (L o180) (L o244))
def b42 (g : GG) (P : Params) : BT := (.node (o20 P) (b40 g P) (.node o19 (.node o7 (L o7) (L o212)) (b41 g P)))
def b43 (g : GG) (P : Params) : BT := (.node o108 (L o7) (L o7))
def b44 (g : GG) (P : Params) : BT := (.node o124 (L o188) (L o252))
def b45 (g : GG) (P : Params) : BT := (.node o19 (.node o7 (L o156) (L o220)) (b44 g P))
def b46 (g : GG) (P : Params) : BT := (.node o66 (.node o130 (L o258) .nil) (L o194))
def b47 (g : GG) (P : Params) : BT := (.node o34 (b46 g P) (.node o98 (L o7) (L o226)))
def b48 (g : GG) (P : Params) : BT := (.node o6 (L o178) (L (o242 P)))
def b49 (g : GG) (P : Params) : BT := (.node o7 (.node o7 (L o266) .nil) (L o202))
def b50 (g : GG) (P : Params) : BT := (.node o42 (b49 g P) (.node o106 (L o8) (L o234)))
def b51 (g : GG) (P : Params) : BT := (.node o122 (L o7) (L o250))
def b52 (g : GG) (P : Params) : BT := (.node o26 (b50 g P) (.node (o58v1 P) (.node o8 (L o154) (L o218)) (b51 g P)))
def b53 (g : GG) (P : Params) : BT := (.node o10 (.node o18 (b47 g P) (.node o50 (.node o8 (L o8) (L (o210 P))) (b48 g P))) (b52 g P))
def b54 (g : GG) (P : Params) : BT := (.node o7 (.node o134 (L o7) .nil) (L o198))
def b55 (g : GG) (P : Params) : BT := (.node (o38 P) (b54 g P) (.node o102 (L o166) (L o230)))
def b56 (g : GG) (P : Params) : BT := (.node o7 (L o182) (L o7))
def b57 (g : GG) (P : Params) : BT := (.node o22 (b55 g P) (.node o54 (.node o86 (L o150) (L o214)) (b56 g P)))
def b58 (g : GG) (P : Params) : BT := (.node o110 (L o174) (L o238))
def b59 (g : GG) (P : Params) : BT := (.node o126 (L o190) (L o8))
def b60 (g : GG) (P : Params) : BT := (.node o62 (.node o94 (L o158) (L o8)) (b59 g P))
def T20L0 (g : GG) (P : Params) : BT := (.node (o0 P) (.node (o1 P) (.node (o3v5 P) (.node o7 (.node o7 (b6 g P) (.node o47 (.node o79 (L o143) (L o207)) (b7 g P))) (b11 g P)) (b19 g P)) (.node o5 (.node o9 (.node o17 (b21 g P) (.node o49 (.node o7 (L o7) (L o209)) (b22 g P))) (.node o25 (.node o41 (.node o73 (.node (o137 P) (L (o265 P)) .nil) (L o201)) (b23 g P)) (b25 g P))) (.node (o13 P) (.node (o21 P) (.node (o37 P) (.node o69 (.node o133 (L o261) .nil) (L (o197 P))) (b26 g P)) (b28 g P)) (.node (o29v1 P) (.node o45 (.node o7 (L o141) (L o205)) (b29 g P)) (b31 g P))))) (.node (o2 P) (.node o4 (.node o8 (.node o16 (b33 g P) (.node (o48 P) (.node o80 (L o6) (L o208)) (b34 g P))) (b38 g P)) (.node o12 (b42 g P) (.node o28 (.node o44 (.node (o76 P) (L o140) (L o204)) (b43 g P)) (b45 g P)))) (.node o6 (b53 g P) (.node o14 (b57 g P) (.node o30 (.node o46 (.node o78 (L o7) (L o206)) (b58 g P)) (b60 g P))))))
def o261v1 : Obj := zc "range_iterator" (.fields #[(zi 32 0), (zi 0 0), (zi 1 0)])
def o265v1 (P : Params) : Obj := zc "frame" (.dict #[(e93 P), (zk P "i" 1482 (zi 31 1605))] 2)
def o269 : Obj := zc "StopIteration" (.fields #[(.ref 268), .none, .none, .none, (.bool false), .none])
def o271 : Obj := zc "StopIteration" (.fields #[(.ref 270), .none, .none, .none, (.bool false), .none])
def o273 : Obj := zc "str_ascii_iterator" (.fields #[(zs "\x7f" 1610), (zi 0 0)])
def b61 (g : GG) (P : Params) : BT := (.node o47 (.node o79 (.node o143 (L o271) .nil) (L o207)) (b7 g P))
def b62 (g : GG) (P : Params) : BT := (.node o7 (b6 g P) (b61 g P))
def b63 (g : GG) (P : Params) : BT := (.node o7 (b62 g P) (b11 g P))
def b64 (g : GG) (P : Params) : BT := (.node o73 (.node (o137 P) (L (o265v1 P)) .nil) (L o201))
def b65 (g : GG) (P : Params) : BT := (.node o41 (b64 g P) (b23 g P))
def b66 (g : GG) (P : Params) : BT := (.node o25 (b65 g P) (b25 g P))
def b67 (g : GG) (P : Params) : BT := (.node o69 (.node o133 (L o261v1) .nil) (L (o197 P)))
def b68 (g : GG) (P : Params) : BT := (.node (o37 P) (b67 g P) (b26 g P))
def b69 (g : GG) (P : Params) : BT := (.node o7 (.node o141 (L o269) .nil) (L o205))
def b70 (g : GG) (P : Params) : BT := (.node o45 (b69 g P) (b29 g P))
def b71 (g : GG) (P : Params) : BT := (.node (o29v1 P) (b70 g P) (b31 g P))
def b72 (g : GG) (P : Params) : BT := (.node (o48 P) (.node o80 (.node o6 (L (so (g 272))) .nil) (L o208)) (b34 g P))
def b73 (g : GG) (P : Params) : BT := (.node o16 (b33 g P) (b72 g P))
def b74 (g : GG) (P : Params) : BT := (.node o8 (b73 g P) (b38 g P))
def b75 (g : GG) (P : Params) : BT := (.node (o76 P) (.node o140 (L o7) .nil) (L o204))
def b76 (g : GG) (P : Params) : BT := (.node o44 (b75 g P) (b43 g P))
def b77 (g : GG) (P : Params) : BT := (.node o28 (b76 g P) (b45 g P))
def b78 (g : GG) (P : Params) : BT := (.node o46 (.node o78 (b2 g P) (L o206)) (b58 g P))
def b79 (g : GG) (P : Params) : BT := (.node o30 (b78 g P) (b60 g P))
def T20L1 (g : GG) (P : Params) : BT := (.node (o0 P) (.node (o1 P) (.node (o3v5 P) (b63 g P) (b19 g P)) (.node o5 (.node o9 (.node o17 (b21 g P) (.node o49 (.node o7 (.node o7 (L o273) .nil) (L o209)) (b22 g P))) (b66 g P)) (.node (o13 P) (.node (o21 P) (b68 g P) (b28 g P)) (b71 g P)))) (.node (o2 P) (.node o4 (b74 g P) (.node o12 (b42 g P) (b77 g P))) (.node o6 (b53 g P) (.node o14 (b57 g P) (b79 g P)))))
def o273v1 : Obj := zc "str_ascii_iterator" (.fields #[.none, (zi 1 0)])
def o275 : Obj := zc "StopIteration" (.fields #[(.ref 274), .none, .none, .none, (.bool false), .none])
def T20B (g : GG) (P : Params) : BT := up (T20L1 g P) [(273, o273v1), (274, o7), (275, o275)]
def T20O (g : GG) (P : Params) : BT := up (T20L1 g P) [(273, o273v1), (274, o7), (275, o275), (276, so (g 276))]
def e94 (P : Params) : DictEntry := zk P "ASCII_CTRL" 1613 (.ref 276)
def o3v6 (P : Params) : Obj := zc "dict" (.dict #[(e89 P), (e0 P), (e1 P), (e2 P), (e3 P), (e4 P), (e5 P), (e6 P), (e7 P), (e8 P), (e9 P), (e10 P), (e11 P), (e12 P), (e13 P), (e14 P), (e15 P), (e51 P), (e52 P), (e53 P), (e62 P), (e63 P), (e64 P), (e65 P), (e66 P), (e67 P), (e68 P), (e86 P), (e87 P), (e88 P), (e90 P), (e91 P), (e92 P), (e94 P)] 34)
def T21 (g : GG) (P : Params) : BT := up (T20L1 g P) [(3, o3v6 P), (273, o273v1), (274, o7), (275, o275), (276, so (g 276))]
def S21 (g : Nat → SC) (w : World) (os : OsState) : SharedT := mk (T21 g w.params) 277 1614 #[.finished] os
noncomputable def ri20 (i : Nat) : Obj := ⟨.type "range_iterator", none, .fields #[.int (Int.ofNat i) 0, .int (Int.ofNat (32 - i)) 0, .int 1 0], #[]⟩
noncomputable def fr20 (P : Params) : Nat → Obj
  | 0 => o265 P
  | i + 1 => ⟨.type "frame", none, .dict #[(zk P ".0" 1478 (.ref 261)), (zk P "i" 1482 (.int (Int.ofNat i) (1481 + 4 * i)))] 2, #[]⟩
noncomputable def cs20_0 (i : Nat) : Nat × Tok := (i, 1483 + 4 * i)
noncomputable def ra20 (g : Nat → SC) (p : Program) (b rest : List Stmt) (os : OsState) (w : World) := goQ p w 86 (S20 g w os) (restQ (st 24 :: rest) env0 (.body b env0) ⟨147, 0, 147, 13⟩)
noncomputable def LSg (g : Nat → SC) (w : World) (os : OsState) (G : Array GenState) (i : Nat) (o : SC) : SharedT := mk ((((T20L0 g w.params).set 267 fun _ => so o).set 261 fun _ => ri20 i).set 265 fun _ => fr20 w.params i) 268 (1481 + 4 * i) G os
noncomputable def dumF : Frame := .ret (fun _ => .pure (.done .next)) none false [] (.body [] env0) ⟨0, 0, 0, 0⟩ []
noncomputable abbrev wu (u v : Bool) (w : World) : World := (w.withFollow "comprehension-iter-twice" u).withFollow "special-get-raises" v
noncomputable def gA20 (g : Nat → SC) (p : Program) (b rest : List Stmt) (os : OsState) (w : World) : Array GenState := gensOf (ra20 g p b rest os w)
noncomputable def gB20 (u v : Bool) (g : Nat → SC) (p : Program) (b rest : List Stmt) (os : OsState) (w : World) : Array GenState := gensOf (goQ p (wu u v w) (match u with | true => 53 | false => 63) (LSg g (wu u v w) os (gA20 g p b rest os (wu u v w)) 0 (g 0)) ⟨DEN (lcode 267 266), lcode 267 266, ⟨0, 0, 0, 0⟩, [dumF]⟩)
noncomputable def gG20 (u v : Bool) (g : Nat → SC) (p : Program) (b rest : List Stmt) (os : OsState) (w : World) : Nat → Array GenState
  | 0 => gA20 g p b rest os (wu u v w)
  | _ + 1 => gB20 u v g p b rest os w
theorem ha20 (u v : Bool) (g : Nat → SC) (p : Program) (b rest : List Stmt) (os : OsState) (w : World) : goQ p (wu u v w) 86 (S20 g (wu u v w) os) (restQ (st 24 :: rest) env0 (.body b env0) ⟨147, 0, 147, 13⟩) = some (LSg g (wu u v w) os (gA20 g p b rest os (wu u v w)) 0 ⟨#[], 0, SetTable.fresh 0 0 (!(w.params.followText "set-order"))⟩,
    ⟨DEN (lcode 267 266), lcode 267 266, ⟨148, 13, 148, 51⟩, stackOf (ra20 g p b rest os (wu u v w))⟩) := by
  cases u <;> cases v <;> kernel_rfl
theorem hk20 (u v : Bool) (g : Nat → SC) (p : Program) (b rest : List Stmt) (os : OsState) (w : World) : stackOf (ra20 g p b rest os (wu u v w)) = [fB "frozenset.__new__" ⟨[.type "frozenset", .ref 266], []⟩ (nthF (stackOf (ra20 g p b rest os (wu u v w))) 0), fB "type.__call__" ⟨[.type "frozenset", .ref 266], []⟩ (nthF (stackOf (ra20 g p b rest os (wu u v w))) 1), fC (.body b env0) (nthF (stackOf (ra20 g p b rest os (wu u v w))) 2), fB "claim.caller" {} (nthF (stackOf (ra20 g p b rest os (wu u v w))) 3)] := by
  cases u <;> cases v <;> kernel_rfl
noncomputable def TL20 (u v : Bool) (g : Nat → SC) (p : Program) (b rest : List Stmt) (os : OsState) (w : World) (sadd : Addr → Value → Int → Sem Bool) (o : SC) (pos : Pos) (x1 x2 x3 x4 : FV) (i : Nat)  := goQ p (wu u v w) (match i, u with | 0, true => 53 | 0, false => 63 | _ + 1, _ => 52) (LSg g (wu u v w) os (gG20 u v g p b rest os w i) i o) ⟨loopW sadd 267 266, lcode 267 266, pos, [fB "frozenset.__new__" ⟨[.type "frozenset", .ref 266], []⟩ x1, fB "type.__call__" ⟨[.type "frozenset", .ref 266], []⟩ x2, fC (.body b env0) x3, fB "claim.caller" {} x4]⟩
noncomputable def TR20 (u v : Bool) (g : Nat → SC) (p : Program) (b rest : List Stmt) (os : OsState) (w : World) (sadd : Addr → Value → Int → Sem Bool) (o : SC) (pos : Pos) (x1 x2 x3 x4 : FV) (i : Nat)  : Option (SharedT × Thread) := some (LSg g (wu u v w) os (gG20 u v g p b rest os w (i + 1)) (i + 1) o,
      ⟨(sadd 267 (.str ⟨#[(cs20_0 i).1]⟩ (cs20_0 i).2) (PyData.keyHash (wu u v w).params ⟨#[(cs20_0 i).1]⟩)).bind fun _ => .pure (.again (lcode 267 266)), lcode 267 266, pos, [fB "frozenset.__new__" ⟨[.type "frozenset", .ref 266], []⟩ x1, fB "type.__call__" ⟨[.type "frozenset", .ref 266], []⟩ x2, fC (.body b env0) x3, fB "claim.caller" {} x4]⟩)
noncomputable def TU20 (u v : Bool) (g : Nat → SC) (p : Program) (b rest : List Stmt) (os : OsState) (w : World) (sadd : Addr → Value → Int → Sem Bool) (o : SC) (pos : Pos) (x1 x2 x3 x4 : FV) (i : Nat)  : Prop := TL20 u v g p b rest os w sadd o pos x1 x2 x3 x4 i = TR20 u v g p b rest os w sadd o pos x1 x2 x3 x4 i
theorem tu20 (u v : Bool) (g : Nat → SC) (p : Program) (b rest : List Stmt) (os : OsState) (w : World) (sadd : Addr → Value → Int → Sem Bool) (o : SC) (pos : Pos) (x1 x2 x3 x4 : FV) : ∀ i, i < 32 → TU20 u v g p b rest os w sadd o pos x1 x2 x3 x4 i := by
  have key : ∀ i, TU20 true true g p b rest os w sadd o pos x1 x2 x3 x4 i → TU20 true false g p b rest os w sadd o pos x1 x2 x3 x4 i → TU20 false true g p b rest os w sadd o pos x1 x2 x3 x4 i → TU20 false false g p b rest os w sadd o pos x1 x2 x3 x4 i → TU20 u v g p b rest os w sadd o pos x1 x2 x3 x4 i := fun i a b c d => by cases u <;> cases v <;> assumption
  iterate 32 refine ls_split ?_ (key _ ?_ ?_ ?_ ?_)
  exact fun i h => absurd h (Nat.not_lt_zero i)
  all_goals (delta TU20; kernel_rfl)
theorem lp20 (u v : Bool) (g : Nat → SC) (p : Program) (b rest : List Stmt) (os : OsState) (w : World) (pos : Pos) (x1 x2 x3 x4 : FV) (led : Bool) : ∃ o pos', SOk (wu u v w) o.es o.t (((List.range 32).map cs20_0).reverse) ∧
    RT p (wu u v w) (LSg g (wu u v w) os (gG20 u v g p b rest os w 0) 0 ⟨#[], 0, SetTable.fresh 0 0 led⟩) ⟨DEN (lcode 267 266), lcode 267 266, pos, [fB "frozenset.__new__" ⟨[.type "frozenset", .ref 266], []⟩ x1, fB "type.__call__" ⟨[.type "frozenset", .ref 266], []⟩ x2, fC (.body b env0) x3, fB "claim.caller" {} x4]⟩ (LSg g (wu u v w) os (gG20 u v g p b rest os w 32) 32 o) ⟨DEN (lcode 267 266), lcode 267 266, pos', [fB "frozenset.__new__" ⟨[.type "frozenset", .ref 266], []⟩ x1, fB "type.__call__" ⟨[.type "frozenset", .ref 266], []⟩ x2, fC (.body b env0) x3, fB "claim.caller" {} x4]⟩ := by
  have hT : (T20L0 g (wu u v w).params).get 267 = some (so (g 267)) := by kernel_rfl
  exact loop_fill (p := p) (w := wu u v w) (a := 267) (it := 266) (N := 32) _ _ cs20_0 (fun i o => LSg g (wu u v w) os (gG20 u v g p b rest os w i) i o) (by decide) (by decide)
    (fun i hi sadd o pos => RT.ofQ (tu20 u v g p b rest os w sadd o pos x1 x2 x3 x4 i hi))
    (fun i o => by show BT.get (BT.set (BT.set (BT.set _ _ _) _ _) _ _) _ = _; rw [BT.get_set, if_neg (by decide), BT.get_set, if_neg (by decide), BT.get_set, if_pos rfl, hT]; rfl)
    (fun i o => by show 267 < 268; decide)
    (fun i o o' => by unfold LSg; rw [mk_put, bt_comm _ (show 265 ≠ 267 by decide), bt_comm _ (show 261 ≠ 267 by decide), bt_set_set])
    (nd_of (by decide +kernel)) 32 0 (by decide) ⟨#[], 0, SetTable.fresh 0 0 led⟩ pos (SOk.nil _ _ _ _)
noncomputable def it20_1 (i : Nat) : Obj := ⟨.type "str_ascii_iterator", none, .fields #[(.str (Str.mk #[127]) 1610), .int (Int.ofNat i) 0], #[]⟩
noncomputable def cs20_1 (i : Nat) : Nat × Tok := ([127].getD i 0, 1611 + 2 * i)
noncomputable def LS20_1 (g : Nat → SC) (w : World) (os : OsState) (i : Nat) (o : SC) : SharedT := mk (((T20L1 g w.params).set 272 fun _ => so o).set 273 fun _ => it20_1 i) 274 (1611 + 2 * i) #[.finished] os
noncomputable def TL20_1 (g : Nat → SC) (w : World) (p : Program) (os : OsState) (sadd : Addr → Value → Int → Sem Bool) (o : SC) (pos : Pos) (F : Frame) (fs : List Frame) (i : Nat)  := goQ p w 17 (LS20_1 g w os i o) ⟨loopW sadd 272 273, lcode 272 273, pos, F :: fs⟩
noncomputable def TR20_1 (g : Nat → SC) (w : World) (p : Program) (os : OsState) (sadd : Addr → Value → Int → Sem Bool) (o : SC) (pos : Pos) (F : Frame) (fs : List Frame) (i : Nat)  : Option (SharedT × Thread) := some (LS20_1 g w os (i + 1) o,
      ⟨(sadd 272 (.str ⟨#[(cs20_1 i).1]⟩ (cs20_1 i).2) (PyData.keyHash w.params ⟨#[(cs20_1 i).1]⟩)).bind fun _ => .pure (.again (lcode 272 273)), lcode 272 273, pos, F :: fs⟩)
noncomputable def TU20_1 (g : Nat → SC) (w : World) (p : Program) (os : OsState) (sadd : Addr → Value → Int → Sem Bool) (o : SC) (pos : Pos) (F : Frame) (fs : List Frame) (i : Nat)  : Prop := TL20_1 g w p os sadd o pos F fs i = TR20_1 g w p os sadd o pos F fs i
theorem tu20_1 (v : Bool) (g : Nat → SC) (w : World) (p : Program) (os : OsState) (sadd : Addr → Value → Int → Sem Bool) (o : SC) (pos : Pos) (F : Frame) (fs : List Frame) : ∀ i, i < 1 → TU20_1 g (wv v w) p os sadd o pos F fs i := by
  have key : ∀ i, TU20_1 g (wv true w) p os sadd o pos F fs i → TU20_1 g (wv false w) p os sadd o pos F fs i → TU20_1 g (wv v w) p os sadd o pos F fs i := fun i a b => by cases v <;> assumption
  iterate 1 refine ls_split ?_ (key _ ?_ ?_)
  exact fun i h => absurd h (Nat.not_lt_zero i)
  all_goals (delta TU20_1; kernel_rfl)
theorem lp20_1 (v : Bool) (g : Nat → SC) (w : World) (p : Program) (os : OsState) (pos : Pos) (F : Frame) (fs : List Frame) (led : Bool) : ∃ o pos', SOk (wv v w) o.es o.t (((List.range 1).map cs20_1).reverse) ∧
    RT p (wv v w) (LS20_1 g (wv v w) os 0 ⟨#[], 0, SetTable.fresh 0 0 led⟩) ⟨DEN (lcode 272 273), lcode 272 273, pos, F :: fs⟩ (LS20_1 g (wv v w) os 1 o) ⟨DEN (lcode 272 273), lcode 272 273, pos', F :: fs⟩ := by
  have hT : (T20L1 g (wv v w).params).get 272 = some (so (g 272)) := by kernel_rfl
  exact loop_fill (p := p) (w := wv v w) (a := 272) (it := 273) (N := 1) F fs cs20_1 (LS20_1 g (wv v w) os) (by decide) (by decide)
    (fun i hi sadd o pos => RT.ofQ (tu20_1 v g w p os sadd o pos F fs i hi))
    (fun i o => by show BT.get (BT.set (BT.set _ _ _) _ _) _ = _; rw [BT.get_set, if_neg (by decide), BT.get_set, if_pos rfl, hT]; rfl)
    (fun i o => by show 272 < 274; decide)
    (fun i o o' => by unfold LS20_1; rw [mk_put, bt_comm _ (by decide), bt_set_set])
    (nd_of (by decide +kernel)) 1 0 (by decide) ⟨#[], 0, SetTable.fresh 0 0 led⟩ pos (SOk.nil _ _ _ _)
noncomputable def rb20 (u v : Bool) (g : Nat → SC) (p : Program) (b rest : List Stmt) (os : OsState) (w : World) (o : SC) (pos : Pos) := goQ p (wu u v w) 68 (LSg g (wu u v w) os (gG20 u v g p b rest os w 32) 32 o) ⟨DEN (lcode 267 266), lcode 267 266, pos, stackOf (ra20 g p b rest os (wu u v w))⟩
theorem hb20 (u v : Bool) (g : Nat → SC) (p : Program) (b rest : List Stmt) (os : OsState) (w : World) (o : SC) (pos : Pos) : goQ p (wu u v w) 68 (LSg g (wu u v w) os (gG20 u v g p b rest os w 32) 32 o) ⟨DEN (lcode 267 266), lcode 267 266, pos, stackOf (ra20 g p b rest os (wu u v w))⟩ =
    some (LS20_1 (upd g 267 o) (wu u v w) os 0 ⟨#[], 0, SetTable.fresh 0 0 (!(w.params.followText "set-order"))⟩, ⟨DEN (lcode 272 273), lcode 272 273, ⟨148, 54, 148, 73⟩, stackOf (rb20 u v g p b rest os w o pos)⟩) := by
  cases u <;> cases v <;> kernel_rfl
theorem hkb20 (u v : Bool) (g : Nat → SC) (p : Program) (b rest : List Stmt) (os : OsState) (w : World) (o : SC) (pos : Pos) : (stackOf (rb20 u v g p b rest os w o pos)).isEmpty = false := by
  cases u <;> cases v <;> kernel_rfl
noncomputable def rc20 (u v : Bool) (g : Nat → SC) (p : Program) (b rest : List Stmt) (os : OsState) (w : World) (o o1 : SC) (pos pos1 : Pos) := goQ p (wu u v w) 33 (LS20_1 (upd g 267 o) (wu u v w) os 1 o1) ⟨DEN (lcode 272 273), lcode 272 273, pos1, stackOf (rb20 u v g p b rest os w o pos)⟩
theorem hc20 (u v : Bool) (g : Nat → SC) (p : Program) (b rest : List Stmt) (os : OsState) (w : World) (o o1 : SC) (pos pos1 : Pos) : goQ p (wu u v w) 33 (LS20_1 (upd g 267 o) (wu u v w) os 1 o1) ⟨DEN (lcode 272 273), lcode 272 273, pos1, stackOf (rb20 u v g p b rest os w o pos)⟩ = some (mk (T20B (upd (upd g 267 o) 272 o1) (wu u v w).params) 276 1613 #[.finished] os, ⟨DEN (.builtin "frozenset.__or__" ⟨[.ref 267, .ref 272], []⟩), (.builtin "frozenset.__or__" ⟨[.ref 267, .ref 272], []⟩), ⟨148, 13, 148, 73⟩, stackOf (rc20 u v g p b rest os w o o1 pos pos1)⟩) := by
  cases u <;> cases v <;> kernel_rfl
theorem hkc20 (u v : Bool) (g : Nat → SC) (p : Program) (b rest : List Stmt) (os : OsState) (w : World) (o o1 : SC) (pos pos1 : Pos) : (stackOf (rc20 u v g p b rest os w o o1 pos pos1)).isEmpty = false := by
  cases u <;> cases v <;> kernel_rfl
theorem hd20 (u v : Bool) (g : Nat → SC) (p : Program) (b rest : List Stmt) (os : OsState) (w : World) (o o1 o2 : SC) (pos pos1 pos2 : Pos) : goQ p (wu u v w) 9 (mk (T20O (upd (upd (upd g 267 o) 272 o1) 276 o2) (wu u v w).params) 277 1613 #[.finished] os) ⟨.pure (.done (.ret (.ref 276))), (.builtin "frozenset.__or__" ⟨[.ref 267, .ref 272], []⟩), pos2, stackOf (rc20 u v g p b rest os w o o1 pos pos1)⟩ =
    some (S21 (upd (upd (upd g 267 o) 272 o1) 276 o2) (wu u v w) os, restQ rest env0 (.body b env0) ⟨148, 0, 148, 10⟩) := by
  cases u <;> cases v <;> kernel_rfl
theorem no20 (g : Nat → SC) (P : Params) (o1 : Obj) (o2 : SC) (os : OsState) : put (grow (mk (T20B g P) 276 1613 #[.finished] os) o1) 276 (so o2) = mk (T20O (upd g 276 o2) P) 277 1613 #[.finished] os := by kernel_rfl
theorem hi20 (g : Nat → SC) (P : Params) (o : Obj) : (((T20B g P).ins 276 o).get 276).isSome = true := by kernel_rfl
theorem sm20 (g : Nat → SC) (p : Program) (b rest : List Stmt) (os : OsState) (w : World) : ∃ o o1 o2, SOk w o.es o.t (((List.range 32).map cs20_0).reverse) ∧ SOk w o1.es o1.t (((List.range 1).map cs20_1).reverse) ∧ SOk w o2.es o2.t ((127, 1611) :: ((List.range 32).map cs20_0).reverse) ∧
    RT p w (S20 g w os) (restQ (st 24 :: rest) env0 (.body b env0) ⟨147, 0, 147, 13⟩) (S21 (upd (upd (upd g 267 o) 272 o1) 276 o2) w os) (restQ rest env0 (.body b env0) ⟨148, 0, 148, 10⟩) := by
  revert w
  refine byRowG "special-get-raises" fun v => ?_
  refine byRowG "comprehension-iter-twice" fun u w => ?_
  have h1 := RT.ofQ (ha20 u v g p b rest os w)
  have hk := hk20 u v g p b rest os w
  rw [hk] at h1
  obtain ⟨o, pos', ok1, h2⟩ := lp20 u v g p b rest os w ⟨148, 13, 148, 51⟩ _ _ _ _ (!(w.params.followText "set-order"))
  have h3 := RT.ofQ (hb20 u v g p b rest os w o pos')
  rw [hk] at h3
  obtain ⟨F2, fs2, hk2⟩ := cons_of (hkb20 u v g p b rest os w o pos')
  rw [hk2] at h3
  obtain ⟨o1, pos1, ok2, h4⟩ := lp20_1 v (upd g 267 o) (w.withFollow "comprehension-iter-twice" u) p os ⟨148, 54, 148, 73⟩ F2 fs2 (!(w.params.followText "set-order"))
  have h5 := RT.ofQ (hc20 u v g p b rest os w o o1 pos' pos1)
  rw [hk2] at h5
  obtain ⟨F3, fs3, hk3⟩ := cons_of (hkc20 u v g p b rest os w o o1 pos' pos1)
  rw [hk3, den_or] at h5
  obtain ⟨r, S', pos2, ⟨o2, rfl, rfl, ok3⟩, h6⟩ := op_run (p := p) (w := wu u v w) (c := .builtin "frozenset.__or__" ⟨[.ref 267, .ref 272], []⟩) (pos := ⟨148, 13, 148, 73⟩) (F := F3) (st := fs3) (Q := fun r S' => ∃ o2 : SC, r = .done (.ret (.ref 276)) ∧ S' = mk (T20O (upd (upd (upd g 267 o) 272 o1) 276 o2) (wu u v w).params) 277 1613 #[.finished] os ∧ SOk (wu u v w) o2.es o2.t ((127, 1611) :: ((List.range 32).map cs20_0).reverse))
    (S := mk (T20B (upd (upd g 267 o) 272 o1) (wu u v w).params) 276 1613 #[.finished] os) (GoS.of (sv_or (ep := o.ep) (ep2 := o1.ep) (M := 127) (c := 127) (tk := 1611) covers127 (.inr (by decide +kernel)) (by decide +kernel) (fun o => hi20 _ _ o) (by show 63 ≤ 276; decide) (by show 267 < 276; decide) (by show 272 < 276; decide) (by decide) (by kernel_rfl) (by kernel_rfl) ok1 ok2 (by decide +kernel) (by decide +kernel) (by decide +kernel) (by decide +kernel)
      fun b1 es' ep' t' ok3 => ⟨⟨es', ep', t'⟩, rfl, no20 (upd (upd g 267 o) 272 o1) _ b1 ⟨es', ep', t'⟩ os, ok3⟩))
  have h7 := RT.ofQ (hd20 u v g p b rest os w o o1 o2 pos' pos1 pos2)
  rw [hk3] at h7
  exact ⟨o, o1, o2, ok1, ok2, ok3, h1.trans (h2.trans (h3.trans (h4.trans (h5.trans (h6.trans h7)))))⟩
def o278 : Obj := zc "str_ascii_iterator" (.fields #[(zs "\x09" 1614), (zi 0 0)])
def b80 (g : GG) (P : Params) : BT := (.node o51 (.node o83 (.node o147 (L o275) .nil) (L o211)) (b14 g P))
def b81 (g : GG) (P : Params) : BT := (.node o19 (b13 g P) (b80 g P))
def b82 (g : GG) (P : Params) : BT := (.node o49 (.node o7 (.node o7 (L o273v1) .nil) (L o209)) (b22 g P))
def b83 (g : GG) (P : Params) : BT := (.node o17 (b21 g P) (b82 g P))
def b84 (g : GG) (P : Params) : BT := (.node (o53 P) (.node o85 (.node o149 (L (so (g 277))) .nil) (L o213)) (b27 g P))
def b85 (g : GG) (P : Params) : BT := (.node (o21 P) (b68 g P) (b84 g P))
def b86 (g : GG) (P : Params) : BT := (.node (o13 P) (b85 g P) (b71 g P))
def b87 (g : GG) (P : Params) : BT := (.node o19 (.node o7 (.node o7 (L (so (g 276))) .nil) (L o212)) (b41 g P))
def b88 (g : GG) (P : Params) : BT := (.node (o20 P) (b40 g P) (b87 g P))
def b89 (g : GG) (P : Params) : BT := (.node o12 (b88 g P) (b77 g P))
def b90 (g : GG) (P : Params) : BT := (.node o50 (.node o8 (b0 g P) (L (o210 P))) (b48 g P))
def b91 (g : GG) (P : Params) : BT := (.node o18 (b47 g P) (b90 g P))
def T21L0 (g : GG) (P : Params) : BT := (.node (o0 P) (.node (o1 P) (.node (o3v6 P) (b63 g P) (.node (o11v1 P) (b81 g P) (b18 g P))) (.node o5 (.node o9 (b83 g P) (b66 g P)) (b86 g P))) (.node (o2 P) (.node o4 (b74 g P) (b89 g P)) (.node o6 (.node o10 (b91 g P) (b52 g P)) (.node o14 (.node o22 (b55 g P) (.node o54 (.node o86 (.node o150 (L o278) .nil) (L o214)) (b56 g P))) (b79 g P)))))
def o280 : Obj := zc "StopIteration" (.fields #[(.ref 279), .none, .none, .none, (.bool false), .none])
def T21B (g : GG) (P : Params) : BT := up (T21L0 g P) [(278, o273v1), (279, o7), (280, o280)]
def T21O (g : GG) (P : Params) : BT := up (T21L0 g P) [(278, o273v1), (279, o7), (280, o280), (281, so (g 281))]
def e95 (P : Params) : DictEntry := zk P "ILLEGAL_BASIC_STR_CHARS" 1617 (.ref 281)
def o3v7 (P : Params) : Obj := zc "dict" (.dict #[(e89 P), (e0 P), (e1 P), (e2 P), (e3 P), (e4 P), (e5 P), (e6 P), (e7 P), (e8 P), (e9 P), (e10 P), (e11 P), (e12 P), (e13 P), (e14 P), (e15 P), (e51 P), (e52 P), (e53 P), (e62 P), (e63 P), (e64 P), (e65 P), (e66 P), (e67 P), (e68 P), (e86 P), (e87 P), (e88 P), (e90 P), (e91 P), (e92 P), (e94 P), (e95 P)] 35)
def T22 (g : GG) (P : Params) : BT := up (T21L0 g P) [(3, o3v7 P), (278, o273v1), (279, o7), (280, o280), (281, so (g 281))]
def S22 (g : Nat → SC) (w : World) (os : OsState) : SharedT := mk (T22 g w.params) 282 1618 #[.finished] os
noncomputable def it21_0 (i : Nat) : Obj := ⟨.type "str_ascii_iterator", none, .fields #[(.str (Str.mk #[9]) 1614), .int (Int.ofNat i) 0], #[]⟩
noncomputable def cs21_0 (i : Nat) : Nat × Tok := ([9].getD i 0, 1615 + 2 * i)
noncomputable def LS21_0 (g : Nat → SC) (w : World) (os : OsState) (i : Nat) (o : SC) : SharedT := mk (((T21L0 g w.params).set 277 fun _ => so o).set 278 fun _ => it21_0 i) 279 (1615 + 2 * i) #[.finished] os
noncomputable def TL21_0 (g : Nat → SC) (w : World) (p : Program) (os : OsState) (sadd : Addr → Value → Int → Sem Bool) (o : SC) (pos : Pos) (F : Frame) (fs : List Frame) (i : Nat)  := goQ p w 17 (LS21_0 g w os i o) ⟨loopW sadd 277 278, lcode 277 278, pos, F :: fs⟩
noncomputable def TR21_0 (g : Nat → SC) (w : World) (p : Program) (os : OsState) (sadd : Addr → Value → Int → Sem Bool) (o : SC) (pos : Pos) (F : Frame) (fs : List Frame) (i : Nat)  : Option (SharedT × Thread) := some (LS21_0 g w os (i + 1) o,
      ⟨(sadd 277 (.str ⟨#[(cs21_0 i).1]⟩ (cs21_0 i).2) (PyData.keyHash w.params ⟨#[(cs21_0 i).1]⟩)).bind fun _ => .pure (.again (lcode 277 278)), lcode 277 278, pos, F :: fs⟩)
noncomputable def TU21_0 (g : Nat → SC) (w : World) (p : Program) (os : OsState) (sadd : Addr → Value → Int → Sem Bool) (o : SC) (pos : Pos) (F : Frame) (fs : List Frame) (i : Nat)  : Prop := TL21_0 g w p os sadd o pos F fs i = TR21_0 g w p os sadd o pos F fs i
theorem tu21_0 (v : Bool) (g : Nat → SC) (w : World) (p : Program) (os : OsState) (sadd : Addr → Value → Int → Sem Bool) (o : SC) (pos : Pos) (F : Frame) (fs : List Frame) : ∀ i, i < 1 → TU21_0 g (wv v w) p os sadd o pos F fs i := by
  have key : ∀ i, TU21_0 g (wv true w) p os sadd o pos F fs i → TU21_0 g (wv false w) p os sadd o pos F fs i → TU21_0 g (wv v w) p os sadd o pos F fs i := fun i a b => by cases v <;> assumption
  iterate 1 refine ls_split ?_ (key _ ?_ ?_)
  exact fun i h => absurd h (Nat.not_lt_zero i)
  all_goals (delta TU21_0; kernel_rfl)
theorem lp21_0 (v : Bool) (g : Nat → SC) (w : World) (p : Program) (os : OsState) (pos : Pos) (F : Frame) (fs : List Frame) (led : Bool) : ∃ o pos', SOk (wv v w) o.es o.t (((List.range 1).map cs21_0).reverse) ∧
    RT p (wv v w) (LS21_0 g (wv v w) os 0 ⟨#[], 0, SetTable.fresh 0 0 led⟩) ⟨DEN (lcode 277 278), lcode 277 278, pos, F :: fs⟩ (LS21_0 g (wv v w) os 1 o) ⟨DEN (lcode 277 278), lcode 277 278, pos', F :: fs⟩ := by
  have hT : (T21L0 g (wv v w).params).get 277 = some (so (g 277)) := by kernel_rfl
  exact loop_fill (p := p) (w := wv v w) (a := 277) (it := 278) (N := 1) F fs cs21_0 (LS21_0 g (wv v w) os) (by decide) (by decide)
    (fun i hi sadd o pos => RT.ofQ (tu21_0 v g w p os sadd o pos F fs i hi))
    (fun i o => by show BT.get (BT.set (BT.set _ _ _) _ _) _ = _; rw [BT.get_set, if_neg (by decide), BT.get_set, if_pos rfl, hT]; rfl)
    (fun i o => by show 277 < 279; decide)
    (fun i o o' => by unfold LS21_0; rw [mk_put, bt_comm _ (by decide), bt_set_set])
    (nd_of (by decide +kernel)) 1 0 (by decide) ⟨#[], 0, SetTable.fresh 0 0 led⟩ pos (SOk.nil _ _ _ _)
noncomputable def ra21 (g : Nat → SC) (p : Program) (b rest : List Stmt) (os : OsState) (w : World) := goQ p w 21 (S21 g w os) (restQ (st 25 :: rest) env0 (.body b env0) ⟨148, 0, 148, 10⟩)
theorem ha21 (v : Bool) (g : Nat → SC) (p : Program) (b rest : List Stmt) (os : OsState) (w : World) : goQ p (wv v w) 21 (S21 g (wv v w) os) (restQ (st 25 :: rest) env0 (.body b env0) ⟨148, 0, 148, 10⟩) = some (LS21_0 g (wv v w) os 0 ⟨#[], 0, SetTable.fresh 0 0 (!(w.params.followText "set-order"))⟩,
    ⟨DEN (lcode 277 278), lcode 277 278, ⟨149, 39, 149, 54⟩, stackOf (ra21 g p b rest os (wv v w))⟩) := by
  cases v <;> kernel_rfl
theorem hk21 (v : Bool) (g : Nat → SC) (p : Program) (b rest : List Stmt) (os : OsState) (w : World) : (stackOf (ra21 g p b rest os (wv v w))).isEmpty = false := by
  cases v <;> kernel_rfl
noncomputable def rb21 (g : Nat → SC) (p : Program) (b rest : List Stmt) (os : OsState) (w : World) (v : Bool) (o : SC) (pos : Pos) := goQ p (wv v w) 33 (LS21_0 g (wv v w) os 1 o) ⟨DEN (lcode 277 278), lcode 277 278, pos, stackOf (ra21 g p b rest os (wv v w))⟩
theorem hb21 (v : Bool) (g : Nat → SC) (p : Program) (b rest : List Stmt) (os : OsState) (w : World) (o : SC) (pos : Pos) : goQ p (wv v w) 33 (LS21_0 g (wv v w) os 1 o) ⟨DEN (lcode 277 278), lcode 277 278, pos, stackOf (ra21 g p b rest os (wv v w))⟩ = some (mk (T21B (upd g 277 o) (wv v w).params) 281 1617 #[.finished] os, ⟨DEN (.builtin "frozenset.__sub__" ⟨[.ref 276, .ref 277], []⟩), (.builtin "frozenset.__sub__" ⟨[.ref 276, .ref 277], []⟩), ⟨149, 26, 149, 54⟩, stackOf (rb21 g p b rest os w v o pos)⟩) := by
  cases v <;> kernel_rfl
theorem hc21 (v : Bool) (g : Nat → SC) (p : Program) (b rest : List Stmt) (os : OsState) (w : World) (o : SC) (pos : Pos) : (stackOf (rb21 g p b rest os w v o pos)).isEmpty = false := by
  cases v <;> kernel_rfl
theorem hd21 (v : Bool) (g : Nat → SC) (p : Program) (b rest : List Stmt) (os : OsState) (w : World) (o o2 : SC) (pos pos2 : Pos) : goQ p (wv v w) 9 (mk (T21O (upd (upd g 277 o) 281 o2) (wv v w).params) 282 1617 #[.finished] os) ⟨.pure (.done (.ret (.ref 281))), (.builtin "frozenset.__sub__" ⟨[.ref 276, .ref 277], []⟩), pos2, stackOf (rb21 g p b rest os w v o pos)⟩ =
    some (S22 (upd (upd g 277 o) 281 o2) (wv v w) os, restQ rest env0 (.body b env0) ⟨149, 0, 149, 23⟩) := by
  cases v <;> kernel_rfl
theorem no21 (g : Nat → SC) (P : Params) (o1 : Obj) (o2 : SC) (os : OsState) : put (grow (mk (T21B g P) 281 1617 #[.finished] os) o1) 281 (so o2) = mk (T21O (upd g 281 o2) P) 282 1617 #[.finished] os := by kernel_rfl
theorem hi21 (g : Nat → SC) (P : Params) (o : Obj) : (((T21B g P).ins 281 o).get 281).isSome = true := by kernel_rfl
theorem sm21 (g : Nat → SC) (p : Program) (b rest : List Stmt) (os : OsState) (w : World) : SOk w (g 276).es (g 276).t ((127, 1611) :: ((List.range 32).map cs20_0).reverse) → ∃ o1 o2, SOk w o1.es o1.t (((List.range 1).map cs21_0).reverse) ∧ SOk w o2.es o2.t (((127, 1611) :: ((List.range 32).map cs20_0).reverse).filter fun x => !(x.1 == 9)) ∧
    RT p w (S21 g w os) (restQ (st 25 :: rest) env0 (.body b env0) ⟨148, 0, 148, 10⟩) (S22 (upd (upd g 277 o1) 281 o2) w os) (restQ rest env0 (.body b env0) ⟨149, 0, 149, 23⟩) := by
  revert w
  refine byRowG "special-get-raises" fun v w h => ?_
  obtain ⟨F, fs, hk⟩ := cons_of (hk21 v g p b rest os w)
  have h1 := RT.ofQ (ha21 v g p b rest os w)
  rw [hk] at h1
  obtain ⟨o1, pos', ok2, h2⟩ := lp21_0 v g w p os ⟨149, 39, 149, 54⟩ F fs (!(w.params.followText "set-order"))
  have h3 := RT.ofQ (hb21 v g p b rest os w o1 pos')
  rw [hk] at h3
  obtain ⟨F2, fs2, hk2⟩ := cons_of (hc21 v g p b rest os w o1 pos')
  rw [hk2, den_sub] at h3
  obtain ⟨a, S', pos2, ⟨o2, rfl, rfl, ok3⟩, h4⟩ := op_run (p := p) (w := wv v w) (c := .builtin "frozenset.__sub__" ⟨[.ref 276, .ref 277], []⟩) (pos := ⟨149, 26, 149, 54⟩) (F := F2) (st := fs2) (Q := fun a S' => ∃ o2 : SC, a = .done (.ret (.ref 281)) ∧ S' = mk (T21O (upd (upd g 277 o1) 281 o2) (wv v w).params) 282 1617 #[.finished] os ∧ SOk (wv v w) o2.es o2.t (((127, 1611) :: ((List.range 32).map cs20_0).reverse).filter fun x => !(x.1 == 9)))
    (S := mk (T21B (upd g 277 o1) (wv v w).params) 281 1617 #[.finished] os) (go_sub (ep := (g 276).ep) (ep2 := o1.ep) (M := 127) (tr := [(9, 1519, 1615)]) (rest := (((127, 1611) :: ((List.range 32).map cs20_0).reverse).filter fun x => !(x.1 == 9))) covers127 (by decide +kernel) (by decide +kernel) (by decide +kernel) (fun o => hi21 _ _ o) (by show 63 ≤ 281; decide) (by show 276 < 281; decide) (by show 277 < 281; decide) (by decide) (by kernel_rfl) (by kernel_rfl) h ok2 (by decide +kernel) (by decide +kernel)
      (by decide +kernel) (by decide +kernel) (by decide +kernel) (by decide +kernel) (fun x hx => by simp only [List.mem_singleton] at hx; subst hx; exact eqOk_a p _) (by decide +kernel)
      fun o es' ep' t' ok3 => ⟨⟨es', ep', t'⟩, rfl, no21 (upd g 277 o1) _ o ⟨es', ep', t'⟩ os, ok3⟩)
  have h5 := RT.ofQ (hd21 v g p b rest os w o1 o2 pos' pos2)
  rw [hk2] at h5
  exact ⟨o1, o2, ok2, ok3, h1.trans (h2.trans (h3.trans (h4.trans h5)))⟩
def o283 : Obj := zc "str_ascii_iterator" (.fields #[(zs "\x09\x0a" 1618), (zi 0 0)])
def b92 (g : GG) (P : Params) : BT := (.node o55 (.node o87 (.node o151 (L o7) .nil) (L o215)) (b10 g P))
def b93 (g : GG) (P : Params) : BT := (.node o23 (b9 g P) (b92 g P))
def b94 (g : GG) (P : Params) : BT := (.node o57 (.node o7 (.node o8 (L (so (g 281))) .nil) (L o7)) (b24 g P))
def b95 (g : GG) (P : Params) : BT := (.node o25 (b65 g P) (b94 g P))
def b96 (g : GG) (P : Params) : BT := (.node o9 (b83 g P) (b95 g P))
def b97 (g : GG) (P : Params) : BT := (.node o56 (.node o88 (.node o7 (L o280) .nil) (L o216)) (b37 g P))
def b98 (g : GG) (P : Params) : BT := (.node o24 (b36 g P) (b97 g P))
def b99 (g : GG) (P : Params) : BT := (.node (o58v1 P) (.node o8 (.node o154 (L (so (g 282))) .nil) (L o218)) (b51 g P))
def b100 (g : GG) (P : Params) : BT := (.node o26 (b50 g P) (b99 g P))
def b101 (g : GG) (P : Params) : BT := (.node o10 (b91 g P) (b100 g P))
def b102 (g : GG) (P : Params) : BT := (.node o54 (.node o86 (.node o150 (L o273v1) .nil) (L o214)) (b56 g P))
def b103 (g : GG) (P : Params) : BT := (.node o22 (b55 g P) (b102 g P))
def T22L0 (g : GG) (P : Params) : BT := (.node (o0 P) (.node (o1 P) (.node (o3v7 P) (.node o7 (b62 g P) (b93 g P)) (.node (o11v1 P) (b81 g P) (.node o27 (b16 g P) (.node o59 (.node o91 (.node o7 (L o283) .nil) (L o219)) (b17 g P))))) (.node o5 (b96 g P) (b86 g P))) (.node (o2 P) (.node o4 (.node o8 (b73 g P) (b98 g P)) (b89 g P)) (.node o6 (b101 g P) (.node o14 (b103 g P) (b79 g P)))))
def o283v1 : Obj := zc "str_ascii_iterator" (.fields #[.none, (zi 2 0)])
def o285 : Obj := zc "StopIteration" (.fields #[(.ref 284), .none, .none, .none, (.bool false), .none])
def T22B (g : GG) (P : Params) : BT := up (T22L0 g P) [(283, o283v1), (284, o7), (285, o285)]
def T22O (g : GG) (P : Params) : BT := up (T22L0 g P) [(283, o283v1), (284, o7), (285, o285), (286, so (g 286))]
def e96 (P : Params) : DictEntry := zk P "ILLEGAL_MULTILINE_BASIC_STR_CHARS" 1623 (.ref 286)
def o3v8 (P : Params) : Obj := zc "dict" (.dict #[(e89 P), (e0 P), (e1 P), (e2 P), (e3 P), (e4 P), (e5 P), (e6 P), (e7 P), (e8 P), (e9 P), (e10 P), (e11 P), (e12 P), (e13 P), (e14 P), (e15 P), (e51 P), (e52 P), (e53 P), (e62 P), (e63 P), (e64 P), (e65 P), (e66 P), (e67 P), (e68 P), (e86 P), (e87 P), (e88 P), (e90 P), (e91 P), (e92 P), (e94 P), (e95 P), (e96 P)] 36)
def T23 (g : GG) (P : Params) : BT := up (T22L0 g P) [(3, o3v8 P), (283, o283v1), (284, o7), (285, o285), (286, so (g 286))]
def S23 (g : Nat → SC) (w : World) (os : OsState) : SharedT := mk (T23 g w.params) 287 1624 #[.finished] os
noncomputable def it22_0 (i : Nat) : Obj := ⟨.type "str_ascii_iterator", none, .fields #[(.str (Str.mk #[9, 10]) 1618), .int (Int.ofNat i) 0], #[]⟩
noncomputable def cs22_0 (i : Nat) : Nat × Tok := ([9, 10].getD i 0, 1619 + 2 * i)
noncomputable def LS22_0 (g : Nat → SC) (w : World) (os : OsState) (i : Nat) (o : SC) : SharedT := mk (((T22L0 g w.params).set 282 fun _ => so o).set 283 fun _ => it22_0 i) 284 (1619 + 2 * i) #[.finished] os
noncomputable def TL22_0 (g : Nat → SC) (w : World) (p : Program) (os : OsState) (sadd : Addr → Value → Int → Sem Bool) (o : SC) (pos : Pos) (F : Frame) (fs : List Frame) (i : Nat)  := goQ p w 17 (LS22_0 g w os i o) ⟨loopW sadd 282 283, lcode 282 283, pos, F :: fs⟩
noncomputable def TR22_0 (g : Nat → SC) (w : World) (p : Program) (os : OsState) (sadd : Addr → Value → Int → Sem Bool) (o : SC) (pos : Pos) (F : Frame) (fs : List Frame) (i : Nat)  : Option (SharedT × Thread) := some (LS22_0 g w os (i + 1) o,
      ⟨(sadd 282 (.str ⟨#[(cs22_0 i).1]⟩ (cs22_0 i).2) (PyData.keyHash w.params ⟨#[(cs22_0 i).1]⟩)).bind fun _ => .pure (.again (lcode 282 283)), lcode 282 283, pos, F :: fs⟩)
noncomputable def TU22_0 (g : Nat → SC) (w : World) (p : Program) (os : OsState) (sadd : Addr → Value → Int → Sem Bool) (o : SC) (pos : Pos) (F : Frame) (fs : List Frame) (i : Nat)  : Prop := TL22_0 g w p os sadd o pos F fs i = TR22_0 g w p os sadd o pos F fs i
theorem tu22_0 (v : Bool) (g : Nat → SC) (w : World) (p : Program) (os : OsState) (sadd : Addr → Value → Int → Sem Bool) (o : SC) (pos : Pos) (F : Frame) (fs : List Frame) : ∀ i, i < 2 → TU22_0 g (wv v w) p os sadd o pos F fs i := by
  have key : ∀ i, TU22_0 g (wv true w) p os sadd o pos F fs i → TU22_0 g (wv false w) p os sadd o pos F fs i → TU22_0 g (wv v w) p os sadd o pos F fs i := fun i a b => by cases v <;> assumption
  iterate 2 refine ls_split ?_ (key _ ?_ ?_)
  exact fun i h => absurd h (Nat.not_lt_zero i)
  all_goals (delta TU22_0; kernel_rfl)
theorem lp22_0 (v : Bool) (g : Nat → SC) (w : World) (p : Program) (os : OsState) (pos : Pos) (F : Frame) (fs : List Frame) (led : Bool) : ∃ o pos', SOk (wv v w) o.es o.t (((List.range 2).map cs22_0).reverse) ∧
    RT p (wv v w) (LS22_0 g (wv v w) os 0 ⟨#[], 0, SetTable.fresh 0 0 led⟩) ⟨DEN (lcode 282 283), lcode 282 283, pos, F :: fs⟩ (LS22_0 g (wv v w) os 2 o) ⟨DEN (lcode 282 283), lcode 282 283, pos', F :: fs⟩ := by
  have hT : (T22L0 g (wv v w).params).get 282 = some (so (g 282)) := by kernel_rfl
  exact loop_fill (p := p) (w := wv v w) (a := 282) (it := 283) (N := 2) F fs cs22_0 (LS22_0 g (wv v w) os) (by decide) (by decide)
    (fun i hi sadd o pos => RT.ofQ (tu22_0 v g w p os sadd o pos F fs i hi))
    (fun i o => by show BT.get (BT.set (BT.set _ _ _) _ _) _ = _; rw [BT.get_set, if_neg (by decide), BT.get_set, if_pos rfl, hT]; rfl)
    (fun i o => by show 282 < 284; decide)
    (fun i o o' => by unfold LS22_0; rw [mk_put, bt_comm _ (by decide), bt_set_set])
    (nd_of (by decide +kernel)) 2 0 (by decide) ⟨#[], 0, SetTable.fresh 0 0 led⟩ pos (SOk.nil _ _ _ _)
noncomputable def ra22 (g : Nat → SC) (p : Program) (b rest : List Stmt) (os : OsState) (w : World) := goQ p w 21 (S22 g w os) (restQ (st 26 :: rest) env0 (.body b env0) ⟨149, 0, 149, 23⟩)
theorem ha22 (v : Bool) (g : Nat → SC) (p : Program) (b rest : List Stmt) (os : OsState) (w : World) : goQ p (wv v w) 21 (S22 g (wv v w) os) (restQ (st 26 :: rest) env0 (.body b env0) ⟨149, 0, 149, 23⟩) = some (LS22_0 g (wv v w) os 0 ⟨#[], 0, SetTable.fresh 0 0 (!(w.params.followText "set-order"))⟩,
    ⟨DEN (lcode 282 283), lcode 282 283, ⟨150, 49, 150, 66⟩, stackOf (ra22 g p b rest os (wv v w))⟩) := by
  cases v <;> kernel_rfl
theorem hk22 (v : Bool) (g : Nat → SC) (p : Program) (b rest : List Stmt) (os : OsState) (w : World) : (stackOf (ra22 g p b rest os (wv v w))).isEmpty = false := by
  cases v <;> kernel_rfl
noncomputable def rb22 (g : Nat → SC) (p : Program) (b rest : List Stmt) (os : OsState) (w : World) (v : Bool) (o : SC) (pos : Pos) := goQ p (wv v w) 33 (LS22_0 g (wv v w) os 2 o) ⟨DEN (lcode 282 283), lcode 282 283, pos, stackOf (ra22 g p b rest os (wv v w))⟩
theorem hb22 (v : Bool) (g : Nat → SC) (p : Program) (b rest : List Stmt) (os : OsState) (w : World) (o : SC) (pos : Pos) : goQ p (wv v w) 33 (LS22_0 g (wv v w) os 2 o) ⟨DEN (lcode 282 283), lcode 282 283, pos, stackOf (ra22 g p b rest os (wv v w))⟩ = some (mk (T22B (upd g 282 o) (wv v w).params) 286 1623 #[.finished] os, ⟨DEN (.builtin "frozenset.__sub__" ⟨[.ref 276, .ref 282], []⟩), (.builtin "frozenset.__sub__" ⟨[.ref 276, .ref 282], []⟩), ⟨150, 36, 150, 66⟩, stackOf (rb22 g p b rest os w v o pos)⟩) := by
  cases v <;> kernel_rfl
theorem hc22 (v : Bool) (g : Nat → SC) (p : Program) (b rest : List Stmt) (os : OsState) (w : World) (o : SC) (pos : Pos) : (stackOf (rb22 g p b rest os w v o pos)).isEmpty = false := by
  cases v <;> kernel_rfl
theorem hd22 (v : Bool) (g : Nat → SC) (p : Program) (b rest : List Stmt) (os : OsState) (w : World) (o o2 : SC) (pos pos2 : Pos) : goQ p (wv v w) 9 (mk (T22O (upd (upd g 282 o) 286 o2) (wv v w).params) 287 1623 #[.finished] os) ⟨.pure (.done (.ret (.ref 286))), (.builtin "frozenset.__sub__" ⟨[.ref 276, .ref 282], []⟩), pos2, stackOf (rb22 g p b rest os w v o pos)⟩ =
    some (S23 (upd (upd g 282 o) 286 o2) (wv v w) os, restQ rest env0 (.body b env0) ⟨150, 0, 150, 33⟩) := by
  cases v <;> kernel_rfl
theorem no22 (g : Nat → SC) (P : Params) (o1 : Obj) (o2 : SC) (os : OsState) : put (grow (mk (T22B g P) 286 1623 #[.finished] os) o1) 286 (so o2) = mk (T22O (upd g 286 o2) P) 287 1623 #[.finished] os := by kernel_rfl
theorem hi22 (g : Nat → SC) (P : Params) (o : Obj) : (((T22B g P).ins 286 o).get 286).isSome = true := by kernel_rfl
theorem sm22 (g : Nat → SC) (p : Program) (b rest : List Stmt) (os : OsState) (w : World) : SOk w (g 276).es (g 276).t ((127, 1611) :: ((List.range 32).map cs20_0).reverse) → ∃ o1 o2, SOk w o1.es o1.t (((List.range 2).map cs22_0).reverse) ∧ SOk w o2.es o2.t (((127, 1611) :: ((List.range 32).map cs20_0).reverse).filter fun x => !(x.1 == 9 || x.1 == 10)) ∧
    RT p w (S22 g w os) (restQ (st 26 :: rest) env0 (.body b env0) ⟨149, 0, 149, 23⟩) (S23 (upd (upd g 282 o1) 286 o2) w os) (restQ rest env0 (.body b env0) ⟨150, 0, 150, 33⟩) := by
  revert w
  refine byRowG "special-get-raises" fun v w h => ?_
  obtain ⟨F, fs, hk⟩ := cons_of (hk22 v g p b rest os w)
  have h1 := RT.ofQ (ha22 v g p b rest os w)
  rw [hk] at h1
  obtain ⟨o1, pos', ok2, h2⟩ := lp22_0 v g w p os ⟨150, 49, 150, 66⟩ F fs (!(w.params.followText "set-order"))
  have h3 := RT.ofQ (hb22 v g p b rest os w o1 pos')
  rw [hk] at h3
  obtain ⟨F2, fs2, hk2⟩ := cons_of (hc22 v g p b rest os w o1 pos')
  rw [hk2, den_sub] at h3
  obtain ⟨a, S', pos2, ⟨o2, rfl, rfl, ok3⟩, h4⟩ := op_run (p := p) (w := wv v w) (c := .builtin "frozenset.__sub__" ⟨[.ref 276, .ref 282], []⟩) (pos := ⟨150, 36, 150, 66⟩) (F := F2) (st := fs2) (Q := fun a S' => ∃ o2 : SC, a = .done (.ret (.ref 286)) ∧ S' = mk (T22O (upd (upd g 282 o1) 286 o2) (wv v w).params) 287 1623 #[.finished] os ∧ SOk (wv v w) o2.es o2.t (((127, 1611) :: ((List.range 32).map cs20_0).reverse).filter fun x => !(x.1 == 9 || x.1 == 10)))
    (S := mk (T22B (upd g 282 o1) (wv v w).params) 286 1623 #[.finished] os) (go_sub (ep := (g 276).ep) (ep2 := o1.ep) (M := 127) (tr := [(10, 1523, 1621), (9, 1519, 1619)]) (rest := (((127, 1611) :: ((List.range 32).map cs20_0).reverse).filter fun x => !(x.1 == 9 || x.1 == 10))) covers127 (by decide +kernel) (by decide +kernel) (by decide +kernel) (fun o => hi22 _ _ o) (by show 63 ≤ 286; decide) (by show 276 < 286; decide) (by show 282 < 286; decide) (by decide) (by kernel_rfl) (by kernel_rfl) h ok2 (by decide +kernel) (by decide +kernel)
      (by decide +kernel) (by decide +kernel) (by decide +kernel) (by decide +kernel) (fun x hx => by simp only [List.mem_cons, List.not_mem_nil, or_false] at hx; obtain rfl | rfl := hx; exact eqOk_c p _; exact eqOk_b p _) (by decide +kernel)
      fun o es' ep' t' ok3 => ⟨⟨es', ep', t'⟩, rfl, no22 (upd g 282 o1) _ o ⟨es', ep', t'⟩ os, ok3⟩)
  have h5 := RT.ofQ (hd22 v g p b rest os w o1 o2 pos' pos2)
  rw [hk2] at h5
  exact ⟨o1, o2, ok2, ok3, h1.trans (h2.trans (h3.trans (h4.trans h5)))⟩
def e97 (P : Params) : DictEntry := zk P "ILLEGAL_LITERAL_STR_CHARS" 1624 (.ref 281)
def o3v9 (P : Params) : Obj := zc "dict" (.dict #[(e89 P), (e0 P), (e1 P), (e2 P), (e3 P), (e4 P), (e5 P), (e6 P), (e7 P), (e8 P), (e9 P), (e10 P), (e11 P), (e12 P), (e13 P), (e14 P), (e15 P), (e51 P), (e52 P), (e53 P), (e62 P), (e63 P), (e64 P), (e65 P), (e66 P), (e67 P), (e68 P), (e86 P), (e87 P), (e88 P), (e90 P), (e91 P), (e92 P), (e94 P), (e95 P), (e96 P), (e97 P)] 37)
def T24 (g : GG) (P : Params) : BT := up (T22L0 g P) [(3, o3v9 P), (283, o283v1), (284, o7), (285, o285), (286, so (g 286))]
def S24 (g : Nat → SC) (w : World) (os : OsState) : SharedT := mk (T24 g w.params) 287 1625 #[.finished] os
theorem pc23 (g : Nat → SC) (p : Program) (b rest : List Stmt) (os : OsState) (w : World) : RT p w (S23 g w os) (restQ (st 27 :: rest) env0 (.body b env0) ⟨150, 0, 150, 33⟩) (S24 g w os) (restQ rest env0 (.body b env0) ⟨151, 0, 151, 25⟩) := by
  exact RT.ofQ (n := 10) (by kernel_rfl)
def e98 (P : Params) : DictEntry := zk P "ILLEGAL_MULTILINE_LITERAL_STR_CHARS" 1625 (.ref 286)
def o3v10 (P : Params) : Obj := zc "dict" (.dict #[(e89 P), (e0 P), (e1 P), (e2 P), (e3 P), (e4 P), (e5 P), (e6 P), (e7 P), (e8 P), (e9 P), (e10 P), (e11 P), (e12 P), (e13 P), (e14 P), (e15 P), (e51 P), (e52 P), (e53 P), (e62 P), (e63 P), (e64 P), (e65 P), (e66 P), (e67 P), (e68 P), (e86 P), (e87 P), (e88 P), (e90 P), (e91 P), (e92 P), (e94 P), (e95 P), (e96 P), (e97 P), (e98 P)] 38)
def T25 (g : GG) (P : Params) : BT := up (T22L0 g P) [(3, o3v10 P), (283, o283v1), (284, o7), (285, o285), (286, so (g 286))]
def S25 (g : Nat → SC) (w : World) (os : OsState) : SharedT := mk (T25 g w.params) 287 1626 #[.finished] os
theorem pc24 (g : Nat → SC) (p : Program) (b rest : List Stmt) (os : OsState) (w : World) : RT p w (S24 g w os) (restQ (st 28 :: rest) env0 (.body b env0) ⟨151, 0, 151, 25⟩) (S25 g w os) (restQ rest env0 (.body b env0) ⟨152, 0, 152, 35⟩) := by
  exact RT.ofQ (n := 10) (by kernel_rfl)
def e99 (P : Params) : DictEntry := zk P "ILLEGAL_COMMENT_CHARS" 1626 (.ref 281)
def o3v11 (P : Params) : Obj := zc "dict" (.dict #[(e89 P), (e0 P), (e1 P), (e2 P), (e3 P), (e4 P), (e5 P), (e6 P), (e7 P), (e8 P), (e9 P), (e10 P), (e11 P), (e12 P), (e13 P), (e14 P), (e15 P), (e51 P), (e52 P), (e53 P), (e62 P), (e63 P), (e64 P), (e65 P), (e66 P), (e67 P), (e68 P), (e86 P), (e87 P), (e88 P), (e90 P), (e91 P), (e92 P), (e94 P), (e95 P), (e96 P), (e97 P), (e98 P), (e99 P)] 39)
def T26 (g : GG) (P : Params) : BT := up (T22L0 g P) [(3, o3v11 P), (283, o283v1), (284, o7), (285, o285), (286, so (g 286))]
def S26 (g : Nat → SC) (w : World) (os : OsState) : SharedT := mk (T26 g w.params) 287 1627 #[.finished] os
theorem pc25 (g : Nat → SC) (p : Program) (b rest : List Stmt) (os : OsState) (w : World) : RT p w (S25 g w os) (restQ (st 29 :: rest) env0 (.body b env0) ⟨152, 0, 152, 35⟩) (S26 g w os) (restQ rest env0 (.body b env0) ⟨153, 0, 153, 21⟩) := by
  exact RT.ofQ (n := 10) (by kernel_rfl)
def o288 : Obj := zc "str_ascii_iterator" (.fields #[(zs " \x09" 1627), (zi 0 0)])
def b104 (g : GG) (P : Params) : BT := (.node o7 (.node o19 (b5 g P) (.node o95 (.node (o159 P) (L (so (g 287))) .nil) (L o223))) (b61 g P))
def b105 (g : GG) (P : Params) : BT := (.node o7 (b104 g P) (b93 g P))
def b106 (g : GG) (P : Params) : BT := (.node o59 (.node o91 (.node o7 (L o283v1) .nil) (L o219)) (b17 g P))
def b107 (g : GG) (P : Params) : BT := (.node o27 (b16 g P) (b106 g P))
def b108 (g : GG) (P : Params) : BT := (.node (o61 P) (.node o93 (.node o157 (L o285) .nil) (L o7)) (b30 g P))
def b109 (g : GG) (P : Params) : BT := (.node (o29v1 P) (b70 g P) (b108 g P))
def b110 (g : GG) (P : Params) : BT := (.node (o13 P) (b85 g P) (b109 g P))
def b111 (g : GG) (P : Params) : BT := (.node o19 (.node o7 (.node o156 (L o7) .nil) (L o220)) (b44 g P))
def b112 (g : GG) (P : Params) : BT := (.node o28 (b76 g P) (b111 g P))
def b113 (g : GG) (P : Params) : BT := (.node o30 (b78 g P) (.node o62 (.node o94 (.node o158 (L (so (g 286))) .nil) (L o8)) (b59 g P)))
def b114 (g : GG) (P : Params) : BT := (.node o14 (b103 g P) (b113 g P))
def T26L0 (g : GG) (P : Params) : BT := (.node (o0 P) (.node (o1 P) (.node (o3v11 P) (b105 g P) (.node (o11v1 P) (b81 g P) (b107 g P))) (.node o5 (b96 g P) (b110 g P))) (.node (o2 P) (.node o4 (.node o8 (.node o16 (.node (o32 P) (b32 g P) (.node o96 (.node o160 (L o288) .nil) (L o7))) (b72 g P)) (b98 g P)) (.node o12 (b88 g P) (b112 g P))) (.node o6 (b101 g P) (b114 g P))))
def o290 : Obj := zc "StopIteration" (.fields #[(.ref 289), .none, .none, .none, (.bool false), .none])
def e100 (P : Params) : DictEntry := zk P "TOML_WS" 1632 (.ref 287)
def o3v12 (P : Params) : Obj := zc "dict" (.dict #[(e89 P), (e0 P), (e1 P), (e2 P), (e3 P), (e4 P), (e5 P), (e6 P), (e7 P), (e8 P), (e9 P), (e10 P), (e11 P), (e12 P), (e13 P), (e14 P), (e15 P), (e51 P), (e52 P), (e53 P), (e62 P), (e63 P), (e64 P), (e65 P), (e66 P), (e67 P), (e68 P), (e86 P), (e87 P), (e88 P), (e90 P), (e91 P), (e92 P), (e94 P), (e95 P), (e96 P), (e97 P), (e98 P), (e99 P), (e100 P)] 40)
def T27 (g : GG) (P : Params) : BT := up (T26L0 g P) [(3, o3v12 P), (288, o283v1), (289, o7), (290, o290)]
def S27 (g : Nat → SC) (w : World) (os : OsState) : SharedT := mk (T27 g w.params) 291 1633 #[.finished] os
noncomputable def it26_0 (i : Nat) : Obj := ⟨.type "str_ascii_iterator", none, .fields #[(.str (Str.mk #[32, 9]) 1627), .int (Int.ofNat i) 0], #[]⟩
noncomputable def cs26_0 (i : Nat) : Nat × Tok := ([32, 9].getD i 0, 1628 + 2 * i)
noncomputable def LS26_0 (g : Nat → SC) (w : World) (os : OsState) (i : Nat) (o : SC) : SharedT := mk (((T26L0 g w.params).set 287 fun _ => so o).set 288 fun _ => it26_0 i) 289 (1628 + 2 * i) #[.finished] os
noncomputable def TL26_0 (g : Nat → SC) (w : World) (p : Program) (os : OsState) (sadd : Addr → Value → Int → Sem Bool) (o : SC) (pos : Pos) (F : Frame) (fs : List Frame) (i : Nat)  := goQ p w 17 (LS26_0 g w os i o) ⟨loopW sadd 287 288, lcode 287 288, pos, F :: fs⟩
noncomputable def TR26_0 (g : Nat → SC) (w : World) (p : Program) (os : OsState) (sadd : Addr → Value → Int → Sem Bool) (o : SC) (pos : Pos) (F : Frame) (fs : List Frame) (i : Nat)  : Option (SharedT × Thread) := some (LS26_0 g w os (i + 1) o,
      ⟨(sadd 287 (.str ⟨#[(cs26_0 i).1]⟩ (cs26_0 i).2) (PyData.keyHash w.params ⟨#[(cs26_0 i).1]⟩)).bind fun _ => .pure (.again (lcode 287 288)), lcode 287 288, pos, F :: fs⟩)
noncomputable def TU26_0 (g : Nat → SC) (w : World) (p : Program) (os : OsState) (sadd : Addr → Value → Int → Sem Bool) (o : SC) (pos : Pos) (F : Frame) (fs : List Frame) (i : Nat)  : Prop := TL26_0 g w p os sadd o pos F fs i = TR26_0 g w p os sadd o pos F fs i
theorem tu26_0 (v : Bool) (g : Nat → SC) (w : World) (p : Program) (os : OsState) (sadd : Addr → Value → Int → Sem Bool) (o : SC) (pos : Pos) (F : Frame) (fs : List Frame) : ∀ i, i < 2 → TU26_0 g (wv v w) p os sadd o pos F fs i := by
  have key : ∀ i, TU26_0 g (wv true w) p os sadd o pos F fs i → TU26_0 g (wv false w) p os sadd o pos F fs i → TU26_0 g (wv v w) p os sadd o pos F fs i := fun i a b => by cases v <;> assumption
  iterate 2 refine ls_split ?_ (key _ ?_ ?_)
  exact fun i h => absurd h (Nat.not_lt_zero i)
  all_goals (delta TU26_0; kernel_rfl)
theorem lp26_0 (v : Bool) (g : Nat → SC) (w : World) (p : Program) (os : OsState) (pos : Pos) (F : Frame) (fs : List Frame) (led : Bool) : ∃ o pos', SOk (wv v w) o.es o.t (((List.range 2).map cs26_0).reverse) ∧
    RT p (wv v w) (LS26_0 g (wv v w) os 0 ⟨#[], 0, SetTable.fresh 0 0 led⟩) ⟨DEN (lcode 287 288), lcode 287 288, pos, F :: fs⟩ (LS26_0 g (wv v w) os 2 o) ⟨DEN (lcode 287 288), lcode 287 288, pos', F :: fs⟩ := by
  have hT : (T26L0 g (wv v w).params).get 287 = some (so (g 287)) := by kernel_rfl
  exact loop_fill (p := p) (w := wv v w) (a := 287) (it := 288) (N := 2) F fs cs26_0 (LS26_0 g (wv v w) os) (by decide) (by decide)
    (fun i hi sadd o pos => RT.ofQ (tu26_0 v g w p os sadd o pos F fs i hi))
    (fun i o => by show BT.get (BT.set (BT.set _ _ _) _ _) _ = _; rw [BT.get_set, if_neg (by decide), BT.get_set, if_pos rfl, hT]; rfl)
    (fun i o => by show 287 < 289; decide)
    (fun i o o' => by unfold LS26_0; rw [mk_put, bt_comm _ (by decide), bt_set_set])
    (nd_of (by decide +kernel)) 2 0 (by decide) ⟨#[], 0, SetTable.fresh 0 0 led⟩ pos (SOk.nil _ _ _ _)
noncomputable def ra26 (g : Nat → SC) (p : Program) (b rest : List Stmt) (os : OsState) (w : World) := goQ p w 19 (S26 g w os) (restQ (st 30 :: rest) env0 (.body b env0) ⟨153, 0, 153, 21⟩)
theorem ha26 (v : Bool) (g : Nat → SC) (p : Program) (b rest : List Stmt) (os : OsState) (w : World) : goQ p (wv v w) 19 (S26 g (wv v w) os) (restQ (st 30 :: rest) env0 (.body b env0) ⟨153, 0, 153, 21⟩) = some (LS26_0 g (wv v w) os 0 ⟨#[], 0, SetTable.fresh 0 0 (!(w.params.followText "set-order"))⟩,
    ⟨DEN (lcode 287 288), lcode 287 288, ⟨154, 10, 154, 26⟩, stackOf (ra26 g p b rest os (wv v w))⟩) := by
  cases v <;> kernel_rfl
theorem hk26 (v : Bool) (g : Nat → SC) (p : Program) (b rest : List Stmt) (os : OsState) (w : World) : (stackOf (ra26 g p b rest os (wv v w))).isEmpty = false := by
  cases v <;> kernel_rfl
theorem hb26 (v : Bool) (g : Nat → SC) (p : Program) (b rest : List Stmt) (os : OsState) (w : World) (o : SC) (pos : Pos) : goQ p (wv v w) 33 (LS26_0 g (wv v w) os 2 o) ⟨DEN (lcode 287 288), lcode 287 288, pos, stackOf (ra26 g p b rest os (wv v w))⟩ = some (S27 (upd g 287 o) (wv v w) os, restQ rest env0 (.body b env0) ⟨154, 0, 154, 7⟩) := by
  cases v <;> kernel_rfl
theorem sm26 (g : Nat → SC) (p : Program) (b rest : List Stmt) (os : OsState) (w : World) : ∃ o, SOk w o.es o.t (((List.range 2).map cs26_0).reverse) ∧
    RT p w (S26 g w os) (restQ (st 30 :: rest) env0 (.body b env0) ⟨153, 0, 153, 21⟩) (S27 (upd g 287 o) w os) (restQ rest env0 (.body b env0) ⟨154, 0, 154, 7⟩) := by
  revert w
  refine byRowG "special-get-raises" fun v w => ?_
  obtain ⟨F, fs, hk⟩ := cons_of (hk26 v g p b rest os w)
  have h1 := RT.ofQ (ha26 v g p b rest os w)
  rw [hk] at h1
  obtain ⟨o, pos', ok, h2⟩ := lp26_0 v g w p os ⟨154, 10, 154, 26⟩ F fs (!(w.params.followText "set-order"))
  have h3 := RT.ofQ (hb26 v g p b rest os w o pos')
  rw [hk] at h3
  exact ⟨o, ok, h1.trans (h2.trans h3)⟩
def o292 : Obj := zc "str_ascii_iterator" (.fields #[(zs "\x0a" 1633), (zi 0 0)])
def b115 (g : GG) (P : Params) : BT := (.node o19 (.node (o35v1 P) (b12 g P) (.node o99 (.node o8 (L (so (g 291))) .nil) (L o227))) (b80 g P))
def b116 (g : GG) (P : Params) : BT := (.node (o11v1 P) (b115 g P) (b107 g P))
def b117 (g : GG) (P : Params) : BT := (.node o17 (.node o33 (b20 g P) (.node (o97 P) (.node o6 (L o7) .nil) (L o225))) (b82 g P))
def b118 (g : GG) (P : Params) : BT := (.node o16 (.node (o32 P) (b32 g P) (.node o96 (.node o160 (L o283v1) .nil) (L o7))) (b72 g P))
def b119 (g : GG) (P : Params) : BT := (.node o18 (.node o34 (b46 g P) (.node o98 (.node o7 (L o290) .nil) (L o226))) (b90 g P))
def b120 (g : GG) (P : Params) : BT := (.node o10 (b119 g P) (b100 g P))
def T27L0 (g : GG) (P : Params) : BT := (.node (o0 P) (.node (o1 P) (.node (o3v12 P) (b105 g P) (b116 g P)) (.node o5 (.node o9 (b117 g P) (b95 g P)) (b110 g P))) (.node (o2 P) (.node o4 (.node o8 (b118 g P) (b98 g P)) (.node o12 (.node (o20 P) (.node o36 (b39 g P) (.node o100 (.node o164 (L o292) .nil) (L (o228 P)))) (b87 g P)) (b112 g P))) (.node o6 (b120 g P) (b114 g P))))
def o294 : Obj := zc "StopIteration" (.fields #[(.ref 293), .none, .none, .none, (.bool false), .none])
def T27B (g : GG) (P : Params) : BT := up (T27L0 g P) [(292, o273v1), (293, o7), (294, o294)]
def T27O (g : GG) (P : Params) : BT := up (T27L0 g P) [(292, o273v1), (293, o7), (294, o294), (295, so (g 295))]
def e101 (P : Params) : DictEntry := zk P "TOML_WS_AND_NEWLINE" 1636 (.ref 295)
def o3v13 (P : Params) : Obj := zc "dict" (.dict #[(e89 P), (e0 P), (e1 P), (e2 P), (e3 P), (e4 P), (e5 P), (e6 P), (e7 P), (e8 P), (e9 P), (e10 P), (e11 P), (e12 P), (e13 P), (e14 P), (e15 P), (e51 P), (e52 P), (e53 P), (e62 P), (e63 P), (e64 P), (e65 P), (e66 P), (e67 P), (e68 P), (e86 P), (e87 P), (e88 P), (e90 P), (e91 P), (e92 P), (e94 P), (e95 P), (e96 P), (e97 P), (e98 P), (e99 P), (e100 P), (e101 P)] 41)
def T28 (g : GG) (P : Params) : BT := up (T27L0 g P) [(3, o3v13 P), (292, o273v1), (293, o7), (294, o294), (295, so (g 295))]
def S28 (g : Nat → SC) (w : World) (os : OsState) : SharedT := mk (T28 g w.params) 296 1637 #[.finished] os
noncomputable def it27_0 (i : Nat) : Obj := ⟨.type "str_ascii_iterator", none, .fields #[(.str (Str.mk #[10]) 1633), .int (Int.ofNat i) 0], #[]⟩
noncomputable def cs27_0 (i : Nat) : Nat × Tok := ([10].getD i 0, 1634 + 2 * i)
noncomputable def LS27_0 (g : Nat → SC) (w : World) (os : OsState) (i : Nat) (o : SC) : SharedT := mk (((T27L0 g w.params).set 291 fun _ => so o).set 292 fun _ => it27_0 i) 293 (1634 + 2 * i) #[.finished] os
noncomputable def TL27_0 (g : Nat → SC) (w : World) (p : Program) (os : OsState) (sadd : Addr → Value → Int → Sem Bool) (o : SC) (pos : Pos) (F : Frame) (fs : List Frame) (i : Nat)  := goQ p w 17 (LS27_0 g w os i o) ⟨loopW sadd 291 292, lcode 291 292, pos, F :: fs⟩
noncomputable def TR27_0 (g : Nat → SC) (w : World) (p : Program) (os : OsState) (sadd : Addr → Value → Int → Sem Bool) (o : SC) (pos : Pos) (F : Frame) (fs : List Frame) (i : Nat)  : Option (SharedT × Thread) := some (LS27_0 g w os (i + 1) o,
      ⟨(sadd 291 (.str ⟨#[(cs27_0 i).1]⟩ (cs27_0 i).2) (PyData.keyHash w.params ⟨#[(cs27_0 i).1]⟩)).bind fun _ => .pure (.again (lcode 291 292)), lcode 291 292, pos, F :: fs⟩)
noncomputable def TU27_0 (g : Nat → SC) (w : World) (p : Program) (os : OsState) (sadd : Addr → Value → Int → Sem Bool) (o : SC) (pos : Pos) (F : Frame) (fs : List Frame) (i : Nat)  : Prop := TL27_0 g w p os sadd o pos F fs i = TR27_0 g w p os sadd o pos F fs i
theorem tu27_0 (v : Bool) (g : Nat → SC) (w : World) (p : Program) (os : OsState) (sadd : Addr → Value → Int → Sem Bool) (o : SC) (pos : Pos) (F : Frame) (fs : List Frame) : ∀ i, i < 1 → TU27_0 g (wv v w) p os sadd o pos F fs i := by
  have key : ∀ i, TU27_0 g (wv true w) p os sadd o pos F fs i → TU27_0 g (wv false w) p os sadd o pos F fs i → TU27_0 g (wv v w) p os sadd o pos F fs i := fun i a b => by cases v <;> assumption
  iterate 1 refine ls_split ?_ (key _ ?_ ?_)
  exact fun i h => absurd h (Nat.not_lt_zero i)
  all_goals (delta TU27_0; kernel_rfl)
theorem lp27_0 (v : Bool) (g : Nat → SC) (w : World) (p : Program) (os : OsState) (pos : Pos) (F : Frame) (fs : List Frame) (led : Bool) : ∃ o pos', SOk (wv v w) o.es o.t (((List.range 1).map cs27_0).reverse) ∧
    RT p (wv v w) (LS27_0 g (wv v w) os 0 ⟨#[], 0, SetTable.fresh 0 0 led⟩) ⟨DEN (lcode 291 292), lcode 291 292, pos, F :: fs⟩ (LS27_0 g (wv v w) os 1 o) ⟨DEN (lcode 291 292), lcode 291 292, pos', F :: fs⟩ := by
  have hT : (T27L0 g (wv v w).params).get 291 = some (so (g 291)) := by kernel_rfl
  exact loop_fill (p := p) (w := wv v w) (a := 291) (it := 292) (N := 1) F fs cs27_0 (LS27_0 g (wv v w) os) (by decide) (by decide)
    (fun i hi sadd o pos => RT.ofQ (tu27_0 v g w p os sadd o pos F fs i hi))
    (fun i o => by show BT.get (BT.set (BT.set _ _ _) _ _) _ = _; rw [BT.get_set, if_neg (by decide), BT.get_set, if_pos rfl, hT]; rfl)
    (fun i o => by show 291 < 293; decide)
    (fun i o o' => by unfold LS27_0; rw [mk_put, bt_comm _ (by decide), bt_set_set])
    (nd_of (by decide +kernel)) 1 0 (by decide) ⟨#[], 0, SetTable.fresh 0 0 led⟩ pos (SOk.nil _ _ _ _)
noncomputable def ra27 (g : Nat → SC) (p : Program) (b rest : List Stmt) (os : OsState) (w : World) := goQ p w 21 (S27 g w os) (restQ (st 31 :: rest) env0 (.body b env0) ⟨154, 0, 154, 7⟩)
theorem ha27 (v : Bool) (g : Nat → SC) (p : Program) (b rest : List Stmt) (os : OsState) (w : World) : goQ p (wv v w) 21 (S27 g (wv v w) os) (restQ (st 31 :: rest) env0 (.body b env0) ⟨154, 0, 154, 7⟩) = some (LS27_0 g (wv v w) os 0 ⟨#[], 0, SetTable.fresh 0 0 (!(w.params.followText "set-order"))⟩,
    ⟨DEN (lcode 291 292), lcode 291 292, ⟨155, 32, 155, 47⟩, stackOf (ra27 g p b rest os (wv v w))⟩) := by
  cases v <;> kernel_rfl
theorem hk27 (v : Bool) (g : Nat → SC) (p : Program) (b rest : List Stmt) (os : OsState) (w : World) : (stackOf (ra27 g p b rest os (wv v w))).isEmpty = false := by
  cases v <;> kernel_rfl
noncomputable def rb27 (g : Nat → SC) (p : Program) (b rest : List Stmt) (os : OsState) (w : World) (v : Bool) (o : SC) (pos : Pos) := goQ p (wv v w) 33 (LS27_0 g (wv v w) os 1 o) ⟨DEN (lcode 291 292), lcode 291 292, pos, stackOf (ra27 g p b rest os (wv v w))⟩
theorem hb27 (v : Bool) (g : Nat → SC) (p : Program) (b rest : List Stmt) (os : OsState) (w : World) (o : SC) (pos : Pos) : goQ p (wv v w) 33 (LS27_0 g (wv v w) os 1 o) ⟨DEN (lcode 291 292), lcode 291 292, pos, stackOf (ra27 g p b rest os (wv v w))⟩ = some (mk (T27B (upd g 291 o) (wv v w).params) 295 1636 #[.finished] os, ⟨DEN (.builtin "frozenset.__or__" ⟨[.ref 287, .ref 291], []⟩), (.builtin "frozenset.__or__" ⟨[.ref 287, .ref 291], []⟩), ⟨155, 22, 155, 47⟩, stackOf (rb27 g p b rest os w v o pos)⟩) := by
  cases v <;> kernel_rfl
theorem hc27 (v : Bool) (g : Nat → SC) (p : Program) (b rest : List Stmt) (os : OsState) (w : World) (o : SC) (pos : Pos) : (stackOf (rb27 g p b rest os w v o pos)).isEmpty = false := by
  cases v <;> kernel_rfl
theorem hd27 (v : Bool) (g : Nat → SC) (p : Program) (b rest : List Stmt) (os : OsState) (w : World) (o o2 : SC) (pos pos2 : Pos) : goQ p (wv v w) 9 (mk (T27O (upd (upd g 291 o) 295 o2) (wv v w).params) 296 1636 #[.finished] os) ⟨.pure (.done (.ret (.ref 295))), (.builtin "frozenset.__or__" ⟨[.ref 287, .ref 291], []⟩), pos2, stackOf (rb27 g p b rest os w v o pos)⟩ =
    some (S28 (upd (upd g 291 o) 295 o2) (wv v w) os, restQ rest env0 (.body b env0) ⟨155, 0, 155, 19⟩) := by
  cases v <;> kernel_rfl
theorem no27 (g : Nat → SC) (P : Params) (o1 : Obj) (o2 : SC) (os : OsState) : put (grow (mk (T27B g P) 295 1636 #[.finished] os) o1) 295 (so o2) = mk (T27O (upd g 295 o2) P) 296 1636 #[.finished] os := by kernel_rfl
theorem hi27 (g : Nat → SC) (P : Params) (o : Obj) : (((T27B g P).ins 295 o).get 295).isSome = true := by kernel_rfl
theorem sm27 (g : Nat → SC) (p : Program) (b rest : List Stmt) (os : OsState) (w : World) : SOk w (g 287).es (g 287).t (((List.range 2).map cs26_0).reverse) → ∃ o1 o2, SOk w o1.es o1.t (((List.range 1).map cs27_0).reverse) ∧ SOk w o2.es o2.t ((10, 1634) :: ((List.range 2).map cs26_0).reverse) ∧
    RT p w (S27 g w os) (restQ (st 31 :: rest) env0 (.body b env0) ⟨154, 0, 154, 7⟩) (S28 (upd (upd g 291 o1) 295 o2) w os) (restQ rest env0 (.body b env0) ⟨155, 0, 155, 19⟩) := by
  revert w
  refine byRowG "special-get-raises" fun v w h => ?_
  obtain ⟨F, fs, hk⟩ := cons_of (hk27 v g p b rest os w)
  have h1 := RT.ofQ (ha27 v g p b rest os w)
  rw [hk] at h1
  obtain ⟨o1, pos', ok2, h2⟩ := lp27_0 v g w p os ⟨155, 32, 155, 47⟩ F fs (!(w.params.followText "set-order"))
  have h3 := RT.ofQ (hb27 v g p b rest os w o1 pos')
  rw [hk] at h3
  obtain ⟨F2, fs2, hk2⟩ := cons_of (hc27 v g p b rest os w o1 pos')
  rw [hk2, den_or] at h3
  obtain ⟨a, S', pos2, ⟨o2, rfl, rfl, ok3⟩, h4⟩ := op_run (p := p) (w := wv v w) (c := .builtin "frozenset.__or__" ⟨[.ref 287, .ref 291], []⟩) (pos := ⟨155, 22, 155, 47⟩) (F := F2) (st := fs2) (Q := fun a S' => ∃ o2 : SC, a = .done (.ret (.ref 295)) ∧ S' = mk (T27O (upd (upd g 291 o1) 295 o2) (wv v w).params) 296 1636 #[.finished] os ∧ SOk (wv v w) o2.es o2.t ((10, 1634) :: ((List.range 2).map cs26_0).reverse))
    (S := mk (T27B (upd g 291 o1) (wv v w).params) 295 1636 #[.finished] os) (GoS.of (sv_or (ep := (g 287).ep) (ep2 := o1.ep) (M := 7) (c := 10) (tk := 1634) covers7 (.inl ⟨rfl, by decide +kernel⟩) (by decide +kernel) (fun o => hi27 _ _ o) (by show 63 ≤ 295; decide) (by show 287 < 295; decide) (by show 291 < 295; decide) (by decide) (by kernel_rfl) (by kernel_rfl) h ok2 (by decide +kernel) (by decide +kernel) (by decide +kernel) (by decide +kernel)
      fun o es' ep' t' ok3 => ⟨⟨es', ep', t'⟩, rfl, no27 (upd g 291 o1) _ o ⟨es', ep', t'⟩ os, ok3⟩))
  have h5 := RT.ofQ (hd27 v g p b rest os w o1 o2 pos' pos2)
  rw [hk2] at h5
  exact ⟨o1, o2, ok2, ok3, h1.trans (h2.trans (h3.trans (h4.trans h5)))⟩
def e102 (P : Params) : DictEntry := zk P "ascii_lowercase" 1638 (zs "abcdefghijklmnopqrstuvwxyz" 1637)
def o3v14 (P : Params) : Obj := zc "dict" (.dict #[(e89 P), (e0 P), (e1 P), (e2 P), (e3 P), (e4 P), (e5 P), (e6 P), (e7 P), (e8 P), (e9 P), (e10 P), (e11 P), (e12 P), (e13 P), (e14 P), (e15 P), (e51 P), (e52 P), (e53 P), (e62 P), (e63 P), (e64 P), (e65 P), (e66 P), (e67 P), (e68 P), (e86 P), (e87 P), (e88 P), (e90 P), (e91 P), (e92 P), (e94 P), (e95 P), (e96 P), (e97 P), (e98 P), (e99 P), (e100 P), (e101 P), (e102 P)] 42)
def T29 (g : GG) (P : Params) : BT := up (T27L0 g P) [(3, o3v14 P), (292, o273v1), (293, o7), (294, o294), (295, so (g 295))]
def S29 (g : Nat → SC) (w : World) (os : OsState) : SharedT := mk (T29 g w.params) 296 1639 #[.finished] os
theorem pc28 (g : Nat → SC) (p : Program) (b rest : List Stmt) (os : OsState) (w : World) : RT p w (S28 g w os) (restQ (st 32 :: rest) env0 (.body b env0) ⟨155, 0, 155, 19⟩) (S29 g w os) (restQ rest env0 (.body b env0) ⟨156, 0, 156, 15⟩) := by
  exact RT.ofQ (n := 9) (by kernel_rfl)
def e103 (P : Params) : DictEntry := zk P "ascii_uppercase" 1640 (zs "ABCDEFGHIJKLMNOPQRSTUVWXYZ" 1639)
def o3v15 (P : Params) : Obj := zc "dict" (.dict #[(e89 P), (e0 P), (e1 P), (e2 P), (e3 P), (e4 P), (e5 P), (e6 P), (e7 P), (e8 P), (e9 P), (e10 P), (e11 P), (e12 P), (e13 P), (e14 P), (e15 P), (e51 P), (e52 P), (e53 P), (e62 P), (e63 P), (e64 P), (e65 P), (e66 P), (e67 P), (e68 P), (e86 P), (e87 P), (e88 P), (e90 P), (e91 P), (e92 P), (e94 P), (e95 P), (e96 P), (e97 P), (e98 P), (e99 P), (e100 P), (e101 P), (e102 P), (e103 P)] 43)
def T30 (g : GG) (P : Params) : BT := up (T27L0 g P) [(3, o3v15 P), (292, o273v1), (293, o7), (294, o294), (295, so (g 295))]
def S30 (g : Nat → SC) (w : World) (os : OsState) : SharedT := mk (T30 g w.params) 296 1641 #[.finished] os
theorem pc29 (g : Nat → SC) (p : Program) (b rest : List Stmt) (os : OsState) (w : World) : RT p w (S29 g w os) (restQ (st 33 :: rest) env0 (.body b env0) ⟨156, 0, 156, 15⟩) (S30 g w os) (restQ rest env0 (.body b env0) ⟨157, 0, 157, 15⟩) := by
  exact RT.ofQ (n := 9) (by kernel_rfl)
def e104 (P : Params) : DictEntry := zk P "ascii_letters" 1642 (zs "abcdefghijklmnopqrstuvwxyzABCDEFGHIJKLMNOPQRSTUVWXYZ" 1641)
def o3v16 (P : Params) : Obj := zc "dict" (.dict #[(e89 P), (e0 P), (e1 P), (e2 P), (e3 P), (e4 P), (e5 P), (e6 P), (e7 P), (e8 P), (e9 P), (e10 P), (e11 P), (e12 P), (e13 P), (e14 P), (e15 P), (e51 P), (e52 P), (e53 P), (e62 P), (e63 P), (e64 P), (e65 P), (e66 P), (e67 P), (e68 P), (e86 P), (e87 P), (e88 P), (e90 P), (e91 P), (e92 P), (e94 P), (e95 P), (e96 P), (e97 P), (e98 P), (e99 P), (e100 P), (e101 P), (e102 P), (e103 P), (e104 P)] 44)
def T31 (g : GG) (P : Params) : BT := up (T27L0 g P) [(3, o3v16 P), (292, o273v1), (293, o7), (294, o294), (295, so (g 295))]
def S31 (g : Nat → SC) (w : World) (os : OsState) : SharedT := mk (T31 g w.params) 296 1643 #[.finished] os
theorem pc30 (g : Nat → SC) (p : Program) (b rest : List Stmt) (os : OsState) (w : World) : RT p w (S30 g w os) (restQ (st 34 :: rest) env0 (.body b env0) ⟨157, 0, 157, 15⟩) (S31 g w os) (restQ rest env0 (.body b env0) ⟨158, 0, 158, 13⟩) := by
  exact RT.ofQ (n := 18) (by kernel_rfl)
def e105 (P : Params) : DictEntry := zk P "digits" 1644 (zs "0123456789" 1643)
def o3v17 (P : Params) : Obj := zc "dict" (.dict #[(e89 P), (e0 P), (e1 P), (e2 P), (e3 P), (e4 P), (e5 P), (e6 P), (e7 P), (e8 P), (e9 P), (e10 P), (e11 P), (e12 P), (e13 P), (e14 P), (e15 P), (e51 P), (e52 P), (e53 P), (e62 P), (e63 P), (e64 P), (e65 P), (e66 P), (e67 P), (e68 P), (e86 P), (e87 P), (e88 P), (e90 P), (e91 P), (e92 P), (e94 P), (e95 P), (e96 P), (e97 P), (e98 P), (e99 P), (e100 P), (e101 P), (e102 P), (e103 P), (e104 P), (e105 P)] 45)
def T32 (g : GG) (P : Params) : BT := up (T27L0 g P) [(3, o3v17 P), (292, o273v1), (293, o7), (294, o294), (295, so (g 295))]
def S32 (g : Nat → SC) (w : World) (os : OsState) : SharedT := mk (T32 g w.params) 296 1645 #[.finished] os
theorem pc31 (g : Nat → SC) (p : Program) (b rest : List Stmt) (os : OsState) (w : World) : RT p w (S31 g w os) (restQ (st 35 :: rest) env0 (.body b env0) ⟨158, 0, 158, 13⟩) (S32 g w os) (restQ rest env0 (.body b env0) ⟨159, 0, 159, 6⟩) := by
  exact RT.ofQ (n := 9) (by kernel_rfl)
def e106 (P : Params) : DictEntry := zk P "hexdigits" 1649 (zs "0123456789abcdefABCDEF" 1648)
def o3v18 (P : Params) : Obj := zc "dict" (.dict #[(e89 P), (e0 P), (e1 P), (e2 P), (e3 P), (e4 P), (e5 P), (e6 P), (e7 P), (e8 P), (e9 P), (e10 P), (e11 P), (e12 P), (e13 P), (e14 P), (e15 P), (e51 P), (e52 P), (e53 P), (e62 P), (e63 P), (e64 P), (e65 P), (e66 P), (e67 P), (e68 P), (e86 P), (e87 P), (e88 P), (e90 P), (e91 P), (e92 P), (e94 P), (e95 P), (e96 P), (e97 P), (e98 P), (e99 P), (e100 P), (e101 P), (e102 P), (e103 P), (e104 P), (e105 P), (e106 P)] 46)
def T33 (g : GG) (P : Params) : BT := up (T27L0 g P) [(3, o3v18 P), (292, o273v1), (293, o7), (294, o294), (295, so (g 295))]
def S33 (g : Nat → SC) (w : World) (os : OsState) : SharedT := mk (T33 g w.params) 296 1650 #[.finished] os
theorem pc32 (g : Nat → SC) (p : Program) (b rest : List Stmt) (os : OsState) (w : World) : RT p w (S32 g w os) (restQ (st 36 :: rest) env0 (.body b env0) ⟨159, 0, 159, 6⟩) (S33 g w os) (restQ rest env0 (.body b env0) ⟨160, 0, 160, 9⟩) := by
  exact RT.ofQ (n := 24) (by kernel_rfl)
def o297 : Obj := zc "str_ascii_iterator" (.fields #[(zs "abcdefghijklmnopqrstuvwxyzABCDEFGHIJKLMNOPQRSTUVWXYZ0123456789-_" 1652), (zi 0 0)])
def b121 (g : GG) (P : Params) : BT := (.node o7 (b104 g P) (.node o23 (.node o39 (b8 g P) (.node o103 (.node o167 (L (so (g 295))) .nil) (L o231))) (b92 g P)))
def b122 (g : GG) (P : Params) : BT := (.node (o21 P) (.node (o37 P) (b67 g P) (.node o101 (b2 g P) (L o229))) (b84 g P))
def b123 (g : GG) (P : Params) : BT := (.node o8 (b118 g P) (.node o24 (.node o7 (b35 g P) (.node (o104 P) (.node o168 (L (so (g 296))) .nil) (L o232))) (b97 g P)))
def b124 (g : GG) (P : Params) : BT := (.node (o20 P) (.node o36 (b39 g P) (.node o100 (.node o164 (L o273v1) .nil) (L (o228 P)))) (b87 g P))
def b125 (g : GG) (P : Params) : BT := (.node o14 (.node o22 (.node (o38 P) (b54 g P) (.node o102 (.node o166 (L o294) .nil) (L o230))) (b102 g P)) (b113 g P))
def T33L0 (g : GG) (P : Params) : BT := (.node (o0 P) (.node (o1 P) (.node (o3v18 P) (b121 g P) (b116 g P)) (.node o5 (.node o9 (b117 g P) (.node o25 (.node o41 (b64 g P) (.node o105 (.node o7 (L o297) .nil) (L o213))) (b94 g P))) (.node (o13 P) (b122 g P) (b109 g P)))) (.node (o2 P) (.node o4 (b123 g P) (.node o12 (b124 g P) (b112 g P))) (.node o6 (b120 g P) (b125 g P))))
def o297v1 : Obj := zc "str_ascii_iterator" (.fields #[.none, (zi 64 0)])
def o299 : Obj := zc "StopIteration" (.fields #[(.ref 298), .none, .none, .none, (.bool false), .none])
def e107 (P : Params) : DictEntry := zk P "BARE_KEY_CHARS" 1781 (.ref 296)
def o3v19 (P : Params) : Obj := zc "dict" (.dict #[(e89 P), (e0 P), (e1 P), (e2 P), (e3 P), (e4 P), (e5 P), (e6 P), (e7 P), (e8 P), (e9 P), (e10 P), (e11 P), (e12 P), (e13 P), (e14 P), (e15 P), (e51 P), (e52 P), (e53 P), (e62 P), (e63 P), (e64 P), (e65 P), (e66 P), (e67 P), (e68 P), (e86 P), (e87 P), (e88 P), (e90 P), (e91 P), (e92 P), (e94 P), (e95 P), (e96 P), (e97 P), (e98 P), (e99 P), (e100 P), (e101 P), (e102 P), (e103 P), (e104 P), (e105 P), (e106 P), (e107 P)] 47)
def T34 (g : GG) (P : Params) : BT := up (T33L0 g P) [(3, o3v19 P), (297, o297v1), (298, o7), (299, o299)]
def S34 (g : Nat → SC) (w : World) (os : OsState) : SharedT := mk (T34 g w.params) 300 1782 #[.finished] os
noncomputable def it33_0 (i : Nat) : Obj := ⟨.type "str_ascii_iterator", none, .fields #[(.str (S "abcdefghijklmnopqrstuvwxyzABCDEFGHIJKLMNOPQRSTUVWXYZ0123456789-_") 1652), .int (Int.ofNat i) 0], #[]⟩
noncomputable def cs33_0 (i : Nat) : Nat × Tok := ([97, 98, 99, 100, 101, 102, 103, 104, 105, 106, 107, 108, 109, 110, 111, 112, 113, 114, 115, 116, 117, 118, 119, 120, 121, 122, 65, 66, 67, 68, 69, 70, 71, 72, 73, 74, 75, 76, 77, 78, 79, 80, 81, 82, 83, 84, 85, 86, 87, 88, 89, 90, 48, 49, 50, 51, 52, 53, 54, 55, 56, 57, 45, 95].getD i 0, 1653 + 2 * i)
noncomputable def LS33_0 (g : Nat → SC) (w : World) (os : OsState) (i : Nat) (o : SC) : SharedT := mk (((T33L0 g w.params).set 296 fun _ => so o).set 297 fun _ => it33_0 i) 298 (1653 + 2 * i) #[.finished] os
noncomputable def TL33_0 (g : Nat → SC) (w : World) (p : Program) (os : OsState) (sadd : Addr → Value → Int → Sem Bool) (o : SC) (pos : Pos) (F : Frame) (fs : List Frame) (i : Nat)  := goQ p w 17 (LS33_0 g w os i o) ⟨loopW sadd 296 297, lcode 296 297, pos, F :: fs⟩
noncomputable def TR33_0 (g : Nat → SC) (w : World) (p : Program) (os : OsState) (sadd : Addr → Value → Int → Sem Bool) (o : SC) (pos : Pos) (F : Frame) (fs : List Frame) (i : Nat)  : Option (SharedT × Thread) := some (LS33_0 g w os (i + 1) o,
      ⟨(sadd 296 (.str ⟨#[(cs33_0 i).1]⟩ (cs33_0 i).2) (PyData.keyHash w.params ⟨#[(cs33_0 i).1]⟩)).bind fun _ => .pure (.again (lcode 296 297)), lcode 296 297, pos, F :: fs⟩)
noncomputable def TU33_0 (g : Nat → SC) (w : World) (p : Program) (os : OsState) (sadd : Addr → Value → Int → Sem Bool) (o : SC) (pos : Pos) (F : Frame) (fs : List Frame) (i : Nat)  : Prop := TL33_0 g w p os sadd o pos F fs i = TR33_0 g w p os sadd o pos F fs i
theorem tu33_0 (v : Bool) (g : Nat → SC) (w : World) (p : Program) (os : OsState) (sadd : Addr → Value → Int → Sem Bool) (o : SC) (pos : Pos) (F : Frame) (fs : List Frame) : ∀ i, i < 64 → TU33_0 g (wv v w) p os sadd o pos F fs i := by
  have key : ∀ i, TU33_0 g (wv true w) p os sadd o pos F fs i → TU33_0 g (wv false w) p os sadd o pos F fs i → TU33_0 g (wv v w) p os sadd o pos F fs i := fun i a b => by cases v <;> assumption
  iterate 64 refine ls_split ?_ (key _ ?_ ?_)
  exact fun i h => absurd h (Nat.not_lt_zero i)
  all_goals (delta TU33_0; kernel_rfl)
theorem lp33_0 (v : Bool) (g : Nat → SC) (w : World) (p : Program) (os : OsState) (pos : Pos) (F : Frame) (fs : List Frame) (led : Bool) : ∃ o pos', SOk (wv v w) o.es o.t (((List.range 64).map cs33_0).reverse) ∧
    RT p (wv v w) (LS33_0 g (wv v w) os 0 ⟨#[], 0, SetTable.fresh 0 0 led⟩) ⟨DEN (lcode 296 297), lcode 296 297, pos, F :: fs⟩ (LS33_0 g (wv v w) os 64 o) ⟨DEN (lcode 296 297), lcode 296 297, pos', F :: fs⟩ := by
  have hT : (T33L0 g (wv v w).params).get 296 = some (so (g 296)) := by kernel_rfl
  exact loop_fill (p := p) (w := wv v w) (a := 296) (it := 297) (N := 64) F fs cs33_0 (LS33_0 g (wv v w) os) (by decide) (by decide)
    (fun i hi sadd o pos => RT.ofQ (tu33_0 v g w p os sadd o pos F fs i hi))
    (fun i o => by show BT.get (BT.set (BT.set _ _ _) _ _) _ = _; rw [BT.get_set, if_neg (by decide), BT.get_set, if_pos rfl, hT]; rfl)
    (fun i o => by show 296 < 298; decide)
    (fun i o o' => by unfold LS33_0; rw [mk_put, bt_comm _ (by decide), bt_set_set])
    (nd_of (by decide +kernel)) 64 0 (by decide) ⟨#[], 0, SetTable.fresh 0 0 led⟩ pos (SOk.nil _ _ _ _)
noncomputable def ra33 (g : Nat → SC) (p : Program) (b rest : List Stmt) (os : OsState) (w : World) := goQ p w 35 (S33 g w os) (restQ (st 37 :: rest) env0 (.body b env0) ⟨160, 0, 160, 9⟩)
theorem ha33 (v : Bool) (g : Nat → SC) (p : Program) (b rest : List Stmt) (os : OsState) (w : World) : goQ p (wv v w) 35 (S33 g (wv v w) os) (restQ (st 37 :: rest) env0 (.body b env0) ⟨160, 0, 160, 9⟩) = some (LS33_0 g (wv v w) os 0 ⟨#[], 0, SetTable.fresh 0 0 (!(w.params.followText "set-order"))⟩,
    ⟨DEN (lcode 296 297), lcode 296 297, ⟨161, 17, 161, 57⟩, stackOf (ra33 g p b rest os (wv v w))⟩) := by
  cases v <;> kernel_rfl
theorem hk33 (v : Bool) (g : Nat → SC) (p : Program) (b rest : List Stmt) (os : OsState) (w : World) : (stackOf (ra33 g p b rest os (wv v w))).isEmpty = false := by
  cases v <;> kernel_rfl
theorem hb33 (v : Bool) (g : Nat → SC) (p : Program) (b rest : List Stmt) (os : OsState) (w : World) (o : SC) (pos : Pos) : goQ p (wv v w) 33 (LS33_0 g (wv v w) os 64 o) ⟨DEN (lcode 296 297), lcode 296 297, pos, stackOf (ra33 g p b rest os (wv v w))⟩ = some (S34 (upd g 296 o) (wv v w) os, restQ rest env0 (.body b env0) ⟨161, 0, 161, 14⟩) := by
  cases v <;> kernel_rfl
theorem sm33 (g : Nat → SC) (p : Program) (b rest : List Stmt) (os : OsState) (w : World) : ∃ o, SOk w o.es o.t (((List.range 64).map cs33_0).reverse) ∧
    RT p w (S33 g w os) (restQ (st 37 :: rest) env0 (.body b env0) ⟨160, 0, 160, 9⟩) (S34 (upd g 296 o) w os) (restQ rest env0 (.body b env0) ⟨161, 0, 161, 14⟩) := by
  revert w
  refine byRowG "special-get-raises" fun v w => ?_
  obtain ⟨F, fs, hk⟩ := cons_of (hk33 v g p b rest os w)
  have h1 := RT.ofQ (ha33 v g p b rest os w)
  rw [hk] at h1
  obtain ⟨o, pos', ok, h2⟩ := lp33_0 v g w p os ⟨161, 17, 161, 57⟩ F fs (!(w.params.followText "set-order"))
  have h3 := RT.ofQ (hb33 v g p b rest os w o pos')
  rw [hk] at h3
  exact ⟨o, ok, h1.trans (h2.trans h3)⟩
def o301 : Obj := zc "str_ascii_iterator" (.fields #[(zs "0123456789abcdefABCDEF" 1648), (zi 0 0)])
def T34L0 (g : GG) (P : Params) : BT := (.node (o0 P) (.node (o1 P) (.node (o3v19 P) (b121 g P) (.node (o11v1 P) (b115 g P) (.node o27 (.node (o43 P) (b15 g P) (.node o107 (.node o171 (L o299) .nil) (L o8))) (b106 g P)))) (.node o5 (.node o9 (b117 g P) (.node o25 (.node o41 (b64 g P) (.node o105 (.node o7 (L o297v1) .nil) (L o213))) (b94 g P))) (.node (o13 P) (b122 g P) (.node (o29v1 P) (.node o45 (b69 g P) (.node o6 (.node o173 (L o301) .nil) (L o7))) (b108 g P))))) (.node (o2 P) (.node o4 (b123 g P) (.node o12 (b124 g P) (.node o28 (.node o44 (b75 g P) (.node o108 (.node o7 (L (so (g 300))) .nil) (L o7))) (b111 g P)))) (.node o6 (.node o10 (b119 g P) (.node o26 (.node o42 (b49 g P) (.node o106 (b0 g P) (L o234))) (b99 g P))) (b125 g P))))
def o301v1 : Obj := zc "str_ascii_iterator" (.fields #[.none, (zi 22 0)])
def o303 : Obj := zc "StopIteration" (.fields #[(.ref 302), .none, .none, .none, (.bool false), .none])
def e108 (P : Params) : DictEntry := zk P "HEXDIGIT_CHARS" 1826 (.ref 300)
def o3v20 (P : Params) : Obj := zc "dict" (.dict #[(e89 P), (e0 P), (e1 P), (e2 P), (e3 P), (e4 P), (e5 P), (e6 P), (e7 P), (e8 P), (e9 P), (e10 P), (e11 P), (e12 P), (e13 P), (e14 P), (e15 P), (e51 P), (e52 P), (e53 P), (e62 P), (e63 P), (e64 P), (e65 P), (e66 P), (e67 P), (e68 P), (e86 P), (e87 P), (e88 P), (e90 P), (e91 P), (e92 P), (e94 P), (e95 P), (e96 P), (e97 P), (e98 P), (e99 P), (e100 P), (e101 P), (e102 P), (e103 P), (e104 P), (e105 P), (e106 P), (e107 P), (e108 P)] 48)
def T35 (g : GG) (P : Params) : BT := up (T34L0 g P) [(3, o3v20 P), (301, o301v1), (302, o7), (303, o303)]
def S35 (g : Nat → SC) (w : World) (os : OsState) : SharedT := mk (T35 g w.params) 304 1827 #[.finished] os
noncomputable def it34_0 (i : Nat) : Obj := ⟨.type "str_ascii_iterator", none, .fields #[(.str (S "0123456789abcdefABCDEF") 1648), .int (Int.ofNat i) 0], #[]⟩
noncomputable def cs34_0 (i : Nat) : Nat × Tok := ([48, 49, 50, 51, 52, 53, 54, 55, 56, 57, 97, 98, 99, 100, 101, 102, 65, 66, 67, 68, 69, 70].getD i 0, 1782 + 2 * i)
noncomputable def LS34_0 (g : Nat → SC) (w : World) (os : OsState) (i : Nat) (o : SC) : SharedT := mk (((T34L0 g w.params).set 300 fun _ => so o).set 301 fun _ => it34_0 i) 302 (1782 + 2 * i) #[.finished] os
noncomputable def TL34_0 (g : Nat → SC) (w : World) (p : Program) (os : OsState) (sadd : Addr → Value → Int → Sem Bool) (o : SC) (pos : Pos) (F : Frame) (fs : List Frame) (i : Nat)  := goQ p w 17 (LS34_0 g w os i o) ⟨loopW sadd 300 301, lcode 300 301, pos, F :: fs⟩
noncomputable def TR34_0 (g : Nat → SC) (w : World) (p : Program) (os : OsState) (sadd : Addr → Value → Int → Sem Bool) (o : SC) (pos : Pos) (F : Frame) (fs : List Frame) (i : Nat)  : Option (SharedT × Thread) := some (LS34_0 g w os (i + 1) o,
      ⟨(sadd 300 (.str ⟨#[(cs34_0 i).1]⟩ (cs34_0 i).2) (PyData.keyHash w.params ⟨#[(cs34_0 i).1]⟩)).bind fun _ => .pure (.again (lcode 300 301)), lcode 300 301, pos, F :: fs⟩)
noncomputable def TU34_0 (g : Nat → SC) (w : World) (p : Program) (os : OsState) (sadd : Addr → Value → Int → Sem Bool) (o : SC) (pos : Pos) (F : Frame) (fs : List Frame) (i : Nat)  : Prop := TL34_0 g w p os sadd o pos F fs i = TR34_0 g w p os sadd o pos F fs i
theorem tu34_0 (v : Bool) (g : Nat → SC) (w : World) (p : Program) (os : OsState) (sadd : Addr → Value → Int → Sem Bool) (o : SC) (pos : Pos) (F : Frame) (fs : List Frame) : ∀ i, i < 22 → TU34_0 g (wv v w) p os sadd o pos F fs i := by
  have key : ∀ i, TU34_0 g (wv true w) p os sadd o pos F fs i → TU34_0 g (wv false w) p os sadd o pos F fs i → TU34_0 g (wv v w) p os sadd o pos F fs i := fun i a b => by cases v <;> assumption
  iterate 22 refine ls_split ?_ (key _ ?_ ?_)
  exact fun i h => absurd h (Nat.not_lt_zero i)
  all_goals (delta TU34_0; kernel_rfl)
theorem lp34_0 (v : Bool) (g : Nat → SC) (w : World) (p : Program) (os : OsState) (pos : Pos) (F : Frame) (fs : List Frame) (led : Bool) : ∃ o pos', SOk (wv v w) o.es o.t (((List.range 22).map cs34_0).reverse) ∧
    RT p (wv v w) (LS34_0 g (wv v w) os 0 ⟨#[], 0, SetTable.fresh 0 0 led⟩) ⟨DEN (lcode 300 301), lcode 300 301, pos, F :: fs⟩ (LS34_0 g (wv v w) os 22 o) ⟨DEN (lcode 300 301), lcode 300 301, pos', F :: fs⟩ := by
  have hT : (T34L0 g (wv v w).params).get 300 = some (so (g 300)) := by kernel_rfl
  exact loop_fill (p := p) (w := wv v w) (a := 300) (it := 301) (N := 22) F fs cs34_0 (LS34_0 g (wv v w) os) (by decide) (by decide)
    (fun i hi sadd o pos => RT.ofQ (tu34_0 v g w p os sadd o pos F fs i hi))
    (fun i o => by show BT.get (BT.set (BT.set _ _ _) _ _) _ = _; rw [BT.get_set, if_neg (by decide), BT.get_set, if_pos rfl, hT]; rfl)
    (fun i o => by show 300 < 302; decide)
    (fun i o o' => by unfold LS34_0; rw [mk_put, bt_comm _ (by decide), bt_set_set])
    (nd_of (by decide +kernel)) 22 0 (by decide) ⟨#[], 0, SetTable.fresh 0 0 led⟩ pos (SOk.nil _ _ _ _)
noncomputable def ra34 (g : Nat → SC) (p : Program) (b rest : List Stmt) (os : OsState) (w : World) := goQ p w 20 (S34 g w os) (restQ (st 38 :: rest) env0 (.body b env0) ⟨161, 0, 161, 14⟩)
theorem ha34 (v : Bool) (g : Nat → SC) (p : Program) (b rest : List Stmt) (os : OsState) (w : World) : goQ p (wv v w) 20 (S34 g (wv v w) os) (restQ (st 38 :: rest) env0 (.body b env0) ⟨161, 0, 161, 14⟩) = some (LS34_0 g (wv v w) os 0 ⟨#[], 0, SetTable.fresh 0 0 (!(w.params.followText "set-order"))⟩,
    ⟨DEN (lcode 300 301), lcode 300 301, ⟨162, 17, 162, 37⟩, stackOf (ra34 g p b rest os (wv v w))⟩) := by
  cases v <;> kernel_rfl
theorem hk34 (v : Bool) (g : Nat → SC) (p : Program) (b rest : List Stmt) (os : OsState) (w : World) : (stackOf (ra34 g p b rest os (wv v w))).isEmpty = false := by
  cases v <;> kernel_rfl
theorem hb34 (v : Bool) (g : Nat → SC) (p : Program) (b rest : List Stmt) (os : OsState) (w : World) (o : SC) (pos : Pos) : goQ p (wv v w) 33 (LS34_0 g (wv v w) os 22 o) ⟨DEN (lcode 300 301), lcode 300 301, pos, stackOf (ra34 g p b rest os (wv v w))⟩ = some (S35 (upd g 300 o) (wv v w) os, restQ rest env0 (.body b env0) ⟨162, 0, 162, 14⟩) := by
  cases v <;> kernel_rfl
theorem sm34 (g : Nat → SC) (p : Program) (b rest : List Stmt) (os : OsState) (w : World) : ∃ o, SOk w o.es o.t (((List.range 22).map cs34_0).reverse) ∧
    RT p w (S34 g w os) (restQ (st 38 :: rest) env0 (.body b env0) ⟨161, 0, 161, 14⟩) (S35 (upd g 300 o) w os) (restQ rest env0 (.body b env0) ⟨162, 0, 162, 14⟩) := by
  revert w
  refine byRowG "special-get-raises" fun v w => ?_
  obtain ⟨F, fs, hk⟩ := cons_of (hk34 v g p b rest os w)
  have h1 := RT.ofQ (ha34 v g p b rest os w)
  rw [hk] at h1
  obtain ⟨o, pos', ok, h2⟩ := lp34_0 v g w p os ⟨162, 17, 162, 37⟩ F fs (!(w.params.followText "set-order"))
  have h3 := RT.ofQ (hb34 v g p b rest os w o pos')
  rw [hk] at h3
  exact ⟨o, ok, h1.trans (h2.trans h3)⟩
def e109 (P : Params) : DictEntry := zk P "__name__" 165 (zs "cpy313.tomllib._parser" 1831)
def e110 (P : Params) : DictEntry := zk P "MappingProxyType" 1830 (.type "mappingproxy")
def e111 (P : Params) : DictEntry := zk P "BASIC_STR_ESCAPE_REPLACEMENTS" 1854 (.ref 306)
def e112 (P : Params) : DictEntry := zk P "TOMLDecodeError" 1872 (.ref 316)
def o3v21 (P : Params) : Obj := zc "dict" (.dict #[(e109 P), (e0 P), (e1 P), (e2 P), (e3 P), (e4 P), (e5 P), (e6 P), (e7 P), (e8 P), (e9 P), (e10 P), (e11 P), (e12 P), (e13 P), (e14 P), (e15 P), (e51 P), (e52 P), (e53 P), (e62 P), (e63 P), (e64 P), (e65 P), (e66 P), (e67 P), (e68 P), (e86 P), (e87 P), (e88 P), (e90 P), (e91 P), (e92 P), (e94 P), (e95 P), (e96 P), (e97 P), (e98 P), (e99 P), (e100 P), (e101 P), (e102 P), (e103 P), (e104 P), (e105 P), (e106 P), (e107 P), (e108 P), (e110 P), (e111 P), (e112 P)] 51)
def o64v7 : Obj := z0 (.fields #[(zi 5 0), (zi 0 0), (.ref 72), (zi 8 0), (zi 0 0), (.ref 79), (zi 18 0), (zi 0 0), (.ref 123), (zi 35 0), (zi 0 0), (.ref 133), (zi 80 0), (zi 0 0), (.ref 140), (zi 116 0), (zi 0 0), (.ref 208), (zi 135 0), (zi 0 0), (.ref 226), (zi 138 0), (zi 0 0), (.ref 251), (zi 142 0), (zi 0 0), (.ref 258), (zi 148 0), (zi 23 0), (.ref 264), (zi 167 0), (zi 0 0), (.ref 312)])
def o304 : Obj := zc "mappingproxy" (.fields #[(.ref 97)])
def o305 (P : Params) : Obj := zc "dict" (.dict #[(de P (Str.mk #[92, 98]) 1833 (zs "\x08" 1834)), (de P (Str.mk #[92, 116]) 1835 (zs "\x09" 1836)), (de P (Str.mk #[92, 110]) 1837 (zs "\x0a" 1838)), (de P (Str.mk #[92, 102]) 1839 (zs "\x0c" 1840)), (de P (Str.mk #[92, 114]) 1841 (zs "\x0d" 1842)), (de P (Str.mk #[92, 34]) 1843 (zs "\x22" 1844)), (de P (Str.mk #[92, 92]) 1845 (zs "\x5c" 1846))] 7)
def o306 : Obj := zc "mappingproxy" (.fields #[(.ref 305)])
def o307 : Obj := zc "tuple" (.seq #[(.type "ValueError")] 0)
def e113 (P : Params) : DictEntry := zk P "__module__" 1862 (zs "cpy313.tomllib._parser" 1831)
def e114 (P : Params) : DictEntry := zk P "__firstlineno__" 1866 (.int (167) 1865)
def e115 (P : Params) : DictEntry := zk P "__static_attributes__" 1867 (.ref 314)
def o309 (P : Params) : Obj := zc "dict" (.dict #[(e113 P), (zk P "__qualname__" 1864 (zs "TOMLDecodeError" 1863)), (e114 P), (e115 P)] 4)
def o312 : Obj := zc "code" (.fields #[(zs "TOMLDecodeError" 1857), (zs "TOMLDecodeError" 1858), (zs "/claim/cut.py" 1859), (zi 167 0), (zi 0 0), (zi 0 0), (zi 0 0), (zi 0 0), (.ref 310), (.bool false), (zi 482 0), (.ref 311), .none, .none, .none, .none, (zi 1860 0), (zi 167 0), (zs "/claim/cut.py" 1861)])
noncomputable def o313 : Obj := ⟨(.type "frame"), none, .plain, #[(some (.ref 312)), (some (.ref 3)), (some (.ref 309)), none, (some (.str (S "cpy313.tomllib._parser") 1831)), none, (some (.ref 0))]⟩
def o315 (P : Params) : Obj := zc "dict" (.dict #[(e113 P), (e114 P), (e115 P), (zk P "__weakref__" 1869 (.ref 317)), (zk P "__doc__" 1870 .none)] 3)
noncomputable def o316 : Obj := ⟨(.type "type"), none, (.cls ⟨(S "TOMLDecodeError"), [(.type "ValueError")], [(.ref 316), (.type "ValueError"), (.type "Exception"), (.type "BaseException"), (.type "object")], 315, (S "TOMLDecodeError"), true, [], [], false, none, false⟩), #[(some (.ref 307)), none, (some (.str (S "TOMLDecodeError") 1855)), (some (.str (S "TOMLDecodeError") 1863)), (some (.builtin "ValueError.__new__")), (some (.bool true))]⟩
def o317 : Obj := zc "getset_descriptor" (.fields #[(zs "__weakref__" 1868), (.ref 316), (.builtin "ExceptionGroup.__weakref__"), .none])
def o318 : Obj := zc "super" (.fields #[(.ref 316), (.ref 316), (.ref 316)])
def o319 : Obj := zc "builtin_function_or_method" (.fields #[(.builtin "object.__init_subclass__"), (.ref 316)])
def T40 (g : GG) (P : Params) : BT := up (T34L0 g P) [(3, o3v21 P), (64, o64v7), (301, o301v1), (302, o7), (303, o303), (304, o304), (305, o305 P), (306, o306), (307, o307), (308, o75), (309, o309 P), (310, o7), (311, o8), (312, o312), (313, o313), (314, o7), (315, o315 P), (316, o316), (317, o317), (318, o318), (319, o319)]
def S40 (g : Nat → SC) (w : World) (os : OsState) : SharedT := mk (T40 g w.params) 320 1873 #[.finished] os
theorem pc35 (g : Nat → SC) (p : Program) (b rest : List Stmt) (os : OsState) (w : World) : RT p w (S35 g w os) (restQ (st 39 :: st 40 :: st 41 :: st 42 :: st 43 :: rest) env0 (.body b env0) ⟨162, 0, 162, 14⟩) (S40 g w os) (restQ rest env0 (.body b env0) ⟨167, 0, 168, 8⟩) := by
  revert w
  refine byRowG "special-get-raises" fun v w => ?_
  cases v
  · exact RT.ofQ (n := 376) (by kernel_rfl)
  · exact RT.ofQ (n := 376) (by kernel_rfl)
def e116 (P : Params) : DictEntry := zk P "Flags" 1956 (.ref 371)
def o3v22 (P : Params) : Obj := zc "dict" (.dict #[(e109 P), (e0 P), (e1 P), (e2 P), (e3 P), (e4 P), (e5 P), (e6 P), (e7 P), (e8 P), (e9 P), (e10 P), (e11 P), (e12 P), (e13 P), (e14 P), (e15 P), (e51 P), (e52 P), (e53 P), (e62 P), (e63 P), (e64 P), (e65 P), (e66 P), (e67 P), (e68 P), (e86 P), (e87 P), (e88 P), (e90 P), (e91 P), (e92 P), (e94 P), (e95 P), (e96 P), (e97 P), (e98 P), (e99 P), (e100 P), (e101 P), (e102 P), (e103 P), (e104 P), (e105 P), (e106 P), (e107 P), (e108 P), (e110 P), (e111 P), (e112 P), (e116 P)] 52)
def o64v8 : Obj := z0 (.fields #[(zi 5 0), (zi 0 0), (.ref 72), (zi 8 0), (zi 0 0), (.ref 79), (zi 18 0), (zi 0 0), (.ref 123), (zi 35 0), (zi 0 0), (.ref 133), (zi 80 0), (zi 0 0), (.ref 140), (zi 116 0), (zi 0 0), (.ref 208), (zi 135 0), (zi 0 0), (.ref 226), (zi 138 0), (zi 0 0), (.ref 251), (zi 142 0), (zi 0 0), (.ref 258), (zi 148 0), (zi 23 0), (.ref 264), (zi 167 0), (zi 0 0), (.ref 312), (zi 169 0), (zi 0 0), (.ref 325)])
def e117 (P : Params) : DictEntry := zk P "__module__" 1880 (zs "cpy313.tomllib._parser" 1831)
def e118 (P : Params) : DictEntry := zk P "__firstlineno__" 1884 (.int (169) 1883)
def e119 (P : Params) : DictEntry := zk P "FROZEN" 1886 (.int (0) 1885)
def e120 (P : Params) : DictEntry := zk P "EXPLICIT_NEST" 1888 (.int (1) 1887)
def e121 (P : Params) : DictEntry := zk P "__init__" 1895 (.ref 333)
def e122 (P : Params) : DictEntry := zk P "add_pending" 1904 (.ref 340)
def e123 (P : Params) : DictEntry := zk P "finalize_pending" 1911 (.ref 347)
def e124 (P : Params) : DictEntry := zk P "unset_all" 1919 (.ref 354)
def e125 (P : Params) : DictEntry := zk P "set" 1933 (.ref 361)
def e126 (P : Params) : DictEntry := zk P "is_" 1946 (.ref 368)
def e127 (P : Params) : DictEntry := zk P "__static_attributes__" 1949 (.ref 369)
def o322 (P : Params) : Obj := zc "dict" (.dict #[(e117 P), (zk P "__qualname__" 1882 (zs "Flags" 1881)), (e118 P), (e119 P), (e120 P), (e121 P), (e122 P), (e123 P), (e124 P), (e125 P), (e126 P), (e127 P)] 12)
def o324 : Obj := z0 (.fields #[(zi 173 0), (zi 4 0), (.ref 332), (zi 177 0), (zi 4 0), (.ref 339), (zi 180 0), (zi 4 0), (.ref 346), (zi 183 0), (zi 4 0), (.ref 353), (zi 186 0), (zi 4 0), (.ref 360), (zi 197 0), (zi 4 0), (.ref 367)])
def o325 : Obj := zc "code" (.fields #[(zs "Flags" 1875), (zs "Flags" 1876), (zs "/claim/cut.py" 1877), (zi 169 0), (zi 0 0), (zi 0 0), (zi 0 0), (zi 0 0), (.ref 323), (.bool false), (zi 482 0), (.ref 324), .none, .none, .none, .none, (zi 1878 0), (zi 169 0), (zs "/claim/cut.py" 1879)])
noncomputable def o326 : Obj := ⟨(.type "frame"), none, .plain, #[(some (.ref 325)), (some (.ref 3)), (some (.ref 322)), none, (some (.str (S "cpy313.tomllib._parser") 1831)), none, (some (.ref 0))]⟩
def o329 : Obj := zc "tuple" (.seq #[(zs "self" 1892)] 0)
def o331 : Obj := z0 (.func (fd (S "__init__") (S "Flags.__init__") (defR (nthR (bodyR (st 44)) 2)) 0 [] .none .none .none .none none .none .none 0))
def o332 : Obj := zc "code" (.fields #[(zs "__init__" 1889), (zs "Flags.__init__" 1890), (zs "/claim/cut.py" 1891), (zi 173 0), (zi 1 0), (zi 0 0), (zi 0 0), (zi 3 0), (.ref 327), (.bool true), (zi 482 0), (.ref 328), .none, (.ref 329), (.ref 330), (.ref 331), (zi 1893 0), (zi 173 0), (zs "/claim/cut.py" 1894)])
def o333 : Obj := zc "function" (.func (fd (S "__init__") (S "Flags.__init__") (defR (nthR (bodyR (st 44)) 2)) 3 [] .none .none .none (zs "cpy313.tomllib._parser" 1831) none (.ref 332) .none 0))
def o336 : Obj := zc "tuple" (.seq #[(zs "self" 1899), (zs "key" 1900), (zs "flag" 1901)] 0)
def o338 : Obj := z0 (.func (fd (S "add_pending") (S "Flags.add_pending") (defR (nthR (bodyR (st 44)) 3)) 0 [] .none .none .none .none none .none .none 0))
def o339 : Obj := zc "code" (.fields #[(zs "add_pending" 1896), (zs "Flags.add_pending" 1897), (zs "/claim/cut.py" 1898), (zi 177 0), (zi 3 0), (zi 0 0), (zi 0 0), (zi 3 0), (.ref 334), (.bool true), (zi 482 0), (.ref 335), .none, (.ref 336), (.ref 337), (.ref 338), (zi 1902 0), (zi 177 0), (zs "/claim/cut.py" 1903)])
def o340 : Obj := zc "function" (.func (fd (S "add_pending") (S "Flags.add_pending") (defR (nthR (bodyR (st 44)) 3)) 3 [] .none .none .none (zs "cpy313.tomllib._parser" 1831) none (.ref 339) .none 0))
def o343 : Obj := zc "tuple" (.seq #[(zs "self" 1908)] 0)
def o345 : Obj := z0 (.func (fd (S "finalize_pending") (S "Flags.finalize_pending") (defR (nthR (bodyR (st 44)) 4)) 0 [] .none .none .none .none none .none .none 0))
def o346 : Obj := zc "code" (.fields #[(zs "finalize_pending" 1905), (zs "Flags.finalize_pending" 1906), (zs "/claim/cut.py" 1907), (zi 180 0), (zi 1 0), (zi 0 0), (zi 0 0), (zi 3 0), (.ref 341), (.bool true), (zi 482 0), (.ref 342), .none, (.ref 343), (.ref 344), (.ref 345), (zi 1909 0), (zi 180 0), (zs "/claim/cut.py" 1910)])
def o347 : Obj := zc "function" (.func (fd (S "finalize_pending") (S "Flags.finalize_pending") (defR (nthR (bodyR (st 44)) 4)) 3 [] .none .none .none (zs "cpy313.tomllib._parser" 1831) none (.ref 346) .none 0))
def o350 : Obj := zc "tuple" (.seq #[(zs "self" 1915), (zs "key" 1916)] 0)
def o352 : Obj := z0 (.func (fd (S "unset_all") (S "Flags.unset_all") (defR (nthR (bodyR (st 44)) 5)) 0 [] .none .none .none .none none .none .none 0))
def o353 : Obj := zc "code" (.fields #[(zs "unset_all" 1912), (zs "Flags.unset_all" 1913), (zs "/claim/cut.py" 1914), (zi 183 0), (zi 2 0), (zi 0 0), (zi 0 0), (zi 3 0), (.ref 348), (.bool true), (zi 482 0), (.ref 349), .none, (.ref 350), (.ref 351), (.ref 352), (zi 1917 0), (zi 183 0), (zs "/claim/cut.py" 1918)])
def o354 : Obj := zc "function" (.func (fd (S "unset_all") (S "Flags.unset_all") (defR (nthR (bodyR (st 44)) 5)) 3 [] .none .none .none (zs "cpy313.tomllib._parser" 1831) none (.ref 353) .none 0))
def o357 : Obj := zc "tuple" (.seq #[(zs "self" 1923), (zs "key" 1924), (zs "flag" 1925), (zs "recursive" 1926), (zs "cont" 1927), (zs "key_parent" 1928), (zs "key_stem" 1929), (zs "k" 1930)] 0)
def o359 : Obj := z0 (.func (fd (S "set") (S "Flags.set") (defR (nthR (bodyR (st 44)) 6)) 0 [] .none .none .none .none none .none .none 0))
def o360 : Obj := zc "code" (.fields #[(zs "set" 1920), (zs "Flags.set" 1921), (zs "/claim/cut.py" 1922), (zi 186 0), (zi 3 0), (zi 0 0), (zi 1 0), (zi 3 0), (.ref 355), (.bool true), (zi 482 0), (.ref 356), .none, (.ref 357), (.ref 358), (.ref 359), (zi 1931 0), (zi 186 0), (zs "/claim/cut.py" 1932)])
def o361 : Obj := zc "function" (.func (fd (S "set") (S "Flags.set") (defR (nthR (bodyR (st 44)) 6)) 3 [] .none .none .none (zs "cpy313.tomllib._parser" 1831) none (.ref 360) .none 0))
def o364 : Obj := zc "tuple" (.seq #[(zs "self" 1937), (zs "key" 1938), (zs "flag" 1939), (zs "cont" 1940), (zs "k" 1941), (zs "inner_cont" 1942), (zs "key_stem" 1943)] 0)
def o366 : Obj := z0 (.func (fd (S "is_") (S "Flags.is_") (defR (nthR (bodyR (st 44)) 7)) 0 [] .none .none .none .none none .none .none 0))
def o367 : Obj := zc "code" (.fields #[(zs "is_" 1934), (zs "Flags.is_" 1935), (zs "/claim/cut.py" 1936), (zi 197 0), (zi 3 0), (zi 0 0), (zi 0 0), (zi 3 0), (.ref 362), (.bool true), (zi 482 0), (.ref 363), .none, (.ref 364), (.ref 365), (.ref 366), (zi 1944 0), (zi 197 0), (zs "/claim/cut.py" 1945)])
def o368 : Obj := zc "function" (.func (fd (S "is_") (S "Flags.is_") (defR (nthR (bodyR (st 44)) 7)) 3 [] .none .none .none (zs "cpy313.tomllib._parser" 1831) none (.ref 367) .none 0))
def o369 : Obj := zc "tuple" (.seq #[(zs "_flags" 1947), (zs "_pending_flags" 1948)] 0)
def o370 (P : Params) : Obj := zc "dict" (.dict #[(e117 P), (e118 P), (e119 P), (e120 P), (e121 P), (e122 P), (e123 P), (e124 P), (e125 P), (e126 P), (e127 P), (zk P "__dict__" 1951 (.ref 372)), (zk P "__weakref__" 1953 (.ref 373)), (zk P "__doc__" 1954 .none)] 4)
noncomputable def o371 : Obj := ⟨(.type "type"), none, (.cls ⟨(S "Flags"), [(.type "object")], [(.ref 371), (.type "object")], 370, (S "Flags"), true, [], [], false, none, false⟩), #[none, none, (some (.str (S "Flags") 1873)), (some (.str (S "Flags") 1881)), (some (.builtin "object.__new__")), (some (.bool true))]⟩
def o372 : Obj := zc "getset_descriptor" (.fields #[(zs "__dict__" 1950), (.ref 371), (.builtin "function.__dict__"), (.builtin "function.__dict__#set")])
def o373 : Obj := zc "getset_descriptor" (.fields #[(zs "__weakref__" 1952), (.ref 371), (.builtin "ExceptionGroup.__weakref__"), .none])
def o374 : Obj := zc "super" (.fields #[(.ref 371), (.ref 371), (.ref 371)])
def o375 : Obj := zc "builtin_function_or_method" (.fields #[(.builtin "object.__init_subclass__"), (.ref 371)])
def T41 (g : GG) (P : Params) : BT := up (T34L0 g P) [(3, o3v22 P), (64, o64v8), (301, o301v1), (302, o7), (303, o303), (304, o304), (305, o305 P), (306, o306), (307, o307), (308, o75), (309, o309 P), (310, o7), (311, o8), (312, o312), (313, o313), (314, o7), (315, o315 P), (316, o316), (317, o317), (318, o318), (319, o319), (320, o7), (321, o75), (322, o322 P), (323, o7), (324, o324), (325, o325), (326, o326), (327, o7), (328, o8), (329, o329), (330, o7), (331, o331), (332, o332), (333, o333), (334, o7), (335, o8), (336, o336), (337, o7), (338, o338), (339, o339), (340, o340), (341, o7), (342, o8), (343, o343), (344, o7), (345, o345), (346, o346), (347, o347), (348, o7), (349, o8), (350, o350), (351, o7), (352, o352), (353, o353), (354, o354), (355, o7), (356, o8), (357, o357), (358, o7), (359, o359), (360, o360), (361, o361), (362, o7), (363, o8), (364, o364), (365, o7), (366, o366), (367, o367), (368, o368), (369, o369), (370, o370 P), (371, o371), (372, o372), (373, o373), (374, o374), (375, o375)]
def S41 (g : Nat → SC) (w : World) (os : OsState) : SharedT := mk (T41 g w.params) 376 1957 #[.finished] os
theorem pc40 (g : Nat → SC) (p : Program) (b rest : List Stmt) (os : OsState) (w : World) : RT p w (S40 g w os) (restQ (st 44 :: rest) env0 (.body b env0) ⟨167, 0, 168, 8⟩) (S41 g w os) (restQ rest env0 (.body b env0) ⟨169, 0, 212, 20⟩) := by
  exact RT.ofQ (n := 413) (by kernel_rfl)
def e128 (P : Params) : DictEntry := zk P "NestedDict" 2004 (.ref 407)
def e129 (P : Params) : DictEntry := zk P "skip_chars" 2013 (.ref 418)
def e130 (P : Params) : DictEntry := zk P "skip_until" 2025 (.ref 425)
def e131 (P : Params) : DictEntry := zk P "skip_comment" 2034 (.ref 432)
def e132 (P : Params) : DictEntry := zk P "skip_comments_and_array_ws" 2043 (.ref 439)
def e133 (P : Params) : DictEntry := zk P "parse_key_value_pair" 2055 (.ref 446)
def e134 (P : Params) : DictEntry := zk P "parse_key" 2066 (.ref 453)
def e135 (P : Params) : DictEntry := zk P "parse_key_part" 2076 (.ref 460)
def e136 (P : Params) : DictEntry := zk P "parse_one_line_basic_str" 2084 (.ref 467)
def e137 (P : Params) : DictEntry := zk P "parse_array" 2096 (.ref 474)
def o3v23 (P : Params) : Obj := zc "dict" (.dict #[(e109 P), (e0 P), (e1 P), (e2 P), (e3 P), (e4 P), (e5 P), (e6 P), (e7 P), (e8 P), (e9 P), (e10 P), (e11 P), (e12 P), (e13 P), (e14 P), (e15 P), (e51 P), (e52 P), (e53 P), (e62 P), (e63 P), (e64 P), (e65 P), (e66 P), (e67 P), (e68 P), (e86 P), (e87 P), (e88 P), (e90 P), (e91 P), (e92 P), (e94 P), (e95 P), (e96 P), (e97 P), (e98 P), (e99 P), (e100 P), (e101 P), (e102 P), (e103 P), (e104 P), (e105 P), (e106 P), (e107 P), (e108 P), (e110 P), (e111 P), (e112 P), (e116 P), (e128 P), (e129 P), (e130 P), (e131 P), (e132 P), (e133 P), (e134 P), (e135 P), (e136 P), (e137 P)] 62)
def o64v9 : Obj := z0 (.fields #[(zi 5 0), (zi 0 0), (.ref 72), (zi 8 0), (zi 0 0), (.ref 79), (zi 18 0), (zi 0 0), (.ref 123), (zi 35 0), (zi 0 0), (.ref 133), (zi 80 0), (zi 0 0), (.ref 140), (zi 116 0), (zi 0 0), (.ref 208), (zi 135 0), (zi 0 0), (.ref 226), (zi 138 0), (zi 0 0), (.ref 251), (zi 142 0), (zi 0 0), (.ref 258), (zi 148 0), (zi 23 0), (.ref 264), (zi 167 0), (zi 0 0), (.ref 312), (zi 169 0), (zi 0 0), (.ref 325), (zi 213 0), (zi 0 0), (.ref 381), (zi 232 0), (zi 0 0), (.ref 417), (zi 239 0), (zi 0 0), (.ref 424), (zi 251 0), (zi 0 0), (.ref 431), (zi 259 0), (zi 0 0), (.ref 438), (zi 266 0), (zi 0 0), (.ref 445), (zi 278 0), (zi 0 0), (.ref 452), (zi 296 0), (zi 0 0), (.ref 459), (zi 310 0), (zi 0 0), (.ref 466), (zi 313 0), (zi 0 0), (.ref 473)])
def e138 (P : Params) : DictEntry := zk P "__module__" 1964 (zs "cpy313.tomllib._parser" 1831)
def e139 (P : Params) : DictEntry := zk P "__firstlineno__" 1968 (.int (213) 1967)
def e140 (P : Params) : DictEntry := zk P "__init__" 1975 (.ref 389)
def e141 (P : Params) : DictEntry := zk P "get_or_create_nest" 1987 (.ref 397)
def e142 (P : Params) : DictEntry := zk P "append_nest_to_list" 1995 (.ref 404)
def e143 (P : Params) : DictEntry := zk P "__static_attributes__" 1997 (.ref 405)
def o378 (P : Params) : Obj := zc "dict" (.dict #[(e138 P), (zk P "__qualname__" 1966 (zs "NestedDict" 1965)), (e139 P), (e140 P), (e141 P), (e142 P), (e143 P)] 7)
def o380 : Obj := z0 (.fields #[(zi 215 0), (zi 4 0), (.ref 388), (zi 218 0), (zi 4 0), (.ref 396), (zi 230 0), (zi 4 0), (.ref 403)])
def o381 : Obj := zc "code" (.fields #[(zs "NestedDict" 1959), (zs "NestedDict" 1960), (zs "/claim/cut.py" 1961), (zi 213 0), (zi 0 0), (zi 0 0), (zi 0 0), (zi 0 0), (.ref 379), (.bool false), (zi 482 0), (.ref 380), .none, .none, .none, .none, (zi 1962 0), (zi 213 0), (zs "/claim/cut.py" 1963)])
noncomputable def o382 : Obj := ⟨(.type "frame"), none, .plain, #[(some (.ref 381)), (some (.ref 3)), (some (.ref 378)), none, (some (.str (S "cpy313.tomllib._parser") 1831)), none, (some (.ref 0))]⟩
def o385 : Obj := zc "tuple" (.seq #[(zs "self" 1972)] 0)
def o387 : Obj := z0 (.func (fd (S "__init__") (S "NestedDict.__init__") (defR (nthR (bodyR (st 45)) 0)) 0 [] .none .none .none .none none .none .none 0))
def o388 : Obj := zc "code" (.fields #[(zs "__init__" 1969), (zs "NestedDict.__init__" 1970), (zs "/claim/cut.py" 1971), (zi 215 0), (zi 1 0), (zi 0 0), (zi 0 0), (zi 3 0), (.ref 383), (.bool true), (zi 482 0), (.ref 384), .none, (.ref 385), (.ref 386), (.ref 387), (zi 1973 0), (zi 215 0), (zs "/claim/cut.py" 1974)])
def o389 : Obj := zc "function" (.func (fd (S "__init__") (S "NestedDict.__init__") (defR (nthR (bodyR (st 45)) 0)) 3 [] .none .none .none (zs "cpy313.tomllib._parser" 1831) none (.ref 388) .none 0))
def o390 (P : Params) : Obj := zc "dict" (.dict #[(zk P "access_lists" 1976 (.bool true))] 1)
def o393 : Obj := zc "tuple" (.seq #[(zs "self" 1980), (zs "key" 1981), (zs "access_lists" 1982), (zs "cont" 1983), (zs "k" 1984)] 0)
def o395 : Obj := z0 (.func (fd (S "get_or_create_nest") (S "NestedDict.get_or_create_nest") (defR (nthR (bodyR (st 45)) 1)) 0 [] .none .none .none .none none .none .none 0))
def o396 : Obj := zc "code" (.fields #[(zs "get_or_create_nest" 1977), (zs "NestedDict.get_or_create_nest" 1978), (zs "/claim/cut.py" 1979), (zi 218 0), (zi 2 0), (zi 0 0), (zi 1 0), (zi 3 0), (.ref 391), (.bool true), (zi 482 0), (.ref 392), .none, (.ref 393), (.ref 394), (.ref 395), (zi 1985 0), (zi 218 0), (zs "/claim/cut.py" 1986)])
def o397 : Obj := zc "function" (.func (fd (S "get_or_create_nest") (S "NestedDict.get_or_create_nest") (defR (nthR (bodyR (st 45)) 1)) 3 [] .none (.ref 390) .none (zs "cpy313.tomllib._parser" 1831) none (.ref 396) .none 0))
def o400 : Obj := zc "tuple" (.seq #[(zs "self" 1991), (zs "key" 1992)] 0)
def o402 : Obj := z0 (.func (fd (S "append_nest_to_list") (S "NestedDict.append_nest_to_list") (defR (nthR (bodyR (st 45)) 2)) 0 [] .none .none .none .none none .none .none 0))
def o403 : Obj := zc "code" (.fields #[(zs "append_nest_to_list" 1988), (zs "NestedDict.append_nest_to_list" 1989), (zs "/claim/cut.py" 1990), (zi 230 0), (zi 2 0), (zi 0 0), (zi 0 0), (zi 3 0), (.ref 398), (.bool true), (zi 482 0), (.ref 399), .none, (.ref 400), (.ref 401), (.ref 402), (zi 1993 0), (zi 230 0), (zs "/claim/cut.py" 1994)])
def o404 : Obj := zc "function" (.func (fd (S "append_nest_to_list") (S "NestedDict.append_nest_to_list") (defR (nthR (bodyR (st 45)) 2)) 3 [] .none .none .none (zs "cpy313.tomllib._parser" 1831) none (.ref 403) .none 0))
def o405 : Obj := zc "tuple" (.seq #[(zs "dict" 1996)] 0)
def o406 (P : Params) : Obj := zc "dict" (.dict #[(e138 P), (e139 P), (e140 P), (e141 P), (e142 P), (e143 P), (zk P "__dict__" 1999 (.ref 408)), (zk P "__weakref__" 2001 (.ref 409)), (zk P "__doc__" 2002 .none)] 4)
noncomputable def o407 : Obj := ⟨(.type "type"), none, (.cls ⟨(S "NestedDict"), [(.type "object")], [(.ref 407), (.type "object")], 406, (S "NestedDict"), true, [], [], false, none, false⟩), #[none, none, (some (.str (S "NestedDict") 1957)), (some (.str (S "NestedDict") 1965)), (some (.builtin "object.__new__")), (some (.bool true))]⟩
def o408 : Obj := zc "getset_descriptor" (.fields #[(zs "__dict__" 1998), (.ref 407), (.builtin "function.__dict__"), (.builtin "function.__dict__#set")])
def o409 : Obj := zc "getset_descriptor" (.fields #[(zs "__weakref__" 2000), (.ref 407), (.builtin "ExceptionGroup.__weakref__"), .none])
def o410 : Obj := zc "super" (.fields #[(.ref 407), (.ref 407), (.ref 407)])
def o411 : Obj := zc "builtin_function_or_method" (.fields #[(.builtin "object.__init_subclass__"), (.ref 407)])
def o414 : Obj := zc "tuple" (.seq #[(zs "src" 2008), (zs "pos" 2009), (zs "chars" 2010)] 0)
def o416 : Obj := z0 (.func (fd (S "skip_chars") (S "skip_chars") (defR (st 46)) 0 [] .none .none .none .none none .none .none 0))
def o417 : Obj := zc "code" (.fields #[(zs "skip_chars" 2005), (zs "skip_chars" 2006), (zs "/claim/cut.py" 2007), (zi 232 0), (zi 3 0), (zi 0 0), (zi 0 0), (zi 3 0), (.ref 412), (.bool true), (zi 482 0), (.ref 413), .none, (.ref 414), (.ref 415), (.ref 416), (zi 2011 0), (zi 232 0), (zs "/claim/cut.py" 2012)])
def o418 : Obj := zc "function" (.func (fd (S "skip_chars") (S "skip_chars") (defR (st 46)) 3 [] .none .none .none (zs "cpy313.tomllib._parser" 1831) none (.ref 417) .none 0))
def o421 : Obj := zc "tuple" (.seq #[(zs "src" 2017), (zs "pos" 2018), (zs "expect" 2019), (zs "error_on" 2020), (zs "error_on_eof" 2021), (zs "new_pos" 2022)] 0)
def o423 : Obj := z0 (.func (fd (S "skip_until") (S "skip_until") (defR (st 47)) 0 [] .none .none .none .none none .none .none 0))
def o424 : Obj := zc "code" (.fields #[(zs "skip_until" 2014), (zs "skip_until" 2015), (zs "/claim/cut.py" 2016), (zi 239 0), (zi 3 0), (zi 0 0), (zi 2 0), (zi 3 0), (.ref 419), (.bool true), (zi 482 0), (.ref 420), .none, (.ref 421), (.ref 422), (.ref 423), (zi 2023 0), (zi 239 0), (zs "/claim/cut.py" 2024)])
def o425 : Obj := zc "function" (.func (fd (S "skip_until") (S "skip_until") (defR (st 47)) 3 [] .none .none .none (zs "cpy313.tomllib._parser" 1831) none (.ref 424) .none 0))
def o428 : Obj := zc "tuple" (.seq #[(zs "src" 2029), (zs "pos" 2030), (zs "char" 2031)] 0)
def o430 : Obj := z0 (.func (fd (S "skip_comment") (S "skip_comment") (defR (st 48)) 0 [] .none .none .none .none none .none .none 0))
def o431 : Obj := zc "code" (.fields #[(zs "skip_comment" 2026), (zs "skip_comment" 2027), (zs "/claim/cut.py" 2028), (zi 251 0), (zi 2 0), (zi 0 0), (zi 0 0), (zi 3 0), (.ref 426), (.bool true), (zi 482 0), (.ref 427), .none, (.ref 428), (.ref 429), (.ref 430), (zi 2032 0), (zi 251 0), (zs "/claim/cut.py" 2033)])
def o432 : Obj := zc "function" (.func (fd (S "skip_comment") (S "skip_comment") (defR (st 48)) 3 [] .none .none .none (zs "cpy313.tomllib._parser" 1831) none (.ref 431) .none 0))
def o435 : Obj := zc "tuple" (.seq #[(zs "src" 2038), (zs "pos" 2039), (zs "pos_before_skip" 2040)] 0)
def o437 : Obj := z0 (.func (fd (S "skip_comments_and_array_ws") (S "skip_comments_and_array_ws") (defR (st 49)) 0 [] .none .none .none .none none .none .none 0))
def o438 : Obj := zc "code" (.fields #[(zs "skip_comments_and_array_ws" 2035), (zs "skip_comments_and_array_ws" 2036), (zs "/claim/cut.py" 2037), (zi 259 0), (zi 2 0), (zi 0 0), (zi 0 0), (zi 3 0), (.ref 433), (.bool true), (zi 482 0), (.ref 434), .none, (.ref 435), (.ref 436), (.ref 437), (zi 2041 0), (zi 259 0), (zs "/claim/cut.py" 2042)])
def o439 : Obj := zc "function" (.func (fd (S "skip_comments_and_array_ws") (S "skip_comments_and_array_ws") (defR (st 49)) 3 [] .none .none .none (zs "cpy313.tomllib._parser" 1831) none (.ref 438) .none 0))
def o442 : Obj := zc "tuple" (.seq #[(zs "src" 2047), (zs "pos" 2048), (zs "parse_float" 2049), (zs "key" 2050), (zs "char" 2051), (zs "value" 2052)] 0)
def o444 : Obj := z0 (.func (fd (S "parse_key_value_pair") (S "parse_key_value_pair") (defR (st 50)) 0 [] .none .none .none .none none .none .none 0))
def o445 : Obj := zc "code" (.fields #[(zs "parse_key_value_pair" 2044), (zs "parse_key_value_pair" 2045), (zs "/claim/cut.py" 2046), (zi 266 0), (zi 3 0), (zi 0 0), (zi 0 0), (zi 3 0), (.ref 440), (.bool true), (zi 482 0), (.ref 441), .none, (.ref 442), (.ref 443), (.ref 444), (zi 2053 0), (zi 266 0), (zs "/claim/cut.py" 2054)])
def o446 : Obj := zc "function" (.func (fd (S "parse_key_value_pair") (S "parse_key_value_pair") (defR (st 50)) 3 [] .none .none .none (zs "cpy313.tomllib._parser" 1831) none (.ref 445) .none 0))
def o449 : Obj := zc "tuple" (.seq #[(zs "src" 2059), (zs "pos" 2060), (zs "key_part" 2061), (zs "key" 2062), (zs "char" 2063)] 0)
def o451 : Obj := z0 (.func (fd (S "parse_key") (S "parse_key") (defR (st 51)) 0 [] .none .none .none .none none .none .none 0))
def o452 : Obj := zc "code" (.fields #[(zs "parse_key" 2056), (zs "parse_key" 2057), (zs "/claim/cut.py" 2058), (zi 278 0), (zi 2 0), (zi 0 0), (zi 0 0), (zi 3 0), (.ref 447), (.bool true), (zi 482 0), (.ref 448), .none, (.ref 449), (.ref 450), (.ref 451), (zi 2064 0), (zi 278 0), (zs "/claim/cut.py" 2065)])
def o453 : Obj := zc "function" (.func (fd (S "parse_key") (S "parse_key") (defR (st 51)) 3 [] .none .none .none (zs "cpy313.tomllib._parser" 1831) none (.ref 452) .none 0))
def o456 : Obj := zc "tuple" (.seq #[(zs "src" 2070), (zs "pos" 2071), (zs "char" 2072), (zs "start_pos" 2073)] 0)
def o458 : Obj := z0 (.func (fd (S "parse_key_part") (S "parse_key_part") (defR (st 52)) 0 [] .none .none .none .none none .none .none 0))
def o459 : Obj := zc "code" (.fields #[(zs "parse_key_part" 2067), (zs "parse_key_part" 2068), (zs "/claim/cut.py" 2069), (zi 296 0), (zi 2 0), (zi 0 0), (zi 0 0), (zi 3 0), (.ref 454), (.bool true), (zi 482 0), (.ref 455), .none, (.ref 456), (.ref 457), (.ref 458), (zi 2074 0), (zi 296 0), (zs "/claim/cut.py" 2075)])
def o460 : Obj := zc "function" (.func (fd (S "parse_key_part") (S "parse_key_part") (defR (st 52)) 3 [] .none .none .none (zs "cpy313.tomllib._parser" 1831) none (.ref 459) .none 0))
def o463 : Obj := zc "tuple" (.seq #[(zs "src" 2080), (zs "pos" 2081)] 0)
def o465 : Obj := z0 (.func (fd (S "parse_one_line_basic_str") (S "parse_one_line_basic_str") (defR (st 53)) 0 [] .none .none .none .none none .none .none 0))
def o466 : Obj := zc "code" (.fields #[(zs "parse_one_line_basic_str" 2077), (zs "parse_one_line_basic_str" 2078), (zs "/claim/cut.py" 2079), (zi 310 0), (zi 2 0), (zi 0 0), (zi 0 0), (zi 3 0), (.ref 461), (.bool true), (zi 482 0), (.ref 462), .none, (.ref 463), (.ref 464), (.ref 465), (zi 2082 0), (zi 310 0), (zs "/claim/cut.py" 2083)])
def o467 : Obj := zc "function" (.func (fd (S "parse_one_line_basic_str") (S "parse_one_line_basic_str") (defR (st 53)) 3 [] .none .none .none (zs "cpy313.tomllib._parser" 1831) none (.ref 466) .none 0))
def o470 : Obj := zc "tuple" (.seq #[(zs "src" 2088), (zs "pos" 2089), (zs "parse_float" 2090), (zs "array" 2091), (zs "val" 2092), (zs "c" 2093)] 0)
def o472 : Obj := z0 (.func (fd (S "parse_array") (S "parse_array") (defR (st 54)) 0 [] .none .none .none .none none .none .none 0))
def o473 : Obj := zc "code" (.fields #[(zs "parse_array" 2085), (zs "parse_array" 2086), (zs "/claim/cut.py" 2087), (zi 313 0), (zi 3 0), (zi 0 0), (zi 0 0), (zi 3 0), (.ref 468), (.bool true), (zi 482 0), (.ref 469), .none, (.ref 470), (.ref 471), (.ref 472), (zi 2094 0), (zi 313 0), (zs "/claim/cut.py" 2095)])
def o474 : Obj := zc "function" (.func (fd (S "parse_array") (S "parse_array") (defR (st 54)) 3 [] .none .none .none (zs "cpy313.tomllib._parser" 1831) none (.ref 473) .none 0))
def T51 (g : GG) (P : Params) : BT := (.node (o0 P) (.node (o1 P) (.node (o3v23 P) (.node o7 (.node o7 (.node o19 (.node o7 (.node o127 (L o255) (L o7)) (.node o191 (L o319) (L o7))) (.node o95 (.node (o159 P) (L (so (g 287))) (L o7)) (.node o223 (L o7) .nil))) (.node o47 (.node o79 (.node o143 (L o271) (L o8)) (.node o207 (L o8) (L o463))) (.node o111 (.node o175 (L o303) (L o431)) (.node o239 (L o367) .nil)))) (.node o23 (.node o39 (.node o71 (.node o135 (L o8) (L o7)) (.node o199 (L o7) (L o8))) (.node o103 (.node o167 (L (so (g 295))) (L o423)) (.node o231 (L o359) .nil))) (.node o55 (.node o87 (.node o151 (L o7) (L o407)) (.node o215 (L o343) (L o7))) (.node o8 (.node o7 (L o8) (L o439)) (.node o8 (L o375) .nil))))) (.node (o11v1 P) (.node o19 (.node (o35v1 P) (.node o7 (.node o7 (L o259) (L o387)) (.node o7 (L o7) (L o451))) (.node o99 (.node o8 (L (so (g 291))) (L o7)) (.node o227 (L o7) .nil))) (.node o51 (.node o83 (.node o147 (L o275) (L o403)) (.node o211 (L o339) (L o467))) (.node o115 (.node o7 (L o307) (L o435)) (.node o7 (L o371) .nil)))) (.node o27 (.node (o43 P) (.node o75 (.node o139 (L (so (g 267))) (L o395)) (.node o7 (L o331) (L o459))) (.node o107 (.node o171 (L o299) (L o8)) (b4 g P))) (.node o59 (.node o91 (.node o7 (L o283v1) (L o411)) (.node o219 (L o347) .nil)) (.node o123 (.node o187 (L (o315 P)) (L o7)) (.node o251 (L o7) .nil)))))) (.node o5 (.node o9 (.node o17 (.node o33 (.node o65 (.node o8 (L o257) (L o385)) (.node o193 (L o75) (L o449))) (.node (o97 P) (.node o6 (L o7) (L o417)) (.node o225 (L o353) .nil))) (.node o49 (.node o7 (.node o7 (L o273v1) (L o7)) (.node o209 (L o7) (L o465))) (.node o113 (.node o8 (L (o305 P)) (L o7)) (.node (o241 P) (L o369) .nil)))) (.node o25 (.node o41 (.node o73 (.node (o137 P) (L (o265v1 P)) (L o393)) (.node o201 (L o329) (L o7))) (.node o105 (.node o7 (L o297v1) (L o425)) (.node o213 (L o361) .nil))) (.node o57 (.node o7 (.node o8 (L (so (g 281))) (L o409)) (.node o7 (L o345) (L o473))) (.node o7 (.node o185 (L o313) (L o8)) (.node o7 (L o75) .nil))))) (.node (o13 P) (.node (o21 P) (.node (o37 P) (.node o69 (.node o133 (L o261v1) (L o389)) (.node (o197 P) (L o325) (L o453))) (.node o101 (.node o7 (L o7) (L o421)) (.node o229 (L o357) .nil))) (.node (o53 P) (.node o85 (.node o149 (L (so (g 277))) (L o405)) (.node o213 (L o7) (L o8))) (.node o117 (.node o181 (L (o309 P)) (L o437)) (.node o6 (L o373) .nil)))) (.node (o29v1 P) (.node o45 (.node o7 (.node o141 (L o269) (L o397)) (.node o205 (L o333) (L o7))) (.node o6 (.node o173 (L o301v1) (L o7)) (b2 g P))) (.node (o61 P) (.node o93 (.node o157 (L o285) (L o8)) (b3 g P)) (.node o125 (.node o189 (L o317) (L o445)) (.node o7 (L o381) .nil))))))) (.node (o2 P) (.node o4 (.node o8 (.node o16 (.node (o32 P) (.node o64v9 (.node o7 (L o7) (L o8)) (.node o192 (L o7) (L o8))) (.node o96 (.node o160 (L o283v1) (L o416)) (.node o7 (L o352) .nil))) (.node (o48 P) (.node o80 (.node o6 (L (so (g 272))) (L o400)) (.node o208 (L o336) (L o7))) (.node o112 (.node o7 (L o304) (L o432)) (.node o240 (L o368) .nil)))) (.node o24 (.node o7 (.node o72 (.node o75 (L o264) (L o8)) (.node o200 (L o8) (L o456))) (.node (o104 P) (.node o168 (L (so (g 296))) (L o424)) (.node o232 (L o360) .nil))) (.node o56 (.node o88 (.node o7 (L o280) (L o408)) (.node o216 (L o7) (L o472))) (.node o120 (.node o8 (L o312) (L o7)) (.node o248 (L o7) .nil))))) (.node o12 (.node (o20 P) (.node o36 (.node o8 (.node o132 (L o260) (L o388)) (.node o19 (L o324) (L o452))) (.node o100 (.node o164 (L o273v1) (L o8)) (.node (o228 P) (L o8) .nil))) (.node o19 (.node o7 (.node o7 (L (so (g 276))) (L o404)) (.node o212 (L o340) (L o7))) (.node o116 (.node o180 (L o75) (L o7)) (.node o244 (L o372) .nil)))) (.node o28 (.node o44 (.node (o76 P) (.node o140 (L o7) (L o396)) (.node o204 (L o332) (L o460))) (.node o108 (.node o7 (L (so (g 300))) (L o428)) (.node o7 (L o364) .nil))) (.node o19 (.node o7 (.node o156 (L o7) (L o7)) (.node o220 (L o7) .nil)) (.node o124 (.node o188 (L o316) (L o444)) (.node o252 (L o380) .nil)))))) (.node o6 (.node o10 (.node o18 (.node o34 (.node o66 (.node o130 (L o258) (L o7)) (.node o194 (L (o322 P)) (L o7))) (.node o98 (.node o7 (L o290) (L o418)) (.node o226 (L o354) .nil))) (.node o50 (.node o8 (.node o8 (L o7) (L o402)) (.node (o210 P) (L o338) (L o466))) (.node o6 (.node o178 (L o306) (L o8)) (.node (o242 P) (L (o370 P)) .nil)))) (.node o26 (.node o42 (.node o7 (.node o7 (L o266) (L o7)) (.node o202 (L o7) (L o458))) (.node o106 (.node o8 (L o7) (L o7)) (.node o234 (L o7) .nil))) (.node (o58v1 P) (.node o8 (.node o154 (L (so (g 282))) (L o410)) (.node o218 (L o346) (L o474))) (.node o122 (.node o7 (L o7) (L o442)) (.node o250 (L (o378 P)) .nil))))) (.node o14 (.node o22 (.node (o38 P) (.node o7 (.node o134 (L o7) (L (o390 P))) (.node o198 (L o326) (L o7))) (.node o102 (.node o166 (L o294) (L o7)) (.node o230 (L o7) .nil))) (.node o54 (.node o86 (.node o150 (L o273v1) (L (o406 P))) (.node o214 (L o8) (L o470))) (.node o7 (.node o182 (L o7) (L o438)) (.node o7 (L o374) .nil)))) (.node o30 (.node o46 (.node o78 (b1 g P) (.node o206 (L o7) (L o8))) (.node o110 (.node o174 (L o7) (L o430)) (.node o238 (L o366) .nil))) (.node o62 (.node o94 (.node o158 (L (so (g 286))) (L o414)) (.node o8 (L o350) .nil)) (.node o126 (.node o190 (L o318) (L o446)) (.node o8 (L o382) .nil))))))))
def S51 (g : Nat → SC) (w : World) (os : OsState) : SharedT := mk (T51 g w.params) 475 2097 #[.finished] os
theorem pc41 (g : Nat → SC) (p : Program) (b rest : List Stmt) (os : OsState) (w : World) : RT p w (S41 g w os) (restQ (st 45 :: st 46 :: st 47 :: st 48 :: st 49 :: st 50 :: st 51 :: st 52 :: st 53 :: st 54 :: rest) env0 (.body b env0) ⟨169, 0, 212, 20⟩) (S51 g w os) (restQ rest env0 (.body b env0) ⟨313, 0, 331, 35⟩) := by
  exact RT.ofQ (n := 583) (by kernel_rfl)
def e144 (P : Params) : DictEntry := zk P "__name__" 165 (zs "law_kq0035_04" 2215)
def e145 (P : Params) : DictEntry := zk P "parse_inline_table" 2113 (.ref 481)
def e146 (P : Params) : DictEntry := zk P "parse_basic_str_escape" 2125 (.ref 489)
def e147 (P : Params) : DictEntry := zk P "parse_basic_str_escape_multiline" 2133 (.ref 496)
def e148 (P : Params) : DictEntry := zk P "parse_hex_char" 2144 (.ref 503)
def e149 (P : Params) : DictEntry := zk P "parse_literal_str" 2153 (.ref 510)
def e150 (P : Params) : DictEntry := zk P "parse_multiline_str" 2165 (.ref 517)
def e151 (P : Params) : DictEntry := zk P "parse_basic_str" 2180 (.ref 524)
def e152 (P : Params) : DictEntry := zk P "parse_value" 2197 (.ref 531)
def e153 (P : Params) : DictEntry := zk P "suffixed_err" 2207 (.ref 538)
def e154 (P : Params) : DictEntry := zk P "is_unicode_scalar_value" 2214 (.ref 545)
def o3v24 (P : Params) : Obj := zc "dict" (.dict #[(e144 P), (e0 P), (e1 P), (e2 P), (e3 P), (e4 P), (e5 P), (e6 P), (e7 P), (e8 P), (e9 P), (e10 P), (e11 P), (e12 P), (e13 P), (e14 P), (e15 P), (e51 P), (e52 P), (e53 P), (e62 P), (e63 P), (e64 P), (e65 P), (e66 P), (e67 P), (e68 P), (e86 P), (e87 P), (e88 P), (e90 P), (e91 P), (e92 P), (e94 P), (e95 P), (e96 P), (e97 P), (e98 P), (e99 P), (e100 P), (e101 P), (e102 P), (e103 P), (e104 P), (e105 P), (e106 P), (e107 P), (e108 P), (e110 P), (e111 P), (e112 P), (e116 P), (e128 P), (e129 P), (e130 P), (e131 P), (e132 P), (e133 P), (e134 P), (e135 P), (e136 P), (e137 P), (e145 P), (e146 P), (e147 P), (e148 P), (e149 P), (e150 P), (e151 P), (e152 P), (e153 P), (e154 P)] 72)
def o64v10 : Obj := z0 (.fields #[(zi 5 0), (zi 0 0), (.ref 72), (zi 8 0), (zi 0 0), (.ref 79), (zi 18 0), (zi 0 0), (.ref 123), (zi 35 0), (zi 0 0), (.ref 133), (zi 80 0), (zi 0 0), (.ref 140), (zi 116 0), (zi 0 0), (.ref 208), (zi 135 0), (zi 0 0), (.ref 226), (zi 138 0), (zi 0 0), (.ref 251), (zi 142 0), (zi 0 0), (.ref 258), (zi 148 0), (zi 23 0), (.ref 264), (zi 167 0), (zi 0 0), (.ref 312), (zi 169 0), (zi 0 0), (.ref 325), (zi 213 0), (zi 0 0), (.ref 381), (zi 232 0), (zi 0 0), (.ref 417), (zi 239 0), (zi 0 0), (.ref 424), (zi 251 0), (zi 0 0), (.ref 431), (zi 259 0), (zi 0 0), (.ref 438), (zi 266 0), (zi 0 0), (.ref 445), (zi 278 0), (zi 0 0), (.ref 452), (zi 296 0), (zi 0 0), (.ref 459), (zi 310 0), (zi 0 0), (.ref 466), (zi 313 0), (zi 0 0), (.ref 473), (zi 332 0), (zi 0 0), (.ref 480), (zi 361 0), (zi 0 0), (.ref 488), (zi 384 0), (zi 0 0), (.ref 495), (zi 386 0), (zi 0 0), (.ref 502), (zi 395 0), (zi 0 0), (.ref 509), (zi 400 0), (zi 0 0), (.ref 516), (zi 419 0), (zi 0 0), (.ref 523), (zi 449 0), (zi 0 0), (.ref 530), (zi 492 0), (zi 0 0), (.ref 537), (zi 504 0), (zi 0 0), (.ref 544)])
def o477 : Obj := zc "tuple" (.seq #[(zs "src" 2100), (zs "pos" 2101), (zs "parse_float" 2102), (zs "nested_dict" 2103), (zs "flags" 2104), (zs "key" 2105), (zs "value" 2106), (zs "key_parent" 2107), (zs "key_stem" 2108), (zs "nest" 2109), (zs "c" 2110)] 0)
def o479 : Obj := z0 (.func (fd (S "parse_inline_table") (S "parse_inline_table") (defR (st 55)) 0 [] .none .none .none .none none .none .none 0))
def o480 : Obj := zc "code" (.fields #[(zs "parse_inline_table" 2097), (zs "parse_inline_table" 2098), (zs "/claim/cut.py" 2099), (zi 332 0), (zi 3 0), (zi 0 0), (zi 0 0), (zi 3 0), (.ref 475), (.bool true), (zi 482 0), (.ref 476), .none, (.ref 477), (.ref 478), (.ref 479), (zi 2111 0), (zi 332 0), (zs "/claim/cut.py" 2112)])
def o481 : Obj := zc "function" (.func (fd (S "parse_inline_table") (S "parse_inline_table") (defR (st 55)) 3 [] .none .none .none (zs "cpy313.tomllib._parser" 1831) none (.ref 480) .none 0))
def o482 (P : Params) : Obj := zc "dict" (.dict #[(zk P "multiline" 2114 (.bool false))] 1)
def o485 : Obj := zc "tuple" (.seq #[(zs "src" 2118), (zs "pos" 2119), (zs "multiline" 2120), (zs "escape_id" 2121), (zs "char" 2122)] 0)
def o487 : Obj := z0 (.func (fd (S "parse_basic_str_escape") (S "parse_basic_str_escape") (defR (st 56)) 0 [] .none .none .none .none none .none .none 0))
def o488 : Obj := zc "code" (.fields #[(zs "parse_basic_str_escape" 2115), (zs "parse_basic_str_escape" 2116), (zs "/claim/cut.py" 2117), (zi 361 0), (zi 2 0), (zi 0 0), (zi 1 0), (zi 3 0), (.ref 483), (.bool true), (zi 482 0), (.ref 484), .none, (.ref 485), (.ref 486), (.ref 487), (zi 2123 0), (zi 361 0), (zs "/claim/cut.py" 2124)])
def o489 : Obj := zc "function" (.func (fd (S "parse_basic_str_escape") (S "parse_basic_str_escape") (defR (st 56)) 3 [] .none (.ref 482) .none (zs "cpy313.tomllib._parser" 1831) none (.ref 488) .none 0))
def o492 : Obj := zc "tuple" (.seq #[(zs "src" 2129), (zs "pos" 2130)] 0)
def o494 : Obj := z0 (.func (fd (S "parse_basic_str_escape_multiline") (S "parse_basic_str_escape_multiline") (defR (st 57)) 0 [] .none .none .none .none none .none .none 0))
def o495 : Obj := zc "code" (.fields #[(zs "parse_basic_str_escape_multiline" 2126), (zs "parse_basic_str_escape_multiline" 2127), (zs "/claim/cut.py" 2128), (zi 384 0), (zi 2 0), (zi 0 0), (zi 0 0), (zi 3 0), (.ref 490), (.bool true), (zi 482 0), (.ref 491), .none, (.ref 492), (.ref 493), (.ref 494), (zi 2131 0), (zi 384 0), (zs "/claim/cut.py" 2132)])
def o496 : Obj := zc "function" (.func (fd (S "parse_basic_str_escape_multiline") (S "parse_basic_str_escape_multiline") (defR (st 57)) 3 [] .none .none .none (zs "cpy313.tomllib._parser" 1831) none (.ref 495) .none 0))
def o499 : Obj := zc "tuple" (.seq #[(zs "src" 2137), (zs "pos" 2138), (zs "hex_len" 2139), (zs "hex_str" 2140), (zs "hex_int" 2141)] 0)
def o501 : Obj := z0 (.func (fd (S "parse_hex_char") (S "parse_hex_char") (defR (st 58)) 0 [] .none .none .none .none none .none .none 0))
def o502 : Obj := zc "code" (.fields #[(zs "parse_hex_char" 2134), (zs "parse_hex_char" 2135), (zs "/claim/cut.py" 2136), (zi 386 0), (zi 3 0), (zi 0 0), (zi 0 0), (zi 3 0), (.ref 497), (.bool true), (zi 482 0), (.ref 498), .none, (.ref 499), (.ref 500), (.ref 501), (zi 2142 0), (zi 386 0), (zs "/claim/cut.py" 2143)])
def o503 : Obj := zc "function" (.func (fd (S "parse_hex_char") (S "parse_hex_char") (defR (st 58)) 3 [] .none .none .none (zs "cpy313.tomllib._parser" 1831) none (.ref 502) .none 0))
def o506 : Obj := zc "tuple" (.seq #[(zs "src" 2148), (zs "pos" 2149), (zs "start_pos" 2150)] 0)
def o508 : Obj := z0 (.func (fd (S "parse_literal_str") (S "parse_literal_str") (defR (st 59)) 0 [] .none .none .none .none none .none .none 0))
def o509 : Obj := zc "code" (.fields #[(zs "parse_literal_str" 2145), (zs "parse_literal_str" 2146), (zs "/claim/cut.py" 2147), (zi 395 0), (zi 2 0), (zi 0 0), (zi 0 0), (zi 3 0), (.ref 504), (.bool true), (zi 482 0), (.ref 505), .none, (.ref 506), (.ref 507), (.ref 508), (zi 2151 0), (zi 395 0), (zs "/claim/cut.py" 2152)])
def o510 : Obj := zc "function" (.func (fd (S "parse_literal_str") (S "parse_literal_str") (defR (st 59)) 3 [] .none .none .none (zs "cpy313.tomllib._parser" 1831) none (.ref 509) .none 0))
def o513 : Obj := zc "tuple" (.seq #[(zs "src" 2157), (zs "pos" 2158), (zs "literal" 2159), (zs "delim" 2160), (zs "end_pos" 2161), (zs "result" 2162)] 0)
def o515 : Obj := z0 (.func (fd (S "parse_multiline_str") (S "parse_multiline_str") (defR (st 60)) 0 [] .none .none .none .none none .none .none 0))
def o516 : Obj := zc "code" (.fields #[(zs "parse_multiline_str" 2154), (zs "parse_multiline_str" 2155), (zs "/claim/cut.py" 2156), (zi 400 0), (zi 2 0), (zi 0 0), (zi 1 0), (zi 3 0), (.ref 511), (.bool true), (zi 482 0), (.ref 512), .none, (.ref 513), (.ref 514), (.ref 515), (zi 2163 0), (zi 400 0), (zs "/claim/cut.py" 2164)])
def o517 : Obj := zc "function" (.func (fd (S "parse_multiline_str") (S "parse_multiline_str") (defR (st 60)) 3 [] .none .none .none (zs "cpy313.tomllib._parser" 1831) none (.ref 516) .none 0))
def o520 : Obj := zc "tuple" (.seq #[(zs "src" 2169), (zs "pos" 2170), (zs "multiline" 2171), (zs "error_on" 2172), (zs "parse_escapes" 2173), (zs "result" 2174), (zs "start_pos" 2175), (zs "char" 2176), (zs "parsed_escape" 2177)] 0)
def o522 : Obj := z0 (.func (fd (S "parse_basic_str") (S "parse_basic_str") (defR (st 61)) 0 [] .none .none .none .none none .none .none 0))
def o523 : Obj := zc "code" (.fields #[(zs "parse_basic_str" 2166), (zs "parse_basic_str" 2167), (zs "/claim/cut.py" 2168), (zi 419 0), (zi 2 0), (zi 0 0), (zi 1 0), (zi 3 0), (.ref 518), (.bool true), (zi 482 0), (.ref 519), .none, (.ref 520), (.ref 521), (.ref 522), (zi 2178 0), (zi 419 0), (zs "/claim/cut.py" 2179)])
def o524 : Obj := zc "function" (.func (fd (S "parse_basic_str") (S "parse_basic_str") (defR (st 61)) 3 [] .none .none .none (zs "cpy313.tomllib._parser" 1831) none (.ref 523) .none 0))
def o527 : Obj := zc "tuple" (.seq #[(zs "src" 2184), (zs "pos" 2185), (zs "parse_float" 2186), (zs "char" 2187), (zs "datetime_match" 2188), (zs "datetime_obj" 2189), (zs "e" 2190), (zs "localtime_match" 2191), (zs "number_match" 2192), (zs "first_three" 2193), (zs "first_four" 2194)] 0)
def o529 : Obj := z0 (.func (fd (S "parse_value") (S "parse_value") (defR (st 62)) 0 [] .none .none .none .none none .none .none 0))
def o530 : Obj := zc "code" (.fields #[(zs "parse_value" 2181), (zs "parse_value" 2182), (zs "/claim/cut.py" 2183), (zi 449 0), (zi 3 0), (zi 0 0), (zi 0 0), (zi 3 0), (.ref 525), (.bool true), (zi 482 0), (.ref 526), .none, (.ref 527), (.ref 528), (.ref 529), (zi 2195 0), (zi 449 0), (zs "/claim/cut.py" 2196)])
def o531 : Obj := zc "function" (.func (fd (S "parse_value") (S "parse_value") (defR (st 62)) 3 [] .none .none .none (zs "cpy313.tomllib._parser" 1831) none (.ref 530) .none 0))
def o534 : Obj := zc "tuple" (.seq #[(zs "src" 2201), (zs "pos" 2202), (zs "msg" 2203), (zs "coord_repr" 2204)] 0)
def o536 : Obj := z0 (.func (fd (S "suffixed_err") (S "suffixed_err") (defR (st 63)) 0 [] .none .none .none .none none .none .none 0))
def o537 : Obj := zc "code" (.fields #[(zs "suffixed_err" 2198), (zs "suffixed_err" 2199), (zs "/claim/cut.py" 2200), (zi 492 0), (zi 3 0), (zi 0 0), (zi 0 0), (zi 3 0), (.ref 532), (.bool true), (zi 482 0), (.ref 533), .none, (.ref 534), (.ref 535), (.ref 536), (zi 2205 0), (zi 492 0), (zs "/claim/cut.py" 2206)])
def o538 : Obj := zc "function" (.func (fd (S "suffixed_err") (S "suffixed_err") (defR (st 63)) 3 [] .none .none .none (zs "cpy313.tomllib._parser" 1831) none (.ref 537) .none 0))
def o541 : Obj := zc "tuple" (.seq #[(zs "codepoint" 2211)] 0)
def o543 : Obj := z0 (.func (fd (S "is_unicode_scalar_value") (S "is_unicode_scalar_value") (defR (st 64)) 0 [] .none .none .none .none none .none .none 0))
def o544 : Obj := zc "code" (.fields #[(zs "is_unicode_scalar_value" 2208), (zs "is_unicode_scalar_value" 2209), (zs "/claim/cut.py" 2210), (zi 504 0), (zi 1 0), (zi 0 0), (zi 0 0), (zi 3 0), (.ref 539), (.bool true), (zi 482 0), (.ref 540), .none, (.ref 541), (.ref 542), (.ref 543), (zi 2212 0), (zi 504 0), (zs "/claim/cut.py" 2213)])
def o545 : Obj := zc "function" (.func (fd (S "is_unicode_scalar_value") (S "is_unicode_scalar_value") (defR (st 64)) 3 [] .none .none .none (zs "cpy313.tomllib._parser" 1831) none (.ref 544) .none 0))
def T62 (g : GG) (P : Params) : BT := up (T51 g P) [(3, o3v24 P), (64, o64v10), (475, o7), (476, o8), (477, o477), (478, o7), (479, o479), (480, o480), (481, o481), (482, o482 P), (483, o7), (484, o8), (485, o485), (486, o7), (487, o487), (488, o488), (489, o489), (490, o7), (491, o8), (492, o492), (493, o7), (494, o494), (495, o495), (496, o496), (497, o7), (498, o8), (499, o499), (500, o7), (501, o501), (502, o502), (503, o503), (504, o7), (505, o8), (506, o506), (507, o7), (508, o508), (509, o509), (510, o510), (511, o7), (512, o8), (513, o513), (514, o7), (515, o515), (516, o516), (517, o517), (518, o7), (519, o8), (520, o520), (521, o7), (522, o522), (523, o523), (524, o524), (525, o7), (526, o8), (527, o527), (528, o7), (529, o529), (530, o530), (531, o531), (532, o7), (533, o8), (534, o534), (535, o7), (536, o536), (537, o537), (538, o538), (539, o7), (540, o8), (541, o541), (542, o7), (543, o543), (544, o544), (545, o545)]
def S62 (g : Nat → SC) (w : World) (os : OsState) : SharedT := mk (T62 g w.params) 546 2217 #[.finished] os
theorem pc51 (g : Nat → SC) (p : Program) (b rest : List Stmt) (os : OsState) (w : World) : RT p w (S51 g w os) (restQ (st 55 :: st 56 :: st 57 :: st 58 :: st 59 :: st 60 :: st 61 :: st 62 :: st 63 :: st 64 :: st 65 :: rest) env0 (.body b env0) ⟨313, 0, 331, 35⟩) (S62 g w os) (restQ rest env0 (.body b env0) ⟨506, 0, 506, 8⟩) := by
  exact RT.ofQ (n := 351) (by kernel_rfl)
def o3v25 (P : Params) : Obj := zc "dict" (.dict #[(e144 P), (e0 P), (e1 P), (e2 P), (e3 P), (e4 P), (e5 P), (e6 P), (e7 P), (e8 P), (e9 P), (e10 P), (e11 P), (e12 P), (e13 P), (e14 P), (e15 P), (e51 P), (e52 P), (e53 P), (e62 P), (e63 P), (e64 P), (e65 P), (e66 P), (e67 P), (e68 P), (e86 P), (e87 P), (e88 P), (e90 P), (e91 P), (e92 P), (e94 P), (e95 P), (e96 P), (e97 P), (e98 P), (e99 P), (e100 P), (e101 P), (e102 P), (e103 P), (e104 P), (e105 P), (e106 P), (e107 P), (e108 P), (e110 P), (e111 P), (e112 P), (e116 P), (e128 P), (e129 P), (e130 P), (e131 P), (e132 P), (e133 P), (e134 P), (e135 P), (e136 P), (e137 P), (e145 P), (e146 P), (e147 P), (e148 P), (e149 P), (e150 P), (e151 P), (e152 P), (e153 P), (e154 P), (zk P "_law_low" 2223 (.ref 552)), (zk P "_law_spot" 2232 (.ref 559)), (zk P "_law_events" 2244 (.ref 566)), (zk P "_law_read" 2258 (.ref 573)), (zk P "_law_due" 2264 (.ref 578)), (zk P "law" 2286 (.ref 585))] 78)
def o64v11 : Obj := z0 (.fields #[(zi 5 0), (zi 0 0), (.ref 72), (zi 8 0), (zi 0 0), (.ref 79), (zi 18 0), (zi 0 0), (.ref 123), (zi 35 0), (zi 0 0), (.ref 133), (zi 80 0), (zi 0 0), (.ref 140), (zi 116 0), (zi 0 0), (.ref 208), (zi 135 0), (zi 0 0), (.ref 226), (zi 138 0), (zi 0 0), (.ref 251), (zi 142 0), (zi 0 0), (.ref 258), (zi 148 0), (zi 23 0), (.ref 264), (zi 167 0), (zi 0 0), (.ref 312), (zi 169 0), (zi 0 0), (.ref 325), (zi 213 0), (zi 0 0), (.ref 381), (zi 232 0), (zi 0 0), (.ref 417), (zi 239 0), (zi 0 0), (.ref 424), (zi 251 0), (zi 0 0), (.ref 431), (zi 259 0), (zi 0 0), (.ref 438), (zi 266 0), (zi 0 0), (.ref 445), (zi 278 0), (zi 0 0), (.ref 452), (zi 296 0), (zi 0 0), (.ref 459), (zi 310 0), (zi 0 0), (.ref 466), (zi 313 0), (zi 0 0), (.ref 473), (zi 332 0), (zi 0 0), (.ref 480), (zi 361 0), (zi 0 0), (.ref 488), (zi 384 0), (zi 0 0), (.ref 495), (zi 386 0), (zi 0 0), (.ref 502), (zi 395 0), (zi 0 0), (.ref 509), (zi 400 0), (zi 0 0), (.ref 516), (zi 419 0), (zi 0 0), (.ref 523), (zi 449 0), (zi 0 0), (.ref 530), (zi 492 0), (zi 0 0), (.ref 537), (zi 504 0), (zi 0 0), (.ref 544), (zi 507 0), (zi 0 0), (.ref 551), (zi 509 0), (zi 0 0), (.ref 558), (zi 512 0), (zi 0 0), (.ref 565), (zi 533 0), (zi 0 0), (.ref 572), (zi 544 0), (zi 0 0), (.ref 577), (zi 561 0), (zi 0 0), (.ref 584)])
def o548 : Obj := zc "tuple" (.seq #[(zs "sign" 2220)] 0)
def o550 : Obj := z0 (.func (fd (S "_law_low") (S "_law_low") (defR (st 66)) 0 [] .none .none .none .none none .none .none 0))
def o551 : Obj := zc "code" (.fields #[(zs "_law_low" 2217), (zs "_law_low" 2218), (zs "/claim/cut.py" 2219), (zi 507 0), (zi 1 0), (zi 0 0), (zi 0 0), (zi 3 0), (.ref 546), (.bool true), (zi 482 0), (.ref 547), .none, (.ref 548), (.ref 549), (.ref 550), (zi 2221 0), (zi 507 0), (zs "/claim/cut.py" 2222)])
def o552 : Obj := zc "function" (.func (fd (S "_law_low") (S "_law_low") (defR (st 66)) 3 [] .none .none .none (zs "law_kq0035_04" 2215) none (.ref 551) .none 0))
def o555 : Obj := zc "tuple" (.seq #[(zs "text" 2227), (zs "place" 2228), (zs "lines" 2229)] 0)
def o557 : Obj := z0 (.func (fd (S "_law_spot") (S "_law_spot") (defR (st 67)) 0 [] .none .none .none .none none .none .none 0))
def o558 : Obj := zc "code" (.fields #[(zs "_law_spot" 2224), (zs "_law_spot" 2225), (zs "/claim/cut.py" 2226), (zi 509 0), (zi 2 0), (zi 0 0), (zi 0 0), (zi 3 0), (.ref 553), (.bool true), (zi 482 0), (.ref 554), .none, (.ref 555), (.ref 556), (.ref 557), (zi 2230 0), (zi 509 0), (zs "/claim/cut.py" 2231)])
def o559 : Obj := zc "function" (.func (fd (S "_law_spot") (S "_law_spot") (defR (st 67)) 3 [] .none .none .none (zs "law_kq0035_04" 2215) none (.ref 558) .none 0))
def o562 : Obj := zc "tuple" (.seq #[(zs "text" 2236), (zs "events" 2237), (zs "k" 2238), (zs "after" 2239), (zs "size" 2240), (zs "digits_v" 2241)] 0)
def o564 : Obj := z0 (.func (fd (S "_law_events") (S "_law_events") (defR (st 68)) 0 [] .none .none .none .none none .none .none 0))
def o565 : Obj := zc "code" (.fields #[(zs "_law_events" 2233), (zs "_law_events" 2234), (zs "/claim/cut.py" 2235), (zi 512 0), (zi 1 0), (zi 0 0), (zi 0 0), (zi 3 0), (.ref 560), (.bool true), (zi 482 0), (.ref 561), .none, (.ref 562), (.ref 563), (.ref 564), (zi 2242 0), (zi 512 0), (zs "/claim/cut.py" 2243)])
def o566 : Obj := zc "function" (.func (fd (S "_law_events") (S "_law_events") (defR (st 68)) 3 [] .none .none .none (zs "law_kq0035_04" 2215) none (.ref 565) .none 0))
def o569 : Obj := zc "tuple" (.seq #[(zs "body" 2248), (zs "read" 2249), (zs "part" 2250), (zs "pieces" 2251), (zs "out" 2252), (zs "piece" 2253), (zs "size" 2254), (zs "short" 2255)] 0)
def o571 : Obj := z0 (.func (fd (S "_law_read") (S "_law_read") (defR (st 69)) 0 [] .none .none .none .none none .none .none 0))
def o572 : Obj := zc "code" (.fields #[(zs "_law_read" 2245), (zs "_law_read" 2246), (zs "/claim/cut.py" 2247), (zi 533 0), (zi 1 0), (zi 0 0), (zi 0 0), (zi 3 0), (.ref 567), (.bool true), (zi 482 0), (.ref 568), .none, (.ref 569), (.ref 570), (.ref 571), (zi 2256 0), (zi 533 0), (zs "/claim/cut.py" 2257)])
def o573 : Obj := zc "function" (.func (fd (S "_law_read") (S "_law_read") (defR (st 69)) 3 [] .none .none .none (zs "law_kq0035_04" 2215) none (.ref 572) .none 0))
def o576 : Obj := z0 (.func (fd (S "_law_due") (S "_law_due") (defR (st 70)) 0 [] .none .none .none .none none .none .none 0))
def o577 : Obj := zc "code" (.fields #[(zs "_law_due" 2259), (zs "_law_due" 2260), (zs "/claim/cut.py" 2261), (zi 544 0), (zi 3 0), (zi 0 0), (zi 0 0), (zi 3 0), (.ref 574), (.bool true), (zi 482 0), (.ref 575), .none, .none, .none, (.ref 576), (zi 2262 0), (zi 544 0), (zs "/claim/cut.py" 2263)])
def o578 : Obj := zc "function" (.func (fd (S "_law_due") (S "_law_due") (defR (st 70)) 3 [] .none .none .none (zs "law_kq0035_04" 2215) none (.ref 577) .none 0))
def o581 : Obj := zc "tuple" (.seq #[(zs "script" 2268), (zs "pieces" 2269), (zs "digits_v" 2270), (zs "x" 2271), (zs "rest" 2272), (zs "_" 2273), (zs "text" 2274), (zs "d" 2275), (zs "sign" 2276), (zs "events" 2277), (zs "p" 2278), (zs "due" 2279), (zs "mark" 2280), (zs "twice" 2281), (zs "told" 2282), (zs "error" 2283)] 0)
def o583 : Obj := z0 (.func (fd (S "law") (S "law") (defR (st 71)) 0 [] .none .none .none .none none .none .none 0))
def o584 : Obj := zc "code" (.fields #[(zs "law" 2265), (zs "law" 2266), (zs "/claim/cut.py" 2267), (zi 561 0), (zi 1 0), (zi 0 0), (zi 0 0), (zi 3 0), (.ref 579), (.bool true), (zi 482 0), (.ref 580), .none, (.ref 581), (.ref 582), (.ref 583), (zi 2284 0), (zi 561 0), (zs "/claim/cut.py" 2285)])
def o585 : Obj := zc "function" (.func (fd (S "law") (S "law") (defR (st 71)) 3 [] .none .none .none (zs "law_kq0035_04" 2215) none (.ref 584) .none 0))
def T68 (g : GG) (P : Params) : BT := up (T51 g P) [(3, o3v25 P), (64, o64v11), (475, o7), (476, o8), (477, o477), (478, o7), (479, o479), (480, o480), (481, o481), (482, o482 P), (483, o7), (484, o8), (485, o485), (486, o7), (487, o487), (488, o488), (489, o489), (490, o7), (491, o8), (492, o492), (493, o7), (494, o494), (495, o495), (496, o496), (497, o7), (498, o8), (499, o499), (500, o7), (501, o501), (502, o502), (503, o503), (504, o7), (505, o8), (506, o506), (507, o7), (508, o508), (509, o509), (510, o510), (511, o7), (512, o8), (513, o513), (514, o7), (515, o515), (516, o516), (517, o517), (518, o7), (519, o8), (520, o520), (521, o7), (522, o522), (523, o523), (524, o524), (525, o7), (526, o8), (527, o527), (528, o7), (529, o529), (530, o530), (531, o531), (532, o7), (533, o8), (534, o534), (535, o7), (536, o536), (537, o537), (538, o538), (539, o7), (540, o8), (541, o541), (542, o7), (543, o543), (544, o544), (545, o545), (546, o7), (547, o8), (548, o548), (549, o7), (550, o550), (551, o551), (552, o552), (553, o7), (554, o8), (555, o555), (556, o7), (557, o557), (558, o558), (559, o559), (560, o7), (561, o8), (562, o562), (563, o7), (564, o564), (565, o565), (566, o566), (567, o7), (568, o8), (569, o569), (570, o7), (571, o571), (572, o572), (573, o573), (574, o7), (575, o8), (576, o576), (577, o577), (578, o578), (579, o7), (580, o8), (581, o581), (582, o7), (583, o583), (584, o584), (585, o585)]
def S68 (g : Nat → SC) (w : World) (os : OsState) : SharedT := mk (T68 g w.params) 586 2287 #[.finished] os
theorem pc62 (g : Nat → SC) (p : Program) (b rest : List Stmt) (os : OsState) (w : World) : RT p w (S62 g w os) (restQ (st 66 :: st 67 :: st 68 :: st 69 :: st 70 :: st 71 :: rest) env0 (.body b env0) ⟨506, 0, 506, 8⟩) (S68 g w os) (restQ rest env0 (.body b env0) ⟨561, 0, 585, 15⟩) := by
  exact RT.ofQ (n := 200) (by kernel_rfl)
end
end
section
set_option maxHeartbeats 0
theorem op_b (g : Nat → SC) (w : World) (os : OsState) : seeR (opR (opening P0) 2036 w os) = some (mk (Topen g w.params) 63 482 #[] os, some []) := by kernel_rfl
theorem fe_a (g : Nat → SC) (w : World) (os : OsState) : fenceModules? P0 (mk (Topen g w.params) 63 482 #[] os).abs = some (mk (Tzero g w.params) 63 482 #[] os).abs := by kernel_rfl
theorem op_c (g : Nat → SC) (w : World) : importEnds treeTable (opening P0) w 2037 (start (opening P0)).1 (start (opening P0)).2 = some (mk (Topen g w.params) 63 482 #[] (start (opening P0)).1.os).abs :=
  see_start (p := opening P0) (n := 2036) (S := mk (Topen g w.params) 63 482 #[] {}) (op_b g w)
theorem pr_a (g : Nat → SC) (w : World) (os : OsState) : goS P0 w 12 (mk (Tzero g w.params) 63 482 #[] os) (topStub P0) = some (S0 g w os, ⟨DEN (.body (behindTheImports P0) env0), .body (behindTheImports P0) env0, ⟨0, 0, 0, 0⟩, [topFrame ⟨0, 0, 0, 0⟩]⟩) := by kernel_rfl
theorem bl_a : blockStart (behindTheImports P0) env0 = .pure () := by kernel_rfl
theorem be_a : behindTheImports P0 = [st 4, st 5, st 6, st 7, st 8, st 9, st 10, st 11, st 12, st 13, st 14, st 15, st 16, st 17, st 18, st 19, st 20, st 21, st 22, st 23, st 24, st 25, st 26, st 27, st 28, st 29, st 30, st 31, st 32, st 33, st 34, st 35, st 36, st 37, st 38, st 39, st 40, st 41, st 42, st 43, st 44, st 45, st 46, st 47, st 48, st 49, st 50, st 51, st 52, st 53, st 54, st 55, st 56, st 57, st 58, st 59, st 60, st 61, st 62, st 63, st 64, st 65, st 66, st 67, st 68, st 69, st 70, st 71] := by kernel_rfl
theorem den_body {b : List Stmt} {env : Env} (hb : blockStart b env = .pure ()) (c : Code) (p : Pos) : (⟨DEN (.body b env), c, p, [topFrame ⟨0, 0, 0, 0⟩]⟩ : Thread) = restQ b env c p := by
  rw [DEN_eq, body_wrap, hb, restQ_eq]
  rfl
structure SetFacts (w : World) (g : Nat → SC) : Prop where
  f276 : SOk w (g 276).es (g 276).t ((127, 1611) :: ((List.range 32).map cs20_0).reverse)
  f281 : SOk w (g 281).es (g 281).t (((127, 1611) :: ((List.range 32).map cs20_0).reverse).filter fun x => !(x.1 == 9))
  f286 : SOk w (g 286).es (g 286).t (((127, 1611) :: ((List.range 32).map cs20_0).reverse).filter fun x => !(x.1 == 9 || x.1 == 10))
  f287 : SOk w (g 287).es (g 287).t (((List.range 2).map cs26_0).reverse)
  f295 : SOk w (g 295).es (g 295).t ((10, 1634) :: ((List.range 2).map cs26_0).reverse)
  f296 : SOk w (g 296).es (g 296).t (((List.range 64).map cs33_0).reverse)
  f300 : SOk w (g 300).es (g 300).t (((List.range 22).map cs34_0).reverse)
theorem top_all (g : Nat → SC) (w : World) (os : OsState) (b : List Stmt) : ∃ g', SetFacts w g' ∧ RT P0 w (S0 g w os) (restQ [st 4, st 5, st 6, st 7, st 8, st 9, st 10, st 11, st 12, st 13, st 14, st 15, st 16, st 17, st 18, st 19, st 20, st 21, st 22, st 23, st 24, st 25, st 26, st 27, st 28, st 29, st 30, st 31, st 32, st 33, st 34, st 35, st 36, st 37, st 38, st 39, st 40, st 41, st 42, st 43, st 44, st 45, st 46, st 47, st 48, st 49, st 50, st 51, st 52, st 53, st 54, st 55, st 56, st 57, st 58, st 59, st 60, st 61, st 62, st 63, st 64, st 65, st 66, st 67, st 68, st 69, st 70, st 71] env0 (.body b env0) ⟨0, 0, 0, 0⟩) (S68 g' w os) (restQ [] env0 (.body b env0) ⟨561, 0, 585, 15⟩) := by
  have r0 := pc0 (g) P0 b [st 8, st 9, st 10, st 11, st 12, st 13, st 14, st 15, st 16, st 17, st 18, st 19, st 20, st 21, st 22, st 23, st 24, st 25, st 26, st 27, st 28, st 29, st 30, st 31, st 32, st 33, st 34, st 35, st 36, st 37, st 38, st 39, st 40, st 41, st 42, st 43, st 44, st 45, st 46, st 47, st 48, st 49, st 50, st 51, st 52, st 53, st 54, st 55, st 56, st 57, st 58, st 59, st 60, st 61, st 62, st 63, st 64, st 65, st 66, st 67, st 68, st 69, st 70, st 71] os w
  have r4 := pc4 (g) P0 b [st 15, st 16, st 17, st 18, st 19, st 20, st 21, st 22, st 23, st 24, st 25, st 26, st 27, st 28, st 29, st 30, st 31, st 32, st 33, st 34, st 35, st 36, st 37, st 38, st 39, st 40, st 41, st 42, st 43, st 44, st 45, st 46, st 47, st 48, st 49, st 50, st 51, st 52, st 53, st 54, st 55, st 56, st 57, st 58, st 59, st 60, st 61, st 62, st 63, st 64, st 65, st 66, st 67, st 68, st 69, st 70, st 71] os w
  have r11 := pc11 (g) P0 b [st 16, st 17, st 18, st 19, st 20, st 21, st 22, st 23, st 24, st 25, st 26, st 27, st 28, st 29, st 30, st 31, st 32, st 33, st 34, st 35, st 36, st 37, st 38, st 39, st 40, st 41, st 42, st 43, st 44, st 45, st 46, st 47, st 48, st 49, st 50, st 51, st 52, st 53, st 54, st 55, st 56, st 57, st 58, st 59, st 60, st 61, st 62, st 63, st 64, st 65, st 66, st 67, st 68, st 69, st 70, st 71] os w
  have r12 := pc12 (g) P0 b [st 20, st 21, st 22, st 23, st 24, st 25, st 26, st 27, st 28, st 29, st 30, st 31, st 32, st 33, st 34, st 35, st 36, st 37, st 38, st 39, st 40, st 41, st 42, st 43, st 44, st 45, st 46, st 47, st 48, st 49, st 50, st 51, st 52, st 53, st 54, st 55, st 56, st 57, st 58, st 59, st 60, st 61, st 62, st 63, st 64, st 65, st 66, st 67, st 68, st 69, st 70, st 71] os w
  have r16 := pc16 (g) P0 b [st 24, st 25, st 26, st 27, st 28, st 29, st 30, st 31, st 32, st 33, st 34, st 35, st 36, st 37, st 38, st 39, st 40, st 41, st 42, st 43, st 44, st 45, st 46, st 47, st 48, st 49, st 50, st 51, st 52, st 53, st 54, st 55, st 56, st 57, st 58, st 59, st 60, st 61, st 62, st 63, st 64, st 65, st 66, st 67, st 68, st 69, st 70, st 71] os w
  obtain ⟨x267, x272, x276, k267, k272, k276, r20⟩ := sm20 (g) P0 b [st 25, st 26, st 27, st 28, st 29, st 30, st 31, st 32, st 33, st 34, st 35, st 36, st 37, st 38, st 39, st 40, st 41, st 42, st 43, st 44, st 45, st 46, st 47, st 48, st 49, st 50, st 51, st 52, st 53, st 54, st 55, st 56, st 57, st 58, st 59, st 60, st 61, st 62, st 63, st 64, st 65, st 66, st 67, st 68, st 69, st 70, st 71] os w
  obtain ⟨x277, x281, k277, k281, r21⟩ := sm21 (upd (upd (upd (g) 267 x267) 272 x272) 276 x276) P0 b [st 26, st 27, st 28, st 29, st 30, st 31, st 32, st 33, st 34, st 35, st 36, st 37, st 38, st 39, st 40, st 41, st 42, st 43, st 44, st 45, st 46, st 47, st 48, st 49, st 50, st 51, st 52, st 53, st 54, st 55, st 56, st 57, st 58, st 59, st 60, st 61, st 62, st 63, st 64, st 65, st 66, st 67, st 68, st 69, st 70, st 71] os w k276
  obtain ⟨x282, x286, k282, k286, r22⟩ := sm22 (upd (upd (upd (upd (upd (g) 267 x267) 272 x272) 276 x276) 277 x277) 281 x281) P0 b [st 27, st 28, st 29, st 30, st 31, st 32, st 33, st 34, st 35, st 36, st 37, st 38, st 39, st 40, st 41, st 42, st 43, st 44, st 45, st 46, st 47, st 48, st 49, st 50, st 51, st 52, st 53, st 54, st 55, st 56, st 57, st 58, st 59, st 60, st 61, st 62, st 63, st 64, st 65, st 66, st 67, st 68, st 69, st 70, st 71] os w k276
  have r23 := pc23 (upd (upd (upd (upd (upd (upd (upd (g) 267 x267) 272 x272) 276 x276) 277 x277) 281 x281) 282 x282) 286 x286) P0 b [st 28, st 29, st 30, st 31, st 32, st 33, st 34, st 35, st 36, st 37, st 38, st 39, st 40, st 41, st 42, st 43, st 44, st 45, st 46, st 47, st 48, st 49, st 50, st 51, st 52, st 53, st 54, st 55, st 56, st 57, st 58, st 59, st 60, st 61, st 62, st 63, st 64, st 65, st 66, st 67, st 68, st 69, st 70, st 71] os w
  have r24 := pc24 (upd (upd (upd (upd (upd (upd (upd (g) 267 x267) 272 x272) 276 x276) 277 x277) 281 x281) 282 x282) 286 x286) P0 b [st 29, st 30, st 31, st 32, st 33, st 34, st 35, st 36, st 37, st 38, st 39, st 40, st 41, st 42, st 43, st 44, st 45, st 46, st 47, st 48, st 49, st 50, st 51, st 52, st 53, st 54, st 55, st 56, st 57, st 58, st 59, st 60, st 61, st 62, st 63, st 64, st 65, st 66, st 67, st 68, st 69, st 70, st 71] os w
  have r25 := pc25 (upd (upd (upd (upd (upd (upd (upd (g) 267 x267) 272 x272) 276 x276) 277 x277) 281 x281) 282 x282) 286 x286) P0 b [st 30, st 31, st 32, st 33, st 34, st 35, st 36, st 37, st 38, st 39, st 40, st 41, st 42, st 43, st 44, st 45, st 46, st 47, st 48, st 49, st 50, st 51, st 52, st 53, st 54, st 55, st 56, st 57, st 58, st 59, st 60, st 61, st 62, st 63, st 64, st 65, st 66, st 67, st 68, st 69, st 70, st 71] os w
  obtain ⟨x287, k287, r26⟩ := sm26 (upd (upd (upd (upd (upd (upd (upd (g) 267 x267) 272 x272) 276 x276) 277 x277) 281 x281) 282 x282) 286 x286) P0 b [st 31, st 32, st 33, st 34, st 35, st 36, st 37, st 38, st 39, st 40, st 41, st 42, st 43, st 44, st 45, st 46, st 47, st 48, st 49, st 50, st 51, st 52, st 53, st 54, st 55, st 56, st 57, st 58, st 59, st 60, st 61, st 62, st 63, st 64, st 65, st 66, st 67, st 68, st 69, st 70, st 71] os w
  obtain ⟨x291, x295, k291, k295, r27⟩ := sm27 (upd (upd (upd (upd (upd (upd (upd (upd (g) 267 x267) 272 x272) 276 x276) 277 x277) 281 x281) 282 x282) 286 x286) 287 x287) P0 b [st 32, st 33, st 34, st 35, st 36, st 37, st 38, st 39, st 40, st 41, st 42, st 43, st 44, st 45, st 46, st 47, st 48, st 49, st 50, st 51, st 52, st 53, st 54, st 55, st 56, st 57, st 58, st 59, st 60, st 61, st 62, st 63, st 64, st 65, st 66, st 67, st 68, st 69, st 70, st 71] os w k287
  have r28 := pc28 (upd (upd (upd (upd (upd (upd (upd (upd (upd (upd (g) 267 x267) 272 x272) 276 x276) 277 x277) 281 x281) 282 x282) 286 x286) 287 x287) 291 x291) 295 x295) P0 b [st 33, st 34, st 35, st 36, st 37, st 38, st 39, st 40, st 41, st 42, st 43, st 44, st 45, st 46, st 47, st 48, st 49, st 50, st 51, st 52, st 53, st 54, st 55, st 56, st 57, st 58, st 59, st 60, st 61, st 62, st 63, st 64, st 65, st 66, st 67, st 68, st 69, st 70, st 71] os w
  have r29 := pc29 (upd (upd (upd (upd (upd (upd (upd (upd (upd (upd (g) 267 x267) 272 x272) 276 x276) 277 x277) 281 x281) 282 x282) 286 x286) 287 x287) 291 x291) 295 x295) P0 b [st 34, st 35, st 36, st 37, st 38, st 39, st 40, st 41, st 42, st 43, st 44, st 45, st 46, st 47, st 48, st 49, st 50, st 51, st 52, st 53, st 54, st 55, st 56, st 57, st 58, st 59, st 60, st 61, st 62, st 63, st 64, st 65, st 66, st 67, st 68, st 69, st 70, st 71] os w
  have r30 := pc30 (upd (upd (upd (upd (upd (upd (upd (upd (upd (upd (g) 267 x267) 272 x272) 276 x276) 277 x277) 281 x281) 282 x282) 286 x286) 287 x287) 291 x291) 295 x295) P0 b [st 35, st 36, st 37, st 38, st 39, st 40, st 41, st 42, st 43, st 44, st 45, st 46, st 47, st 48, st 49, st 50, st 51, st 52, st 53, st 54, st 55, st 56, st 57, st 58, st 59, st 60, st 61, st 62, st 63, st 64, st 65, st 66, st 67, st 68, st 69, st 70, st 71] os w
  have r31 := pc31 (upd (upd (upd (upd (upd (upd (upd (upd (upd (upd (g) 267 x267) 272 x272) 276 x276) 277 x277) 281 x281) 282 x282) 286 x286) 287 x287) 291 x291) 295 x295) P0 b [st 36, st 37, st 38, st 39, st 40, st 41, st 42, st 43, st 44, st 45, st 46, st 47, st 48, st 49, st 50, st 51, st 52, st 53, st 54, st 55, st 56, st 57, st 58, st 59, st 60, st 61, st 62, st 63, st 64, st 65, st 66, st 67, st 68, st 69, st 70, st 71] os w
  have r32 := pc32 (upd (upd (upd (upd (upd (upd (upd (upd (upd (upd (g) 267 x267) 272 x272) 276 x276) 277 x277) 281 x281) 282 x282) 286 x286) 287 x287) 291 x291) 295 x295) P0 b [st 37, st 38, st 39, st 40, st 41, st 42, st 43, st 44, st 45, st 46, st 47, st 48, st 49, st 50, st 51, st 52, st 53, st 54, st 55, st 56, st 57, st 58, st 59, st 60, st 61, st 62, st 63, st 64, st 65, st 66, st 67, st 68, st 69, st 70, st 71] os w
  obtain ⟨x296, k296, r33⟩ := sm33 (upd (upd (upd (upd (upd (upd (upd (upd (upd (upd (g) 267 x267) 272 x272) 276 x276) 277 x277) 281 x281) 282 x282) 286 x286) 287 x287) 291 x291) 295 x295) P0 b [st 38, st 39, st 40, st 41, st 42, st 43, st 44, st 45, st 46, st 47, st 48, st 49, st 50, st 51, st 52, st 53, st 54, st 55, st 56, st 57, st 58, st 59, st 60, st 61, st 62, st 63, st 64, st 65, st 66, st 67, st 68, st 69, st 70, st 71] os w
  obtain ⟨x300, k300, r34⟩ := sm34 (upd (upd (upd (upd (upd (upd (upd (upd (upd (upd (upd (g) 267 x267) 272 x272) 276 x276) 277 x277) 281 x281) 282 x282) 286 x286) 287 x287) 291 x291) 295 x295) 296 x296) P0 b [st 39, st 40, st 41, st 42, st 43, st 44, st 45, st 46, st 47, st 48, st 49, st 50, st 51, st 52, st 53, st 54, st 55, st 56, st 57, st 58, st 59, st 60, st 61, st 62, st 63, st 64, st 65, st 66, st 67, st 68, st 69, st 70, st 71] os w
  have r35 := pc35 (upd (upd (upd (upd (upd (upd (upd (upd (upd (upd (upd (upd (g) 267 x267) 272 x272) 276 x276) 277 x277) 281 x281) 282 x282) 286 x286) 287 x287) 291 x291) 295 x295) 296 x296) 300 x300) P0 b [st 44, st 45, st 46, st 47, st 48, st 49, st 50, st 51, st 52, st 53, st 54, st 55, st 56, st 57, st 58, st 59, st 60, st 61, st 62, st 63, st 64, st 65, st 66, st 67, st 68, st 69, st 70, st 71] os w
  have r40 := pc40 (upd (upd (upd (upd (upd (upd (upd (upd (upd (upd (upd (upd (g) 267 x267) 272 x272) 276 x276) 277 x277) 281 x281) 282 x282) 286 x286) 287 x287) 291 x291) 295 x295) 296 x296) 300 x300) P0 b [st 45, st 46, st 47, st 48, st 49, st 50, st 51, st 52, st 53, st 54, st 55, st 56, st 57, st 58, st 59, st 60, st 61, st 62, st 63, st 64, st 65, st 66, st 67, st 68, st 69, st 70, st 71] os w
  have r41 := pc41 (upd (upd (upd (upd (upd (upd (upd (upd (upd (upd (upd (upd (g) 267 x267) 272 x272) 276 x276) 277 x277) 281 x281) 282 x282) 286 x286) 287 x287) 291 x291) 295 x295) 296 x296) 300 x300) P0 b [st 55, st 56, st 57, st 58, st 59, st 60, st 61, st 62, st 63, st 64, st 65, st 66, st 67, st 68, st 69, st 70, st 71] os w
  have r51 := pc51 (upd (upd (upd (upd (upd (upd (upd (upd (upd (upd (upd (upd (g) 267 x267) 272 x272) 276 x276) 277 x277) 281 x281) 282 x282) 286 x286) 287 x287) 291 x291) 295 x295) 296 x296) 300 x300) P0 b [st 66, st 67, st 68, st 69, st 70, st 71] os w
  have r62 := pc62 (upd (upd (upd (upd (upd (upd (upd (upd (upd (upd (upd (upd (g) 267 x267) 272 x272) 276 x276) 277 x277) 281 x281) 282 x282) 286 x286) 287 x287) 291 x291) 295 x295) 296 x296) 300 x300) P0 b [] os w
  exact ⟨upd (upd (upd (upd (upd (upd (upd (upd (upd (upd (upd (upd (g) 267 x267) 272 x272) 276 x276) 277 x277) 281 x281) 282 x282) 286 x286) 287 x287) 291 x291) 295 x295) 296 x296) 300 x300, ⟨k276, k281, k286, k287, k295, k296, k300⟩, r0.trans (r4.trans (r11.trans (r12.trans (r16.trans (r20.trans (r21.trans (r22.trans (r23.trans (r24.trans (r25.trans (r26.trans (r27.trans (r28.trans (r29.trans (r30.trans (r31.trans (r32.trans (r33.trans (r34.trans (r35.trans (r40.trans (r41.trans (r51.trans (r62))))))))))))))))))))))))⟩
noncomputable def seeN (x : Option (SharedT × Thread)) : Option (SharedT × Bool) := match x with
  | some (s, t) => some (s, through t)
  | none => none
theorem en_b (g : Nat → SC) (w : World) (os : OsState) (c : Code) (p : Pos) : seeN (goS P0 w 1 (S68 g w os) (restQ [] env0 c p)) = some (S68 g w os, true) := by kernel_rfl
theorem en_c {x : Option (SharedT × Thread)} {S : SharedT} (h : seeN x = some (S, true)) : ∃ t', x = some (S, t') ∧ through t' = true := by
  cases x with
  | none => cases h
  | some r =>
    obtain ⟨s, t⟩ := r
    have h' : (s, through t) = (S, true) := Option.some.inj h
    exact ⟨t, by rw [show s = S from congrArg Prod.fst h'], congrArg Prod.snd h'⟩
theorem top_run (g : Nat → SC) (w : World) (os : OsState) : ∃ g' N, SetFacts w g' ∧ topRun treeTable P0 w 63 (some (.ref 6)) N (mk (Tzero g w.params) 63 482 #[] os).abs (topStub P0) = some (S68 g' w os).abs := by
  obtain ⟨g', hg, n, hn⟩ := top_all g w os (behindTheImports P0)
  obtain ⟨t', h1, h2⟩ := en_c (en_b g' w os (.body (behindTheImports P0) env0) ⟨561, 0, 585, 15⟩)
  have e : topRun treeTable P0 w 63 (some (.ref 6)) 1 (S68 g' w os).abs t' = some (S68 g' w os).abs := by
    unfold topRun
    rw [h2]
  have h3 := goS_top h1 e
  have h4 := goT_top hn h3
  have hp := pr_a g w os
  rw [den_body bl_a, be_a] at hp
  rw [be_a] at h4
  exact ⟨g', _, hg, goS_top hp h4⟩
noncomputable def q0 : Program := view P0 [0, 1, 2, 3, 71]
noncomputable def loose0 : List Str := [S "_wall", S "_WallAttr", S "RE_NUMBER", S "RE_LOCALTIME", S "RE_DATETIME", S "match_to_datetime", S "WRAPPER_ASSIGNMENTS", S "WRAPPER_UPDATES", S "update_wrapper", S "CacheInfo", S "_CacheInfo", S "lru_cache", S "cached_tz", S "match_to_localtime", S "match_to_number", S "MAX_KEY_PARTS", S "ASCII_CTRL", S "ILLEGAL_BASIC_STR_CHARS", S "ILLEGAL_MULTILINE_BASIC_STR_CHARS", S "ILLEGAL_LITERAL_STR_CHARS", S "ILLEGAL_MULTILINE_LITERAL_STR_CHARS", S "ILLEGAL_COMMENT_CHARS", S "TOML_WS", S "TOML_WS_AND_NEWLINE", S "ascii_lowercase", S "ascii_uppercase", S "ascii_letters", S "digits", S "hexdigits", S "BARE_KEY_CHARS", S "HEXDIGIT_CHARS", S "MappingProxyType", S "BASIC_STR_ESCAPE_REPLACEMENTS", S "TOMLDecodeError", S "Flags", S "NestedDict", S "skip_chars", S "skip_until", S "skip_comment", S "skip_comments_and_array_ws", S "parse_key_value_pair", S "parse_key", S "parse_key_part", S "parse_one_line_basic_str", S "parse_array", S "parse_inline_table", S "parse_basic_str_escape", S "parse_basic_str_escape_multiline", S "parse_hex_char", S "parse_literal_str", S "parse_multiline_str", S "parse_basic_str", S "parse_value", S "suffixed_err", S "is_unicode_scalar_value", S "_law_low", S "_law_spot", S "_law_events", S "_law_read", S "_law_due"]
noncomputable abbrev Hz (g : Nat → SC) (P : Params) : Heap := absHeap (Tzero g P) 63 {}
noncomputable abbrev He (g : Nat → SC) (P : Params) : Heap := absHeap (T68 g P) 586 {}
noncomputable abbrev Xt0 : Shared → Bool := fun s => xlAt q0 [] s && recOk [] s
theorem lk_a (g : Nat → SC) (P : Params) : ((Hz g P).isNs mainGlobals, (Hz g P).objs.size, (Hz g P).nsMap mainGlobals "__annotations__") = (true, 63, some (.ref 6)) := by kernel_rfl
theorem lk_b (g : Nat → SC) (P : Params) : (staticsOk (importedModules P0.main.body) (Hz g P) (He g P) && namesBound P0 (He g P) && gensDone ⟨He g P, #[.finished], {}, 2287, {}⟩ && laidKept (Hz g P) (He g P)) = true := by kernel_rfl
theorem lk_e (g : Nat → SC) (P : Params) (os : OsState) : PySem.W.Fast.tw4187177175401517315 q0 loose0 (importedModules P0.main.body) Xt0 false ⟨He g P, #[.finished], {}, 2287, os⟩ = openGood q0 loose0 := by kernel_rfl
def FsAt (w : World) (h : Heap) (a : Addr) (l : List (Nat × Tok)) : Prop := ∃ es ep t, h.get? a = some (setO es ep t) ∧ SOk w es t l
structure FsIn (w : World) (h : Heap) : Prop where
  f276 : FsAt w h 276 ((127, 1611) :: ((List.range 32).map cs20_0).reverse)
  f281 : FsAt w h 281 (((127, 1611) :: ((List.range 32).map cs20_0).reverse).filter fun x => !(x.1 == 9))
  f286 : FsAt w h 286 (((127, 1611) :: ((List.range 32).map cs20_0).reverse).filter fun x => !(x.1 == 9 || x.1 == 10))
  f287 : FsAt w h 287 (((List.range 2).map cs26_0).reverse)
  f295 : FsAt w h 295 ((10, 1634) :: ((List.range 2).map cs26_0).reverse)
  f296 : FsAt w h 296 (((List.range 64).map cs33_0).reverse)
  f300 : FsAt w h 300 (((List.range 22).map cs34_0).reverse)
theorem FsAt.keeps {w : World} {h h' : Heap} {a : Addr} {l : List (Nat × Tok)} (x : FsAt w h a l) (k : ∀ b o, h.get? b = some o → h'.get? b = some o) : FsAt w h' a l := by
  obtain ⟨es, ep, t, e, ok⟩ := x
  exact ⟨es, ep, t, k _ _ e, ok⟩
theorem FsIn.keeps {w : World} {h h' : Heap} (x : FsIn w h) (k : ∀ b o, h.get? b = some o → h'.get? b = some o) : FsIn w h' :=
  ⟨x.f276.keeps k, x.f281.keeps k, x.f286.keeps k, x.f287.keeps k, x.f295.keeps k, x.f296.keeps k, x.f300.keeps k⟩
theorem fs_in (g : Nat → SC) (P : Params) : [276, 281, 286, 287, 295, 296, 300].map (He g P).get? = [some (so (g 276)), some (so (g 281)), some (so (g 286)), some (so (g 287)), some (so (g 295)), some (so (g 296)), some (so (g 300))] := by kernel_rfl
def TabIn (h : Heap) : Prop := h.get? 533 = some { cls := .none, data := .fields #[] }
theorem tab_in (g : Nat → SC) (P : Params) : (He g P).get? 533 = some { cls := .none, data := .fields #[] } := by kernel_rfl
theorem head_ok (H : Hook) (hin : ∀ (w : World) (g : Nat → SC), H.says w (He g w.params)) (w : World) : HeadW P0 q0 loose0 Xt0 (fun w h => H.says w h ∧ FsIn w h ∧ TabIn h) w := by
  obtain ⟨g, N, hg, hr⟩ := top_run (fun _ => ⟨#[], 0, SetTable.fresh 0 0 true⟩) w (start (opening P0)).1.os
  let g₀ : Nat → SC := fun _ => ⟨#[], 0, SetTable.fresh 0 0 true⟩
  refine ⟨_, _, (S68 g w (start (opening P0)).1.os).abs, _, N, op_c g₀ w, fe_a g₀ w _, ?_, ?_, ?_⟩
  · unfold topFrom
    have ha := lk_a g₀ w.params
    have e1 : (Hz g₀ w.params).isNs mainGlobals = true := congrArg Prod.fst ha
    have e2 : (Hz g₀ w.params).objs.size = 63 := congrArg (fun x => x.2.1) ha
    have e3 : (Hz g₀ w.params).nsMap mainGlobals "__annotations__" = some (.ref 6) := congrArg (fun x => x.2.2) ha
    have e4 : ((mk (Tzero g₀ w.params) 63 482 #[] (start (opening P0)).1.os).abs.heap.isNs mainGlobals && (mk (Tzero g₀ w.params) 63 482 #[] (start (opening P0)).1.os).abs.gens.size == 0) = true := by
      show ((Hz g₀ w.params).isNs mainGlobals && true) = true
      rw [e1]; rfl
    rw [e4]
    show (topRun treeTable P0 w (Hz g₀ w.params).objs.size ((Hz g₀ w.params).nsMap mainGlobals "__annotations__") N _ _).bind _ = _
    rw [e2, e3, hr]
    have hb := lk_b g w.params
    show (match staticsOk (importedModules P0.main.body) (Hz g₀ w.params) (He g w.params) && namesBound P0 (He g w.params) && gensDone ⟨He g w.params, #[.finished], {}, 2287, {}⟩ && laidKept (Hz g₀ w.params) (He g w.params) with | true => some _ | false => none) = _
    rw [show Hz g₀ w.params = Hz g w.params from rfl, hb]
  · rw [PySem.W.Fast.te4187177175401517315]
    exact lk_e g w.params _
  · refine ⟨hin w g, ?_, tab_in g w.params⟩
    have hf := fs_in g w.params
    simp only [List.map_cons, List.map_nil, List.cons.injEq, and_true] at hf
    obtain ⟨h1, h2, h3, h4, h5, h6, h7⟩ := hf
    exact ⟨⟨_, _, _, h1, hg.f276⟩, ⟨_, _, _, h2, hg.f281⟩, ⟨_, _, _, h3, hg.f286⟩, ⟨_, _, _, h4, hg.f287⟩, ⟨_, _, _, h5, hg.f295⟩, ⟨_, _, _, h6, hg.f296⟩, ⟨_, _, _, h7, hg.f300⟩⟩
end
section
open PySem.Spec PySem.Calls
set_option maxHeartbeats 0
theorem k_says {K : Params → Frag} {as : List Addr} {e : ∀ P, as = (K P).map (·.1)} (h : ∀ (g : Nat → SC) (P : Params), as.map (He g P).get? = (K P).map (fun p => some p.2)) (w : World) (g : Nat → SC) : (kHook K as e).says w (He g w.params) :=
  Frag.in_of (e w.params) (h g w.params)
theorem says_keeps (H : Hook) (w : World) (h h' : Heap) (x : H.says w h ∧ FsIn w h ∧ TabIn h) (k : ∀ b o, h.get? b = some o → h'.get? b = some o) : H.says w h' ∧ FsIn w h' ∧ TabIn h' := ⟨H.keeps w h h' x.1 k, x.2.1.keeps k, k _ _ x.2.2⟩
theorem said04 : PySem.Challenge.rw_kq0035_04.wellSaid = true := by
  delta OpenLaw.wellSaid
  repeat' (with_reducible refine look_both ?_ ?_)
  all_goals (try (delta OpenRow.wellSaid; repeat' (with_reducible refine look_both ?_ ?_)))
  all_goals (try (delta OpenRow.partSaid OpenScript.wellSaid looksOpen; repeat' (with_reducible refine look_both ?_ ?_)))
  all_goals decide +kernel
theorem head04 (H : Hook) (hH : ∀ (w : World) (g : Nat → SC), H.says w (He g w.params)) {d : DefRec} {kwd : List (Str × PySem.Expr)} (said : PySem.Challenge.rw_kq0035_04.row.wellSaid = true) (hw : PySem.Challenge.rw_kq0035_04.row.toRowW.promised)
    (call : WalkK q0 loose0 (XL q0 []) (fun w h => Hook.says H w h ∧ FsIn w h ∧ TabIn h) PySem.Challenge.rw_kq0035_04.row.toRowW d kwd fun f vs => PySem.call f vs)
    (hdef : defOf q0 PySem.Challenge.rw_kq0035_04.row.name = some (d, kwd) := by rfl) (hp : PySem.Challenge.rw_kq0035_04.row.prog.theDef PySem.Challenge.rw_kq0035_04.row.name = some (d.params, d.body, d.scope) := by rfl) (hk : kwWritten? d.params.kwonlyargs d.params.kw_defaults = some kwd := by rfl) : PySem.Challenge.rw_kq0035_04.row.Holds :=
  holds_headW (q := q0) (loose := loose0) (Xt := Xt0) (XP := XL q0 []) (YP := fun w h => Hook.says H w h ∧ FsIn w h ∧ TabIn h) (head_ok H hH) (says_keeps H) (fun s e => xl_of s (Bool.and_eq_true_iff.mp e).1) XL.keeps hdef hp hk (fun s e => recFacts_of (Bool.and_eq_true_iff.mp e).2) (by rfl) said (by decide +kernel) ⟨rfl, rfl, rfl, rfl, rfl, by decide +kernel⟩ hw call
end
section
open PySem.Spec PySem.Calls
set_option maxHeartbeats 0
local macro_rules | `(tactic| o_head $H) => `(tactic| refine head04 $H (k_says (fun g P => by kernel_rfl)) (by assumption) ?hw ?hc)
local macro_rules | `(tactic| o_law) => `(tactic| refine holds_law said04 fun said => ?_)
open_top law_top for PySem.Challenge.rw_kq0035_04
theorem top_off : True := by
  w_top off
  trivial
end
set_option hygiene false
local macro_rules
  | `(tactic| obtain $p:rcasesPatMed := $h:term) => `(tactic| (refine Classical.byContradiction fun hng9 => ?_; rcases $h:term with $p:rcasesPatMed <;> (refine hng9 ?_; clear hng9)))
set_option hygiene true
section
open PySem.Spec
theorem froz_of_SOk {prog : Program} {w : World} {h : Heap} {a : Addr} {es : Array (Int × Value)} {ep : Nat} {t : SetTable} {l : List (Nat × Tok)} (e : h.get? a = some (setO es ep t)) (ok : SOk w es t l) :
    FrozAt (PySem.strKind prog w) h a (fun x => l.any fun y => x == ⟨#[y.1]⟩) l.length := by
  refine ⟨es, ep, t, e, fun en hen => ?_, fun k => ?_, ok.size, ok.2⟩
  · obtain ⟨x, hx, rfl⟩ := ok.ofMem en hen
    refine ⟨⟨⟨#[x.1]⟩, ?_, ?_⟩, rfl⟩
    · show Value.isStrOf _ (ent w x).2 = true
      simp [ent, Value.isStrOf]
    · rfl
  · rw [List.any_eq_true]
    constructor
    · (intro hr1; obtain ⟨y, hy, hk⟩ := hr1)
      have hk := eq_of_beq hk
      subst hk
      exact ⟨ent w y, ok.1.mem_iff.mpr (List.mem_map_of_mem hy), by simp [ent, PySem.strKind, Value.isStrOf]⟩
    · (intro hr2; obtain ⟨en, hen, hk⟩ := hr2)
      obtain ⟨x, hx, rfl⟩ := ok.ofMem en hen
      refine ⟨x, hx, ?_⟩
      have : Value.isStrOf k (.str ⟨#[x.1]⟩ x.2) = true := hk
      obtain ⟨u, hu⟩ := Value.isStrOf_shape this
      injection hu with h1
      rw [← h1]
      exact beq_self_eq_true _
end
section
open PySem.Spec PySem.Calls
section
variable {prog : Program} {w : World} {A₀ : Around} {E : Value → Shared → Prop} {s' : Shared} {base g h : Heap} {outer : List Env} {L a e : Addr} {m : Str → Option Value} {name : Str} {scope : Scope} {cd : Value} {hs : List ExceptHandler} {Q : Flow → Shared → Prop} {news : List (Addr × Obj)}
theorem look_new {cls : String}
    (k : ∀ G h', Fr g L G m → RaisedSN base G (envOf name scope L a cd :: outer) e (.type cls) news h' → G.UpToSlots h' → wpAny (model prog w) (A₀.deeper (envOf name scope L a cd)) (handleBy (.ref e) (envOf name scope L a cd) hs) Q E { s' with heap := h' })
    (K : Below A₀ base outer g := by assumption) (hx : Heap.NewExc h s'.heap e cls := by assumption) (F : Fr g L h m := by assumption) (N : News g L h news := by assumption) (hk : scope.kind = .function := by rfl) :
    wpAny (model prog w) (A₀.deeper (envOf name scope L a cd)) (noteFrame (.ref e) (envOf name scope L a cd))
      (fun _ s₂ => wpAny (model prog w) (A₀.deeper (envOf name scope L a cd)) (setFlight (.ref e) none) (fun _ s₃ =>
        wpAny (model prog w) (A₀.deeper (envOf name scope L a cd)) (handleBy (.ref e) (envOf name scope L a cd) hs) Q E s₃) E s₂) E s' := by
  have K' := K.push (name := name) (a := a) (cd := cd) F hk
  let fs := (envOf name scope L a cd :: outer).filterMap (·.frame)
  let B := hideAll h fs
  let G := hideAll h (news.map (·.1))
  have hin : ∀ env ∈ (envOf name scope L a cd :: outer), ∀ b, env.frame = some b → b ∈ fs := fun env he b hb => List.mem_filterMap.mpr ⟨env, he, hb⟩
  have st : base.StaysIn B := fun b o q => hideAll_get _ (K'.stays b o q) fun hm => by
    rw [(K'.frames.mem hm).1] at q; cases q
  have nf : ∀ q ∈ news, q.1 ∉ fs := fun q hq hm => by
    obtain ⟨env, he, hf⟩ := List.mem_filterMap.mp hm
    rcases List.mem_cons.mp he with rfl | he
    · exact (N q hq).2.1 (Option.some.inj hf).symm
    · obtain ⟨o, ho, _⟩ := (K.frames.mem (List.mem_filterMap.mpr ⟨env, he, hf⟩)).2
      rw [(N q hq).2.2] at ho; cases ho
  have hl : ∀ q ∈ news, B.get? q.1 = some q.2 ∧ G.get? q.1 = none ∧ base.get? q.1 = none := fun q hq => by
    exact ⟨hideAll_get _ (N q hq).1 (nf q hq), hideAll_none _ (List.mem_map_of_mem hq), fresh_of_stays K.stays (N q hq).2.2⟩
  obtain ⟨ob, tp, he, hcls, hd⟩ := hx.there
  have hen : B.get? e = none := by
    cases q : B.get? e with
    | none => rfl
    | some o => have := of_hideAll _ q; rw [hx.new] at this; cases this
  have nL : L ∉ news.map (·.1) := fun hm => by
    obtain ⟨q, hq, e⟩ := List.mem_map.mp hm
    exact (N q hq).2.1 e
  have FG : Fr g L G m := by
    refine ⟨?_, fun b o q => hideAll_get _ (F.keep b o q) fun hm => ?_, F.above⟩
    · obtain ⟨o, es, ep, ho, hd, r⟩ := F.ns
      exact ⟨o, es, ep, hideAll_get _ ho nL, hd, r⟩
    · obtain ⟨p, hp, rfl⟩ := List.mem_map.mp hm
      rw [(N p hp).2.2] at q; cases q
  have sg : ∀ b o, G.get? b = some o → b ∉ fs → B.get? b = some o := fun b o q nm => hideAll_get _ (of_hideAll _ q) nm
  unfold noteFrame
  have hf : (envOf name scope L a cd).frame = some L := rfl
  simp only [hf]
  have h1 : (#[tp, Value.none, .none, .none, .bool false, .none] : Array Value)[1]? = some .none := rfl
  refine wpAny_bind (wpAny_field he hd h1 ?_)
  rw [if_neg (by decide)]
  refine wpAny_newEntryW (a0 := tp) (base := B) K'.stack ((funFrames_hide K'.frames hin).of_keeps fun b o hb _ => ⟨o, hx.keeps b o hb, rfl⟩) rfl he (fun b o hb => hx.keeps b o (of_hideAll _ hb)) hen hd (by simp) rfl fun h' hL => ?_
  obtain ⟨k1, k2, k3, k4⟩ := hL
  have R : RaisedSN base G (envOf name scope L a cd :: outer) e (.type cls) news h' := ⟨B, tp, st, sg, hl, k1, hen, k2, by rw [← hcls]; exact k3⟩
  have GH : G.UpToSlots h := Heap.UpToSlots.of_keeps fun b o q => of_hideAll _ q
  exact k G h' FG R ((GH.trans (Heap.UpToSlots.of_keeps hx.keeps)).trans k4)
theorem froz_up {K : Type} [DecidableEq K] {prog : Program} {w : World} {knd : KeyKind prog w K} {b g : Heap} {a : Addr} {S : K → Bool} {n : Nat} (H : FrozAt knd b a S n) (st : ∀ x o, b.get? x = some o → g.get? x = some o) : FrozAt knd g a S n := by
  obtain ⟨es, ep, t, h1, h2⟩ := H
  exact ⟨es, ep, t, st _ _ h1, h2⟩
theorem in_frozB {A : Around} {fs : Addr} {S : Str → Bool} {n : Nat} {x : Str} {t : Tok} {Q : Value → Shared → Prop} {E : Value → Shared → Prop} {m : Str → Option Value} (B : Below A₀ base outer g) (F : Fr g L s'.heap m) (H : FrozAt (PySem.strKind prog w) base fs S n) (hn : n < 4096)
    (h : Q (.bool (S x)) { s' with toks := s'.toks + 1 }) : wpAny (model prog w) A (compareOp .In (.str x t) (.ref fs)) Q E s' :=
  in_froz F (froz_up H B.stays) (show Value.isStrOf x (.str x t) = true by simp [Value.isStrOf]) rfl hn h
theorem whl_ind {A : Around} {E : Value → Shared → Prop} {env : Env} {test : PySem.Expr} {body orelse : List Stmt} {Q : Flow → Shared → Prop} (I : Nat → Shared → Prop) (h0 : ∀ s, ¬ I 0 s)
    (step : ∀ k, (∀ s, I k s → WhlRest prog w A E env test body orelse Q k s) → ∀ s, I (k + 1) s → WhlRest prog w A E env test body orelse Q (k + 1) s) : ∀ k s, I k s → WhlRest prog w A E env test body orelse Q k s
  | 0, s, h => absurd h (h0 s)
  | k + 1, s, h => step k (whl_ind I h0 step k) s h
def Stop (P : Prop) : Prop := P
theorem whl_stop {A : Around} {E : Value → Shared → Prop} {env : Env} {test : PySem.Expr} {body orelse : List Stmt} {Q : Flow → Shared → Prop} {s : Shared} (k : Nat) {pos : Pos} (h : Stop (WhlRest prog w A E env test body orelse Q k s)) : wpAny (model prog w) A (exec (.While test body orelse pos) env) Q E s := whl_start k h
theorem rest_stop {A : Around} {E : Value → Shared → Prop} {env : Env} {test : PySem.Expr} {body orelse : List Stmt} {Q : Flow → Shared → Prop} {s : Shared} {k : Nat} (h : Stop (WhlRest prog w A E env test body orelse Q k s)) : WhlRest prog w A E env test body orelse Q k s := h
theorem call_stop {A : Around} {E : Value → Shared → Prop} {f : Value} {args : List Value} {kw : List (Str × Value)} {Q : Value → Shared → Prop} {s : Shared} (h : Stop (wpAny (model prog w) A (call f args kw) Q E s)) : wpAny (model prog w) A (call f args kw) Q E s := h
theorem notin_frozB {A : Around} {fs : Addr} {S : Str → Bool} {n : Nat} {x : Str} {t : Tok} {Q : Value → Shared → Prop} {E : Value → Shared → Prop} {m : Str → Option Value} (B : Below A₀ base outer g) (F : Fr g L s'.heap m) (H : FrozAt (PySem.strKind prog w) base fs S n) (hn : n < 4096)
    (h : Q (.bool (!S x)) { s' with toks := s'.toks + 1 }) : wpAny (model prog w) A (compareOp .NotIn (.str x t) (.ref fs)) Q E s' :=
  notin_froz F (froz_up H B.stays) (show Value.isStrOf x (.str x t) = true by simp [Value.isStrOf]) rfl hn h
theorem Stop.go {P : Prop} (h : P) : Stop P := h
end
end
section
open PySem.Spec PySem.Calls
structure ImpQ {α : Type} (Q Q' : α → Shared → Prop) : Prop where
  go : ∀ v s, Q v s → Q' v s
theorem gen_Q {α : Type} {M : Model} {A : Around} {c : Sem α} {Q : α → Shared → Prop} {E : Value → Shared → Prop} {s : Shared} (k : ∀ Q' : α → Shared → Prop, ImpQ Q Q' → wpAny M A c Q' E s) : wpAny M A c Q E s := k Q ⟨fun _ _ h => h⟩
theorem gen_E {α : Type} {M : Model} {A : Around} {c : Sem α} {Q : α → Shared → Prop} {E : Value → Shared → Prop} {s : Shared} (k : ∀ E' : Value → Shared → Prop, ImpQ E E' → wpAny M A c Q E' s) : wpAny M A c Q E s := k E ⟨fun _ _ h => h⟩
inductive GR (fr : List Addr) (g0 : Heap) (A : Around) (base : Heap) (outer : List Env) (K : Frag) (p : Program) (loose : List Str) (mean : ExcName → Option Value) (mg mb : Str → Option Value) (g : Heap) : Prop
  | mk (T : KtsTurn fr g0 g) (B : Below A base outer g) (X : K.In g) (P : Top p loose mean mg mb g) (D : KtsDicts fr g) : GR fr g0 A base outer K p loose mean mg mb g
structure Hid (p : Prop) : Prop where
  go : p
end
section
open PySem.Builtin PySem.Builtin.Str PySem.StrLaws
theorem min_le2 {a n l : Nat} (h : min (a + n - a) (l - a) = n) : a + n ≤ l ∨ n = 0 := by
  rw [Nat.add_sub_cancel_left] at h
  have h2 : n ≤ l - a := h ▸ Nat.min_le_right ..
  cases n with
  | zero => exact .inr rfl
  | succ k => exact .inl (by rw [Nat.add_comm]; exact Nat.add_le_of_le_sub (Nat.le_of_lt (Nat.lt_of_sub_pos (Nat.lt_of_lt_of_le (Nat.succ_pos k) h2))) h2)
theorem in_rng {lo i hi n : Nat} (h0 : lo ≤ i) (h : i + n ≤ hi) : i < lo + (hi + 1 - lo) := by
  rw [Nat.add_sub_cancel' (Nat.le_succ_of_le (Nat.le_trans h0 (Nat.le_trans (Nat.le_add_right i n) h)))]
  exact Nat.lt_succ_of_le (Nat.le_trans (Nat.le_add_right i n) h)
theorem last_all (x y : Str) (lo hi : Nat) : match lastOccurrence x y lo hi with
    | none => ∀ i, lo ≤ i → ¬ At x y hi i
    | some k => At x y hi k ∧ lo ≤ k ∧ ∀ j, k < j → ¬ At x y hi j := by
  rw [last_eq]
  have key := last_run x y hi (List.range' lo (hi + 1 - lo)) [] none (fun _ h => nomatch h) (fun _ h => nomatch h) (by simpa using List.pairwise_lt_range' (s := lo) (n := hi + 1 - lo))
  have lok : ∀ (l : List Nat) (st : Option Nat), (∀ i ∈ l, lo ≤ i) → (∀ k, st = some k → lo ≤ k) → ∀ k, (forIn l st (lastBody x y hi)).run = some k → lo ≤ k := by
    intro l
    induction l with
    | nil => intro st _ h2 k hk; exact h2 k hk
    | cons a l ih =>
      intro st h1 h2 k
      rw [List.forIn_cons]
      unfold lastBody
      split
      · exact ih _ (fun i hi => h1 i (List.mem_cons_of_mem _ hi)) (fun k hk => by cases hk; exact h1 _ (List.mem_cons_self ..)) k
      · exact ih _ (fun i hi => h1 i (List.mem_cons_of_mem _ hi)) h2 k
  have hlo := lok (List.range' lo (hi + 1 - lo)) none (fun i hi => (List.mem_range'_1.mp hi).1) (fun k hk => by cases hk)
  have mem : ∀ i, lo ≤ i → At x y hi i → i ∈ [] ++ List.range' lo (hi + 1 - lo) := fun i h0 hi => by
    have := hi.1
    rw [List.nil_append, List.mem_range'_1]
    exact ⟨h0, in_rng h0 this⟩
  cases hr : (forIn (List.range' lo (hi + 1 - lo)) none (lastBody x y hi)).run with
  | none => rw [hr] at key; exact fun i h0 hA => key i (mem i h0 hA) hA
  | some a => rw [hr] at key; exact ⟨key.1, hlo a hr, fun j hj hA => key.2 j (mem j (by have := hlo a hr; omega) hA) hj hA⟩
theorem last_some {x y : Str} {lo hi k : Nat} (h : lastOccurrence x y lo hi = some k) : At x y hi k ∧ lo ≤ k ∧ ∀ j, k < j → ¬ At x y hi j := by
  have := last_all x y lo hi
  rw [h] at this; exact this
theorem last_none {x y : Str} {lo hi : Nat} (h : lastOccurrence x y lo hi = none) : ∀ i, lo ≤ i → ¬ At x y hi i := by
  have := last_all x y lo hi
  rw [h] at this; exact this
theorem occ_some {x y : Str} {lo hi limit : Nat} (hl : 1 ≤ limit) (h : occurrences x y lo hi limit ≠ []) : ∃ i, lo ≤ i ∧ At x y hi i := by
  rw [occ_eq] at h
  rcases occ_first x y hi limit hl (List.range' lo (hi + 1 - lo)) lo (fun i hi => (List.mem_range'_1.mp hi).1) with ⟨h0, _⟩ | ⟨pre, a, post, e, h0, ha, hn⟩
  · rw [h0] at h; exact absurd rfl h
  · refine ⟨a, ?_, ha⟩
    have : a ∈ List.range' lo (hi + 1 - lo) := by rw [e]; simp
    exact (List.mem_range'_1.mp this).1
theorem last_of_count {x y : Str} {lo hi limit : Nat} (hl : 1 ≤ limit) (h : (occurrences x y lo hi limit).length ≠ 0) : lastOccurrence x y lo hi ≠ none := fun e => by
  obtain ⟨i, h0, hA⟩ := occ_some hl (fun z => h (by rw [z]; rfl))
  exact last_none e i h0 hA
theorem at_one {x : Str} {c hi i : Nat} (hh : hi ≤ x.length) : At x ⟨#[c]⟩ hi i ↔ i < hi ∧ x.cps.toList[i]? = some c := by
  constructor
  · (intro hr1; obtain ⟨h1, h2⟩ := hr1)
    have e : (⟨#[c]⟩ : Str).length = 1 := rfl
    exact ⟨by omega, (subAt_one x c i).mp ⟨by omega, h2⟩⟩
  · (intro hr2; obtain ⟨h1, h2⟩ := hr2)
    have e : (⟨#[c]⟩ : Str).length = 1 := rfl
    exact ⟨by omega, ((subAt_one x c i).mpr h2).2⟩
theorem occ_len (x : Str) (c hi limit : Nat) (hh : hi ≤ x.length) : ∀ (m cur : Nat) (st : Array Nat × Nat), st.snd ≤ cur → st.fst.size + m ≤ limit →
    (forIn (List.range' cur m) st (occBody x ⟨#[c]⟩ hi limit)).run.fst.size = st.fst.size + (List.range' cur m).countP (fun i => decide (i < hi) && (x.cps.toList[i]? == some c))
  | 0, cur, st, _, _ => by simp
  | m + 1, cur, st, h1, h2 => by
    have e1 : (⟨#[c]⟩ : Str).length = 1 := rfl
    rw [List.range'_succ, List.forIn_cons, List.countP_cons]
    unfold occBody
    by_cases hA : At x ⟨#[c]⟩ hi cur
    · have hb : (decide (cur < hi) && (x.cps.toList[cur]? == some c)) = true := by
        have := (at_one hh).mp hA
        simp [this.1, this.2]
      rw [if_pos ⟨⟨⟨by omega, h1⟩, hA.1⟩, hA.2⟩, if_pos hb]
      refine (occ_len x c hi limit hh m (cur + 1) _ ?_ ?_).trans ?_
      · exact Nat.le_refl _
      · show (st.fst.push cur).size + m ≤ limit; rw [Array.size_push, Nat.add_right_comm]; exact h2
      · show (st.fst.push cur).size + _ = _; rw [Array.size_push, Nat.add_right_comm]; rfl
    · have hb : (decide (cur < hi) && (x.cps.toList[cur]? == some c)) = false := by
        cases q : (decide (cur < hi) && (x.cps.toList[cur]? == some c)) with
        | false => rfl
        | true =>
          simp only [Bool.and_eq_true, decide_eq_true_eq, beq_iff_eq] at q
          exact absurd ((at_one hh).mpr q) hA
      rw [if_neg (fun h => hA ⟨h.1.2, h.2⟩), hb]
      simp only [Bool.false_eq_true, if_false, Nat.add_zero]
      refine (occ_len x c hi limit hh m (cur + 1) _ ?_ ?_)
      · exact Nat.le_succ_of_le h1
      · exact Nat.le_of_succ_le h2
theorem countP_take (l : List Nat) (c : Nat) : ∀ hi, hi ≤ l.length → (List.range' 0 hi).countP (fun i => l[i]? == some c) = (l.take hi).count c
  | 0, _ => by simp
  | k + 1, h => by
    have hk : k < l.length := h
    rw [List.range'_concat, List.countP_append, countP_take l c k (Nat.le_of_succ_le h), List.take_succ, List.getElem?_eq_getElem hk]
    simp only [Option.toList, List.count_append, Nat.one_mul, Nat.zero_add, List.countP_cons, List.countP_nil, List.count_cons, List.count_nil, List.getElem?_eq_getElem hk]
    simp
theorem count_one (x : Str) (c n : Nat) : (occurrences x ⟨#[c]⟩ 0 (min n x.length) (x.length + 1)).length = (x.cps.toList.take n).count c := by
  have hl : x.cps.toList.length = x.length := by simp [Str.length]
  have e := occ_len x c (min n x.length) (x.length + 1) (Nat.min_le_right ..) (min n x.length + 1) 0 ((#[] : Array Nat), 0) (Nat.le_refl _) (by show 0 + (min n x.length + 1) ≤ _; rw [Nat.zero_add]; exact Nat.succ_le_succ (Nat.min_le_right ..))
  rw [occ_eq, Array.length_toList, Nat.sub_zero, e]
  show 0 + _ = _
  rw [Nat.zero_add, List.range'_concat, List.countP_append]
  have z : (List.countP (fun i => decide (i < min n x.length) && (x.cps.toList[i]? == some c)) [0 + 1 * min n x.length]) = 0 := by
    simp
  rw [z, Nat.add_zero]
  have t : x.cps.toList.take n = x.cps.toList.take (min n x.length) := by
    rcases Nat.le_total n x.length with h | h
    · rw [Nat.min_eq_left h]
    · rw [Nat.min_eq_right h, List.take_of_length_le (Nat.le_of_eq hl), List.take_of_length_le (by rw [hl]; exact h)]
  rw [t, ← countP_take _ c _ (by rw [hl]; exact Nat.min_le_right ..)]
  refine List.countP_congr fun i hi => ?_
  have := List.mem_range'_1.mp hi
  simp only [Bool.and_eq_true, decide_eq_true_eq, beq_iff_eq]
  constructor
  · exact fun h => h.2
  · exact fun h => ⟨by rw [Nat.zero_add] at this; exact this.2, h⟩
theorem len_list (x : Str) : x.cps.toList.length = x.length := by simp [Str.length]
theorem slice_list {l : List Nat} {i j n : Nat} (hn : l.length = n) : (l.drop (min i n)).take (min j n - min i n) = (l.drop i).take (j - i) := by
  subst hn
  rcases Nat.le_total i l.length with h | h
  · rw [Nat.min_eq_left h]
    rcases Nat.le_total j l.length with h2 | h2
    · rw [Nat.min_eq_left h2]
    · rw [Nat.min_eq_right h2, List.take_of_length_le (by rw [List.length_drop]; exact Nat.le_refl _), List.take_of_length_le (by rw [List.length_drop]; exact Nat.sub_le_sub_right h2 i)]
  · rw [Nat.min_eq_right h, List.drop_length, List.drop_of_length_le h, List.take_nil, List.take_nil]
theorem clip1 (i n : Nat) : max (0 : Int) (min (if (i : Int) < 0 then (i : Int) + (n : Int) else i) n) = ((min i n : Nat) : Int) := by
  rw [if_neg (Int.not_lt.mpr (Int.natCast_nonneg i)), Int.max_eq_right (Int.le_min.mpr ⟨Int.natCast_nonneg _, Int.natCast_nonneg _⟩)]
  omega
theorem idx_clip (i j n : Nat) : strSliceIndices (some (i : Int)) (some (j : Int)) 1 n = sliceRange ((min i n : Nat) : Int) ((min j n : Nat) : Int) 1 := by
  rw [← clip1, ← clip1]; rfl
theorem min_min' (i n : Nat) : min (min i n) n = min i n := Nat.min_eq_left (Nat.min_le_right i n)
theorem slice_ss (x : Str) (i j : Nat) : (Txt.slice x (some (i : Int)) (some (j : Int))).cps.toList = (x.cps.toList.drop i).take (j - i) := by
  have hn := len_list x
  rw [← slice_list hn]
  have e2 : Txt.slice x (some (i : Int)) (some (j : Int)) = Txt.slice x (some ((min i x.length : Nat) : Int)) (some ((min j x.length : Nat) : Int)) := by
    unfold Txt.slice; rw [idx_clip, idx_clip, min_min', min_min']
  rw [e2]
  by_cases h : min i x.length ≤ min j x.length
  · exact (congrArg (fun s : Str => s.cps.toList) (sliceText_nat x h (Nat.min_le_right j x.length))).trans rfl
  · have h := Nat.lt_of_not_le h
    have hz : min j x.length - min i x.length = 0 := Nat.sub_eq_zero_of_le (Nat.le_of_lt h)
    have h0 : strSliceIndices (some ((min i x.length : Nat) : Int)) (some ((min j x.length : Nat) : Int)) 1 x.length = [] := by
      rw [idx_clip, min_min', min_min']
      simp only [sliceRange]
      rw [if_pos (by decide), if_neg (fun q => Nat.lt_asymm h (Int.ofNat_lt.mp q))]
      rfl
    unfold Txt.slice
    have hx : 0 < x.length := Nat.lt_of_lt_of_le (Nat.lt_of_le_of_lt (Nat.zero_le _) h) (Nat.min_le_right ..)
    rw [h0, hz, if_neg (show ¬ ((1 : Int) == 1 && ([] : List Nat).length == x.length) = true from fun e => Nat.ne_of_lt hx (eq_of_beq (Bool.and_eq_true_iff.mp e).2))]
    rfl
theorem slice_sn (x : Str) (i : Nat) : (Txt.slice x (some (i : Int)) none).cps.toList = x.cps.toList.drop i := by
  have e : Txt.slice x (some (i : Int)) none = Txt.slice x (some (i : Int)) (some (x.length : Int)) := by
    unfold Txt.slice; rw [sliceIdx_none_hi]
  rw [e, slice_ss, List.take_of_length_le]
  rw [List.length_drop, len_list]; exact Nat.le_refl _
theorem slice_ns (x : Str) (j : Nat) : (Txt.slice x none (some (j : Int))).cps.toList = x.cps.toList.take j := by
  have e : Txt.slice x none (some (j : Int)) = Txt.slice x (some ((0 : Nat) : Int)) (some (j : Int)) := by
    unfold Txt.slice; rw [sliceIdx_none_lo]; rfl
  rw [e, slice_ss]; simp
theorem slice_ssI (x : Str) {i j : Int} (hi : 0 ≤ i) (hj : 0 ≤ j) : (Txt.slice x (some i) (some j)).cps.toList = (x.cps.toList.drop i.toNat).take (j.toNat - i.toNat) := by
  obtain ⟨a, rfl⟩ := Int.eq_ofNat_of_zero_le hi
  obtain ⟨b, rfl⟩ := Int.eq_ofNat_of_zero_le hj
  exact slice_ss x a b
theorem item_at {x : Str} {i c : Nat} (h : x.cps.toList[i]? = some c) : Txt.item x (i : Int) = ⟨#[c]⟩ := by
  have hi : i < x.length := by
    have := (List.getElem?_eq_some_iff.mp h).1
    rw [len_list] at this; exact this
  unfold Txt.item Txt.charAt
  rw [seqIndex_nonneg (Int.natCast_nonneg i) (Int.ofNat_lt.mpr hi)]
  have : x.cps[i]? = some c := by simpa using h
  simp [this]
theorem item_atI {x : Str} {i : Int} {c : Nat} (h0 : 0 ≤ i) (h : x.cps.toList[i.toNat]? = some c) : Txt.item x i = ⟨#[c]⟩ := by
  obtain ⟨a, rfl⟩ := Int.eq_ofNat_of_zero_le h0
  exact item_at h
theorem item_ex {x : Str} {i : Int} (h0 : 0 ≤ i) (h : i < x.length) : ∃ c, x.cps.toList[i.toNat]? = some c ∧ Txt.item x i = ⟨#[c]⟩ := by
  have hl : i.toNat < x.cps.toList.length := by rw [len_list]; exact (Int.toNat_lt h0).mpr h
  exact ⟨_, List.getElem?_eq_getElem hl, item_atI h0 (List.getElem?_eq_getElem hl)⟩
theorem any_slice {x : Str} {S : Str → Bool} {i j : Int} (hi : 0 ≤ i) (hj : 0 ≤ j) (hl : j ≤ x.length) : ((Txt.slice x (some i) (some j)).cps.toList.any fun c => S ⟨#[c]⟩) = true ↔ ∃ p, i ≤ p ∧ p < j ∧ S (Txt.item x p) = true := by
  obtain ⟨a, rfl⟩ := Int.eq_ofNat_of_zero_le hi
  obtain ⟨b, rfl⟩ := Int.eq_ofNat_of_zero_le hj
  rw [slice_ss, List.any_eq_true]
  have hl : b ≤ x.cps.toList.length := by rw [len_list]; exact Int.ofNat_le.mp hl
  constructor
  · (intro hr3; obtain ⟨c, hc, hS⟩ := hr3)
    obtain ⟨k, hk⟩ := List.getElem?_of_mem hc
    rw [List.getElem?_take] at hk
    split at hk
    · rename_i hkl
      rw [List.getElem?_drop] at hk
      exact ⟨((a + k : Nat) : Int), Int.ofNat_le.mpr (Nat.le_add_right a k), Int.ofNat_lt.mpr (Nat.add_lt_of_lt_sub' hkl), by rw [item_at hk]; exact hS⟩
    · cases hk
  · (intro hr4; obtain ⟨p, h1, h2, hS⟩ := hr4)
    obtain ⟨p, rfl⟩ := Int.eq_ofNat_of_zero_le (Int.le_trans (Int.natCast_nonneg a) h1)
    have h1 := Int.ofNat_le.mp h1
    have h2 := Int.ofNat_lt.mp h2
    have hp := List.getElem?_eq_getElem (Nat.lt_of_lt_of_le h2 hl)
    rw [item_at hp] at hS
    refine ⟨_, List.mem_of_getElem? (i := p - a) ?_, hS⟩
    rw [List.getElem?_take, if_pos (Nat.sub_lt_sub_right h1 h2), List.getElem?_drop, Nat.add_sub_cancel' h1, hp]
theorem none_slice {x : Str} {S : Str → Bool} {i j : Int} (hi : 0 ≤ i) (hj : 0 ≤ j) (hl : j ≤ x.length) (h : ((Txt.slice x (some i) (some j)).cps.toList.any fun c => S ⟨#[c]⟩) = false) : ∀ p, i ≤ p → p < j → S (Txt.item x p) = false := fun p h1 h2 => by
  cases hS : S (Txt.item x p) with
  | false => rfl
  | true =>
    have := (any_slice hi hj hl).mpr ⟨p, h1, h2, hS⟩
    rw [h] at this; cases this
end
section
open PySem.Spec PySem.Calls PySem.Builtin PySem.Builtin.Str
section
variable {prog : Program} {w : World} {A : Around} {E : Value → Shared → Prop} {s : Shared} {x y : Str} {t u v v2 : Tok} {i j : Int} {Q : Value → Shared → Prop}
theorem index3_or (h0 : occurrences x y (fromIndex x.length i) x.length 1 = [] → ∀ h' tk e, Heap.NewExc s.heap h' e "ValueError" → E (.ref e) { s with heap := h', toks := tk }) (h1 : ∀ k r, occurrences x y (fromIndex x.length i) x.length 1 = k :: r → Q (.int k s.toks) { s with toks := s.toks + 1 }) (hA : A.handled = none := by first | rfl | assumption) :
    wpAny (model prog w) A (call (.builtin "str.index") [.str x t, .str y u, .int i v]) Q E s := by
  cases ho : occurrences x y (fromIndex x.length i) x.length 1 with
  | nil =>
    refine call_meets F.slot_str_index (typeIs_str _ _ _) F.entry_str_index (F.args_str_index_3 _ _ _) (S := raisesNew "ValueError") ?_ ⟨hA, h0 ho⟩
    intro prog w A R s hS
    show wpAny _ _ (match occurrences x y (fromIndex x.length i) (min x.length x.length) 1 with | i :: _ => retInt i | [] => _) _ _ s
    rw [Nat.min_self, ho]
    first
      | exact wpAny_bind (wpAny_rule (by exact_raiseError plainExc_ValueError hS.1 hS.2))
      | exact wpAny_bind (wpAny_rule (wpAny_bind (by exact_raiseError plainExc_ValueError hS.1 hS.2)))
  | cons k r =>
    refine call_gives F.slot_str_index (typeIs_str _ _ _) F.entry_str_index (F.args_str_index_3 _ _ _) (m := .int k) ?_ (h1 k r ho)
    show Gives (match occurrences x y (fromIndex x.length i) (min x.length x.length) 1 with | i :: _ => retInt i | [] => (do rule "str.index.not-found"; raiseError "ValueError" "substring not found")) _
    rw [Nat.min_self, ho]
    exact .of_eq rfl
theorem count4 (h : Q (.int (occurrences x y (fromIndex x.length i) (min (fromIndex x.length j) x.length) (x.length + 1)).length s.toks) { s with toks := s.toks + 1 }) :
    wpAny (model prog w) A (call (.builtin "str.count") [.str x t, .str y u, .int i v, .int j v2]) Q E s := by
  refine call_gives F.slot_str_count (typeIs_str _ _ _) F.entry_str_count (F.args_str_count_4 _ _ _ _) (m := .int (occurrences x y (fromIndex x.length i) (min (fromIndex x.length j) x.length) (x.length + 1)).length) ?_ h
  show Gives (retInt (occurrences x y (fromIndex x.length i) (min (fromIndex x.length j) x.length) (x.length + 1)).length) _
  exact .of_eq rfl
theorem rindex4 {k : Nat} (ho : lastOccurrence x y (fromIndex x.length i) (min (fromIndex x.length j) x.length) = some k) (h : Q (.int k s.toks) { s with toks := s.toks + 1 }) :
    wpAny (model prog w) A (call (.builtin "str.rindex") [.str x t, .str y u, .int i v, .int j v2]) Q E s := by
  refine call_gives F.slot_str_rindex (typeIs_str _ _ _) F.entry_str_rindex (F.args_str_rindex_4 _ _ _ _) (m := .int k) ?_ h
  show Gives (match lastOccurrence x y (fromIndex x.length i) (min (fromIndex x.length j) x.length) with | some i => retInt i | none => (do rule "str.rindex.not-found"; raiseError "ValueError" "substring not found")) _
  rw [ho]
  exact .of_eq rfl
theorem rindex4_or (ho : lastOccurrence x y (fromIndex x.length i) (min (fromIndex x.length j) x.length) ≠ none) (h : ∀ k, lastOccurrence x y (fromIndex x.length i) (min (fromIndex x.length j) x.length) = some k → Q (.int k s.toks) { s with toks := s.toks + 1 }) :
    wpAny (model prog w) A (call (.builtin "str.rindex") [.str x t, .str y u, .int i v, .int j v2]) Q E s := by
  cases e : lastOccurrence x y (fromIndex x.length i) (min (fromIndex x.length j) x.length) with
  | none => exact absurd e ho
  | some k => exact rindex4 e (h k e)
theorem nl_is : Str.ofString "\n" = ⟨#[10]⟩ := by kernel_rfl
theorem from_zero (n : Nat) : fromIndex n 0 = 0 := by simp [fromIndex]
theorem from_pos {n : Nat} {i : Int} (h : 0 ≤ i) : fromIndex n i = i.toNat := by
  unfold fromIndex
  rw [if_neg (Int.not_lt.mpr h), Int.max_eq_right h]
noncomputable def lastNl (x : Str) (j : Nat) : Option Nat := lastOccurrence x ⟨#[10]⟩ 0 (min j x.length)
theorem lastNl_lt {x : Str} {j k : Nat} (h : lastNl x j = some k) : k < j ∧ k < x.length := by
  have := (last_some h).1.1
  have h2 : k + 1 ≤ min j x.length := this
  exact ⟨Nat.lt_of_lt_of_le h2 (Nat.min_le_left ..), Nat.lt_of_lt_of_le h2 (Nat.min_le_right ..)⟩
theorem int_short {i : Int} (h0 : 0 ≤ i) (h : i ≤ 2000000) : (Str.ofString (toString i)).length ≤ 1921 := by
  refine int_text_len_1921 ?_
  by_cases hz : i.natAbs = 0
  · rw [hz]; decide
  · rw [Nat.log2_lt hz]
    obtain ⟨a, rfl⟩ := Int.eq_ofNat_of_zero_le h0
    exact Nat.lt_of_le_of_lt (Int.ofNat_le.mp h) (by decide +kernel)
theorem count_nl (h : ∀ n : Nat, n = (x.cps.toList.take j.toNat).count 10 → n ≤ x.length → (Str.ofString (toString ((n : Int) + 1))).length ≤ 1921 → Q (.int n s.toks) { s with toks := s.toks + 1 }) (hj : 0 ≤ j := by omega) (hx : (x.length : Int) < 1000000 := by assumption) :
    wpAny (model prog w) A (call (.builtin "str.count") [.str x t, .str (Str.ofString "\n") u, .int 0 v, .int j v2]) Q E s := by
  refine count4 ?_
  rw [nl_is, from_zero, from_pos hj, count_one]
  have hle : (x.cps.toList.take j.toNat).count 10 ≤ x.length := by
    refine Nat.le_trans List.count_le_length ?_
    rw [List.length_take]
    exact Nat.min_le_right ..
  exact h _ rfl hle (int_short (Int.natCast_nonneg (_ + 1)) (Int.le_trans (Int.add_one_le_of_lt (Int.lt_of_le_of_lt (Int.ofNat_le.mpr hle) hx)) (by decide)))
theorem rindex_nl (h : ∀ k, lastNl x j.toNat = some k → k < x.length → (k : Int) < j → (Str.ofString (toString (j - (k : Int)))).length ≤ 1921 → Q (.int k s.toks) { s with toks := s.toks + 1 }) (hj : 0 ≤ j := by omega) (hc : (x.cps.toList.take j.toNat).count 10 ≠ 0 := by simp only [decide_eq_true_eq, decide_eq_false_iff_not] at *; omega) (hj2 : j ≤ 2000000 := by omega) :
    wpAny (model prog w) A (call (.builtin "str.rindex") [.str x t, .str (Str.ofString "\n") u, .int 0 v, .int j v2]) Q E s := by
  rw [nl_is]
  refine rindex4_or ?_ fun k hk => ?_
  · rw [from_zero, from_pos hj]
    exact last_of_count (limit := x.length + 1) (by omega) (by rw [count_one]; exact hc)
  · rw [from_zero, from_pos hj] at hk
    have := lastNl_lt (x := x) (j := j.toNat) hk
    have h9 := Int.lt_toNat.mp this.1
    exact h k hk this.2 h9 (int_short (Int.sub_nonneg_of_le (Int.le_of_lt h9)) (Int.le_trans (Int.sub_le_self j (Int.natCast_nonneg k)) hj2))
noncomputable def lineW (x : Str) (j : Int) : Int := (x.cps.toList.take j.toNat).count 10 + 1
noncomputable def colW (x : Str) (j : Int) : Int := match lastNl x j.toNat with | some k => j - k | none => j + 1
noncomputable def spotW (x : Str) (j : Int) : Str := if (x.length : Int) ≤ j then Str.ofString "end of document" else Str.ofString "line " ++ Str.ofString (toString (lineW x j)) ++ Str.ofString ", column " ++ Str.ofString (toString (colW x j))
theorem lastNl_none {x : Str} {j : Nat} (h : (x.cps.toList.take j).count 10 = 0) : lastNl x j = none := by
  unfold lastNl
  cases e : lastOccurrence x ⟨#[10]⟩ 0 (min j x.length) with
  | none => rfl
  | some k =>
    have hA := (at_one (Nat.min_le_right ..)).mp (last_some e).1
    have hm : 10 ∈ x.cps.toList.take j := by
      refine List.mem_of_getElem? (i := k) ?_
      rw [List.getElem?_take_of_lt (Nat.lt_of_lt_of_le hA.1 (Nat.min_le_left ..))]
      exact hA.2
    exact absurd (List.count_pos_iff.mpr hm) (by rw [h]; exact Nat.lt_irrefl 0)
end
end
section
open PySem.Spec PySem.Calls
section
variable {M : Model} {A : Around} {E : Value → Shared → Prop} {env : Env} {s : Shared}
variable {nm q : Str} {C N : Addr} {bs bm : List Value} {hdct : Bool} {sn : List Str} {sub : List Value} {ab : Bool} {col : Option Bool} {dd : Option Addr} {k0 k1 k2 k3 k5 : Option Value} {newId : String}
noncomputable abbrev excObj (C t : Addr) : Obj := { cls := .ref C, data := .fields #[.ref t, .none, .none, .none, .bool false, .none] }
noncomputable abbrev excObjFrom (C t hd : Addr) : Obj := { cls := .ref C, data := .fields #[.ref t, .none, .ref hd, .none, .bool true, .none] }
theorem raise_own {x : PySem.Expr} {pos : Pos} {Q : Flow → Shared → Prop} (h : wpAny M A (eval x env) (fun v s₁ => ∃ e t, v = .ref e ∧ (∃ nm q N bs bm hdct sn sub ab col dd k0 k1 k2 k3 k5 newId, s₁.heap.get? C = some (excClassObj nm q C N bs bm hdct sn sub ab col dd k0 k1 k2 k3 k5 newId) ∧ bm.contains (.type "BaseException") = true) ∧
      s₁.heap.get? e = some (excObj C t) ∧ E (.ref e) s₁) E s) (hh : A.handled = none := by first | rfl | assumption) :
    wpAny M A (exec (.Raise (some x) none pos) env) Q E s := by
  rw [arm_exec_Raise]
  refine wpAny_bind (wpAny_standAt ?_)
  simp only [evalOpt, Option.map]
  unfold raiseStmt
  refine wpAny_bind (wpAny_bind (wpAny_mono h (fun v s₁ h₁ => wpAny_bind (wpAny_standAt (wpAny_pure ?_))) fun _ _ x => x))
  obtain ⟨e, t, rfl, ⟨nm, q, N, bs, bm, hdct, sn, sub, ab, col, dd, k0, k1, k2, k3, k5, newId, hC, hbase⟩, he, hE⟩ := h₁
  have hcB : (Value.ref C :: bm).contains (.type "BaseException") = true := by rw [List.contains_cons, hbase, Bool.or_true]
  obtain ⟨hp, g, d, tk, os⟩ := s₁
  repeat (first | with_reducible refine wpAny_loadPart_at he ?_ | with_reducible refine wpAny_loadPart_at hC ?_ | (with_reducible refine wpAny_isSubtype_exc hC ?_; rw [hcB]) | wp_step)
  exact wpAny_raiseNew_none hh hE
end
section
variable {prog : Program} {w : World} {A : Around} {E : Value → Shared → Prop} {env : Env} {s : Shared} {C : Addr}
theorem unchain_entry : entryFor table "proto.unchain" = some Builtin.«proto.unchain» := entryFor_of_fast (by kernel_rfl)
theorem raise_own_from {x : PySem.Expr} {pos cpos : Pos} {kc : Nat} {Q : Flow → Shared → Prop} {hd : Addr} (h : wpAny (model prog w) A (eval x env) (fun v s₁ => ∃ e t, v = .ref e ∧ (∃ nm q N bs bm hdct sn sub ab col dd k0 k1 k2 k3 k5 newId, s₁.heap.get? C = some (excClassObj nm q C N bs bm hdct sn sub ab col dd k0 k1 k2 k3 k5 newId) ∧ bm.contains (.type "BaseException") = true) ∧
      s₁.heap.get? e = some (excObj C t) ∧ e ≠ hd ∧ (∃ o vs, s₁.heap.get? hd = some o ∧ o.data = .fields vs ∧ vs[2]? = some .none) ∧
      ∀ h', h'.get? e = some (excObjFrom C t hd) → Heap.SameBut e s₁.heap h' → E (.ref e) { s₁ with heap := h' }) E s) (hh : A.handled = some (.ref hd) := by exact rfl) :
    wpAny (model prog w) A (exec (.Raise (some x) (some (.Constant .none kc cpos)) pos) env) Q E s := by
  rw [arm_exec_Raise]
  refine wpAny_bind (wpAny_standAt ?_)
  simp only [evalOpt, Option.map]
  unfold raiseStmt
  refine wpAny_bind (wpAny_bind (wpAny_mono h (fun v s₁ h₁ => wpAny_bind (wpAny_standAt (wpAny_pure ?_))) fun _ _ x => x))
  obtain ⟨e, t, rfl, ⟨nm, q, N, bs, bm, hdct, sn, sub, ab, col, dd, k0, k1, k2, k3, k5, newId, hC, hbase⟩, he, hne, ⟨o, vs, hhd, hdd, h2⟩, hE⟩ := h₁
  have hcB : (Value.ref C :: bm).contains (.type "BaseException") = true := by rw [List.contains_cons, hbase, Bool.or_true]
  obtain ⟨hp, g, d, tk, os⟩ := s₁
  repeat (first | with_reducible refine wpAny_loadPart_at he ?_ | with_reducible refine wpAny_loadPart_at hC ?_ | (with_reducible refine wpAny_isSubtype_exc hC ?_; rw [hcB]) | wp_step)
  have hCe : C ≠ e := fun q => by
    rw [q] at hC
    have hC : hp.get? e = _ := hC
    have he : hp.get? e = _ := he
    rw [he] at hC
    have := congrArg (Option.map Obj.data) hC
    simp [excClassObj] at this
  have hhe : hd ≠ e := fun q => hne q.symm
  have g1 : ((hp.update e (Obj.mapFields fun x => x.setIfInBounds 3 Value.none)).update e (Obj.mapFields fun x => x.setIfInBounds 4 (Value.bool true))).get? C = some (excClassObj nm q C N bs bm hdct sn sub ab col dd k0 k1 k2 k3 k5 newId) :=
    (Heap.get?_update_other _ _ (Ne.symm hCe)).trans ((Heap.get?_update_other _ _ (Ne.symm hCe)).trans hC)
  have g2 : ((hp.update e (Obj.mapFields fun x => x.setIfInBounds 3 Value.none)).update e (Obj.mapFields fun x => x.setIfInBounds 4 (Value.bool true))).get? e = some { cls := .ref C, data := .fields #[.ref t, .none, .none, .none, .bool true, .none] } :=
    (Heap.get?_update_self _ (Heap.get?_update_self _ he rfl) rfl)
  have g3 : ((hp.update e (Obj.mapFields fun x => x.setIfInBounds 3 Value.none)).update e (Obj.mapFields fun x => x.setIfInBounds 4 (Value.bool true))).get? hd = some o :=
    (Heap.get?_update_other _ _ hne).trans ((Heap.get?_update_other _ _ hne).trans hhd)
  have g4 : Heap.SameBut e hp ((hp.update e (Obj.mapFields fun x => x.setIfInBounds 3 Value.none)).update e (Obj.mapFields fun x => x.setIfInBounds 4 (Value.bool true))) :=
    (Heap.SameBut.update ..).trans (Heap.SameBut.update ..)
  generalize hH : ((hp.update e (Obj.mapFields fun x => x.setIfInBounds 3 Value.none)).update e (Obj.mapFields fun x => x.setIfInBounds 4 (Value.bool true))) = H at g1 g2 g3 g4 ⊢
  repeat (first | with_reducible refine wpAny_loadPart_at g2 ?_ | with_reducible refine wpAny_loadPart_at g1 ?_ | (with_reducible refine wpAny_isSubtype_exc g1 ?_; rw [hcB]) | wp_step)
  unfold raiseNew
  refine wpAny_bind (wpAny_handled ?_)
  rw [hh]
  dsimp only
  rw [if_pos (show (Value.ref hd != Value.ref e) = true from by simp [hhe])]
  refine wpAny_bind (wpAny_holding (wpAny_runValue (codeAny_builtin unchain_entry ?_)))
  unfold Builtin.«proto.unchain»
  dsimp only
  refine wpAny_bind (wpAny_field g3 hdd h2 ?_)
  rw [if_pos (show (Value.none == Value.none) = true from by decide)]
  repeat wp_step
  exact hE _ (Heap.get?_update_self _ g2 rfl) (g4.trans (Heap.SameBut.update ..))
end
end
section
open PySem.Spec PySem.Calls
section
variable {M : Model} {A : Around} {E : Value → Shared → Prop} {s : Shared}
def FlyK (base : Heap) (l : List Env) (e T : Addr) (oe : Obj) (h : Heap) : Prop :=
  base.StaysIn h ∧ h.FunFrames base l ∧ h.get? e = some oe ∧ base.get? e = none ∧ base.get? T = none ∧ T ≠ e ∧ ∃ oT ts, h.get? T = some oT ∧ oT.data = .fields ts ∧ 3 < ts.size
theorem FlyK.keeps {base h h' : Heap} {l : List Env} {e T : Addr} {oe : Obj} (R : FlyK base l e T oe h) (k : ∀ b o, h.get? b = some o → h'.get? b = some o) : FlyK base l e T oe h' := by
  obtain ⟨h1, h2, h3, h4, h5, h6, oT, ts, h7, h8, h9⟩ := R
  exact ⟨fun b o q => k b o (h1 b o q), h2.of_keeps fun b o q _ => ⟨o, k b o q, rfl⟩, k _ _ h3, h4, h5, h6, oT, ts, k _ _ h7, h8, h9⟩
theorem landK {base : Heap} {l : List Env} {e T : Addr} {oe : Obj} {vs : Array Value} {Q : Unit → Shared → Prop} (R : FlyK base l e T oe s.heap) (hd : oe.data = .fields vs) (h1 : vs[1]? = some (.ref T))
    (hQ : ∀ h', FlyK base l e T oe h' → s.heap.UpToSlots h' → Q () { s with heap := h' }) : wpAny M A (setFlight (.ref e) none) Q E s := by
  obtain ⟨r1, r2, r3, r4, r5, r6, oT, ts, r7, r8, r9⟩ := R
  have oth : ∀ b, b ≠ T → (s.heap.update T (Obj.mapFields (·.setIfInBounds 3 Value.none))).get? b = s.heap.get? b := fun b hb => Heap.get?_update_other _ _ (Ne.symm hb)
  have nT : ∀ b o, s.heap.get? b = some o → (∀ ws, o.data ≠ .fields ws) → b ≠ T := fun b o hb hnf q => by
    rw [q, r7] at hb
    exact hnf ts ((Option.some.inj hb) ▸ r8)
  refine wpAny_setFlight_none r3 hd h1 r7 r8 r9 (hQ _ ⟨fun b o hb => (oth b fun q => ?_).trans (r1 b o hb), r2.of_keeps fun b o hb hnf => ⟨o, (oth b (nT b o hb hnf)).trans hb, rfl⟩, (oth e (Ne.symm r6)).trans r3, r4, r5, r6, ?_⟩ fun b o hb hnf => ⟨o.slots, (oth b (nT b o hb hnf)).trans hb⟩)
  · rw [q, r5] at hb; cases hb
  · exact ⟨_, _, Heap.get?_update_self _ r7 (Obj.isFreed_of_fields (Obj.data_mapFields r8 _)), Obj.data_mapFields r8 _, by simpa using r9⟩
theorem noteK {base : Heap} {env : Env} {outer : List Env} {L e : Addr} {oe : Obj} {tp : Value} {Q : Unit → Shared → Prop}
    (hfr : A.frames = some (env :: outer)) (hl : s.heap.FunFrames base (env :: outer)) (hf : env.frame = some L) (he : s.heap.get? e = some oe) (hkb : base.StaysIn s.heap) (hen : base.get? e = none)
    (hd : oe.data = .fields #[tp, .none, .none, .none, .bool false, .none])
    (hQ : ∀ h' oe' T, oe'.cls = oe.cls → oe'.data = .fields #[tp, .ref T, .none, .none, .bool false, .none] → FlyK base (env :: outer) e T oe' h' → s.heap.UpToSlots h' → Q () { s with heap := h' }) :
    wpAny M A (noteFrame (.ref e) env) (fun _ s' => wpAny M A (setFlight (.ref e) none) Q E s') E s := by
  unfold noteFrame
  simp only [hf]
  refine wpAny_bind (wpAny_field he hd (x := .none) rfl ?_)
  rw [if_neg (by decide)]
  refine wpAny_bind (wpAny_frameOf_fun hfr hl hf fun h₁ ⟨_, q2, q3⟩ => ?_)
  refine wpAny_bind (wpAny_entryPlaceOf fun pl hpl => ?_)
  unfold EntryCells.newEntry newFields
  refine wpAny_bind (wpAny_newObj_type ?_ (hpl.sizeOk5 _ _ _ _ _))
  have nf : e ∉ (env :: outer).filterMap (·.frame) := fun hm => by
    obtain ⟨_, o, ho, hnf⟩ := hl.mem hm
    rw [he] at ho
    exact hnf _ ((Option.some.inj ho) ▸ hd)
  have he₁ : h₁.get? e = some oe := (q2 e nf).trans he
  generalize hob : ({ cls := .type "traceback", dict := none, data := .fields ([Value.none, .ref L, .none, rawInt L, .none] ++ (if pl.isEmpty then List.replicate 6 Value.none else pl)).toArray } : Obj) = ob
  have hobd : ob.data = .fields ([Value.none, .ref L, .none, rawInt L, .none] ++ (if pl.isEmpty then List.replicate 6 Value.none else pl)).toArray := by rw [← hob]
  have hobf : ob.isFreed = false := by rw [← hob]; rfl
  have he₂ : (h₁.push ob).get? e = some oe := Heap.get?_push_of_some _ he₁
  have hTe : h₁.objs.size ≠ e := Nat.ne_of_gt (Heap.lt_size he₁)
  refine wpAny_setField he₂ hd (show 1 < 6 by decide) ?_
  dsimp only
  have hd₃ : (Obj.mapFields (·.setIfInBounds 1 (Value.ref h₁.objs.size)) oe).data = .fields #[tp, .ref h₁.objs.size, .none, .none, .bool false, .none] := (Obj.data_mapFields hd _).trans rfl
  have he₃ : ((h₁.push ob).update e (Obj.mapFields (·.setIfInBounds 1 (Value.ref h₁.objs.size)))).get? e = some (Obj.mapFields (·.setIfInBounds 1 (Value.ref h₁.objs.size)) oe) := Heap.get?_update_self _ he₂ (Obj.isFreed_of_fields hd₃)
  have hT₃ : ((h₁.push ob).update e (Obj.mapFields (·.setIfInBounds 1 (Value.ref h₁.objs.size)))).get? h₁.objs.size = some ob := (Heap.get?_update_other _ _ (Ne.symm hTe)).trans (Heap.get?_push_size h₁ hobf)
  have kb₁ : base.StaysIn h₁ := fun b o hb => (q2 b fun hm => by rw [(hl.mem hm).1] at hb; cases hb).trans (hkb b o hb)
  have ne : ∀ b o, s.heap.get? b = some o → (∀ ws, o.data ≠ .fields ws) → b ≠ e := fun b o hb hnf q => by
    rw [q, he] at hb
    exact hnf _ ((Option.some.inj hb) ▸ hd)
  have up : ∀ b o, b ≠ e → h₁.get? b = some o → ((h₁.push ob).update e (Obj.mapFields (·.setIfInBounds 1 (Value.ref h₁.objs.size)))).get? b = some o := fun b o hb e' =>
    (Heap.get?_update_other _ _ (Ne.symm hb)).trans (Heap.get?_push_of_some _ e')
  refine landK ⟨fun b o hb => up b o (fun q => by rw [q, hen] at hb; cases hb) (kb₁ b o hb), hl.of_keeps fun b o hb hnf => ?_, he₃, hen, kb₁.fresh, hTe, ob, _, hT₃, hobd, ?_⟩ hd₃ rfl fun h' R' U' => hQ h' _ _ (Obj.cls_mapFields _ _) hd₃ R' (Heap.UpToSlots.trans (fun b o hb hnf => ?_) U')
  · obtain ⟨sl, hs⟩ := q3 b o hb
    exact ⟨_, up b _ (ne b o hb hnf) hs, rfl⟩
  · simp only [List.size_toArray, List.length_append, List.length_cons, List.length_nil]; omega
  · obtain ⟨sl, hs⟩ := q3 b o hb
    exact ⟨sl, up b _ (ne b o hb hnf) hs⟩
end
section
variable {prog : Program} {w : World} {A₀ : Around} {E : Value → Shared → Prop} {s' : Shared} {base g g₀ h : Heap} {outer : List Env} {L a e : Addr} {m : Str → Option Value} {name : Str} {scope : Scope} {cd : Value}
  {b₀ : Stmt} {suite : List Stmt} {pos : Pos} {rest : List ExceptHandler} {Q : Flow → Shared → Prop} {news : List (Addr × Obj)} {KF : Frag} {tt : PySem.Expr} {p : Program} {loose : List Str} {mean : ExcName → Option Value} {mg mb : Str → Option Value}
theorem grounds (K : Below A₀ base outer g) (F : Fr g L h m) (N : News g L h news) (hk : scope.kind = .function) :
    base.StaysIn (hideAll h ((envOf name scope L a cd :: outer).filterMap (·.frame))) ∧ h.FunFrames (hideAll h ((envOf name scope L a cd :: outer).filterMap (·.frame))) (envOf name scope L a cd :: outer) ∧
    Fr g L (hideAll h (news.map (·.1))) m ∧ (∀ b o, (hideAll h (news.map (·.1))).get? b = some o → b ∉ (envOf name scope L a cd :: outer).filterMap (·.frame) → (hideAll h ((envOf name scope L a cd :: outer).filterMap (·.frame))).get? b = some o) ∧
    (∀ q ∈ news, (hideAll h ((envOf name scope L a cd :: outer).filterMap (·.frame))).get? q.1 = some q.2 ∧ (hideAll h (news.map (·.1))).get? q.1 = none ∧ base.get? q.1 = none) := by
  have K' := K.push (name := name) (a := a) (cd := cd) F hk
  have hin : ∀ env ∈ (envOf name scope L a cd :: outer), ∀ b, env.frame = some b → b ∈ (envOf name scope L a cd :: outer).filterMap (·.frame) := fun env he b hb => List.mem_filterMap.mpr ⟨env, he, hb⟩
  have nf : ∀ q ∈ news, q.1 ∉ (envOf name scope L a cd :: outer).filterMap (·.frame) := fun q hq hm => by
    rcases kts_mem hm with z | z
    · exact (N q hq).2.1 z
    · obtain ⟨o, ho, _⟩ := (K.frames.mem z).2
      rw [(N q hq).2.2] at ho; cases ho
  refine ⟨fun b o q => hideAll_get _ (K'.stays b o q) fun hm => ?_, funFrames_hide K'.frames hin, ⟨?_, fun b o q => hideAll_get _ (F.keep b o q) fun hm => ?_, F.above⟩, fun b o q nm => hideAll_get _ (of_hideAll _ q) nm, fun q hq => ⟨hideAll_get _ (N q hq).1 (nf q hq), hideAll_none _ (List.mem_map_of_mem hq), fresh_of_stays K.stays (N q hq).2.2⟩⟩
  · rw [(K'.frames.mem hm).1] at q; cases q
  · obtain ⟨o, es, ep, ho, hd, r⟩ := F.ns
    refine ⟨o, es, ep, hideAll_get _ ho fun hm => ?_, hd, r⟩
    obtain ⟨q, hq, z⟩ := List.mem_map.mp hm
    exact (N q hq).2.1 z
  · obtain ⟨p, hp, rfl⟩ := List.mem_map.mp hm
    rw [(N p hp).2.2] at q; cases q
theorem catch_new {cls : String}
    (k : ∀ h' g' oe tp T, oe.data = .fields #[tp, .ref T, .none, .none, .bool false, .none] → (∀ q ∈ news, e ≠ q.1) → KtsTurn (outer.filterMap (·.frame)) g₀ g' → Fr g' L h' m → News g' L h' ((e, oe) :: news) → Below A₀ base outer g' → KF.In g' → Top p loose mean mg mb g' → KtsDicts (outer.filterMap (·.frame)) g' →
      wpAny (model prog w) ((A₀.deeper (envOf name scope L a cd)).mark (some (.ref e))) (execs (b₀ :: suite) (envOf name scope L a cd)) Q E { s' with heap := h' })
    (K : Below A₀ base outer g := by assumption) (hx : Heap.NewExc h s'.heap e cls := by assumption) (F : Fr g L h m := by assumption) (N : News g L h news := by assumption) (XB : KF.In base := by assumption) (TB : Top p loose mean mg mb base := by assumption) (D : KtsDicts (outer.filterMap (·.frame)) g := by assumption) (T0 : KtsTurn (outer.filterMap (·.frame)) g₀ g := by k_data) (T : KtsTest prog w KF p loose mg mb name scope L a cd (.type cls) tt true := by kts_test)
    (hE : PassesOwnAt (model prog w) ((A₀.deeper (envOf name scope L a cd)).mark (some (.ref e))) (A₀.deeper (envOf name scope L a cd)) (envOf name scope L a cd) E := by passes_own) (hk : scope.kind = .function := by rfl) :
    wpAny (model prog w) (A₀.deeper (envOf name scope L a cd)) (noteFrame (.ref e) (envOf name scope L a cd))
      (fun _ s₂ => wpAny (model prog w) (A₀.deeper (envOf name scope L a cd)) (setFlight (.ref e) none) (fun _ s₃ =>
        wpAny (model prog w) (A₀.deeper (envOf name scope L a cd)) (handleBy (.ref e) (envOf name scope L a cd) (.ExceptHandler (some tt) none (b₀ :: suite) pos :: rest)) Q E s₃) E s₂) E s' := by
  obtain ⟨st, ff, FG, sg, hl⟩ := grounds (name := name) (scope := scope) (a := a) (cd := cd) K F N hk
  have K' := K.push (name := name) (a := a) (cd := cd) F hk
  obtain ⟨ob, tp, he, hcls, hd⟩ := hx.there
  have hg : ∀ b o, (hideAll h ((envOf name scope L a cd :: outer).filterMap (·.frame))).get? b = some o → s'.heap.get? b = some o := fun b o q => hx.keeps b o (of_hideAll _ q)
  have hen : (hideAll h ((envOf name scope L a cd :: outer).filterMap (·.frame))).get? e = none := by
    cases q : (hideAll h ((envOf name scope L a cd :: outer).filterMap (·.frame))).get? e with
    | none => rfl
    | some o => have := of_hideAll _ q; rw [hx.new] at this; cases this
  have nLe : e ≠ L := fun z => by
    obtain ⟨o, es, ep, ho, _⟩ := F.ns
    rw [← z, hx.new] at ho; cases ho
  have neq : ∀ q ∈ news, e ≠ q.1 := fun q hq z => by
    have := (N q hq).1
    rw [← z, hx.new] at this; cases this
  have GS : (hideAll h (news.map (·.1))).UpToSlots s'.heap := Heap.UpToSlots.of_keeps fun b o q => hx.keeps b o (of_hideAll _ q)
  refine noteK K'.stack (ff.of_keeps fun b o hb _ => ⟨o, hx.keeps b o hb, rfl⟩) rfl he hg hen hd fun h₃ oe T3 hc3 hd3 R3 U3 => ?_
  obtain ⟨g₅, T₅, F₅, K₅⟩ := kts_ground K FG sg R3.1 (GS.trans U3)
  refine wpAny_handleBy_cons (codeAny_handlers_test (T _ _ _ _ g₅ e m F₅ (XB.keeps K₅.stays) (topRead_of (TB.keeps K₅.stays)) ?_ fun h₅ kp => ?_)) (by intro q; cases q)
  · rw [← hcls, ← hc3]
    exact (Looks.ld R3.2.2.1).andThen .now
  refine codeAny_handlers_suite (landK (R3.keeps kp) hd3 rfl fun h₆ R6 U6 => ?_)
  obtain ⟨g₆, T₆, F₆, K₆⟩ := kts_ground K FG sg R6.1 (GS.trans (U3.trans ((Heap.UpToSlots.of_keeps kp).trans U6)))
  have eg : g₆.get? e = none := T₆.none_ _ (kts_none F.keep hx.new)
  have hL : (hideAll h ((envOf name scope L a cd :: outer).filterMap (·.frame))).get? L = none := hideAll_none _ (List.mem_cons_self ..)
  refine wpAny_passesOwnAt hE (k h₆ g₆ oe tp T3 hd3 neq (T0.trans T₆) F₆ (fun q hq => ?_) K₆ (XB.keeps K₆.stays) (TB.keeps K₆.stays) (D.turn T₆))
  rcases List.mem_cons.mp hq with rfl | hq
  · exact ⟨R6.2.2.1, nLe, eg⟩
  · exact ⟨R6.1 _ _ (hl q hq).1, (N q hq).2.1, T₆.none_ _ (N q hq).2.2⟩
end
section
variable {M : Model} {A : Around} {E : Value → Shared → Prop} {s' : Shared} {base g : Heap} {outer : List Env} {L a e t : Addr} {m : Str → Option Value} {name : Str} {scope : Scope} {cd : Value} {Q : Unit → Shared → Prop} {news : List (Addr × Obj)}
theorem leave_led {oe : Obj} {vs : Array Value} {ws : List Value} (K : Below A base outer g) (F : Fr g L s'.heap m) (N : News g L s'.heap ((e, oe) :: (t, { cls := .type "tuple", data := .seq ws.toArray }) :: news)) (hd : oe.data = .fields vs) (h0 : vs[0]? = some (.ref t)) (h1 : vs[1]? = some .none) (hne : ∀ q ∈ news, e ≠ q.1 ∧ t ≠ q.1)
    (hQ : ∀ h', RaisedS base g outer e oe.cls t ws news h' → g.UpToSlots h' → Q () { s' with heap := h' }) (hk : scope.kind = .function := by rfl) :
    wpAny M (A.deeper (envOf name scope L a cd)) (leaving (envOf name scope L a cd) (.ref e)) Q E s' := by
  have N' : News g L s'.heap news := fun q hq => N q (.tail _ (.tail _ hq))
  have K' := K.push (name := name) (a := a) (cd := cd) F hk
  have Ne := N _ (.head _)
  have Nt := N _ (.tail _ (.head _))
  have ntf : ∀ b o, s'.heap.get? b = some o → g.get? b = none → b ≠ L → b ∉ (envOf name scope L a cd :: outer).filterMap (·.frame) := fun b o hb hg hn hm => by
    rcases kts_mem hm with z | z
    · exact hn z
    · obtain ⟨o, ho, _⟩ := (K.frames.mem z).2
      rw [hg] at ho; cases ho
  let fs := (envOf name scope L a cd :: outer).filterMap (·.frame)
  have hin : ∀ env ∈ (envOf name scope L a cd :: outer), ∀ b, env.frame = some b → b ∈ e :: t :: fs := fun env he b hb => .tail _ (.tail _ (List.mem_filterMap.mpr ⟨env, he, hb⟩))
  have old : ∀ b o, g.get? b = some o → b ≠ e ∧ b ≠ t := fun b o q => ⟨fun z => (by rw [z, Ne.2.2] at q; exact nomatch q), fun z => (by rw [z, Nt.2.2] at q; exact nomatch q)⟩
  have sg : ∀ b o, g.get? b = some o → b ∉ outer.filterMap (·.frame) → (hideAll s'.heap (e :: t :: fs)).get? b = some o := fun b o q nm => hideAll_get _ (F.keep b o q) fun hm => by
    rcases List.mem_cons.mp hm with z | hm
    · exact (old b o q).1 z
    · rcases List.mem_cons.mp hm with z | hm
      · exact (old b o q).2 z
      · rcases kts_mem hm with z | z
        · rw [z, kts_self F] at q; cases q
        · exact nm z
  have st : base.StaysIn (hideAll s'.heap (e :: t :: fs)) := fun b o q => sg b o (K.stays b o q) fun hm => by
    rw [(K.frames.mem hm).1] at q; cases q
  have hl : ∀ q ∈ news, (hideAll s'.heap (e :: t :: fs)).get? q.1 = some q.2 ∧ g.get? q.1 = none ∧ base.get? q.1 = none := fun q hq => by
    have n := N' q hq
    refine ⟨hideAll_get _ n.1 fun hm => ?_, n.2.2, fresh_of_stays K.stays n.2.2⟩
    rcases List.mem_cons.mp hm with z | hm
    · exact (hne q hq).1 z.symm
    · rcases List.mem_cons.mp hm with z | hm
      · exact (hne q hq).2 z.symm
      · exact ntf _ _ n.1 n.2.2 n.2.1 hm
  have hgB : ∀ b o, (hideAll s'.heap (e :: t :: fs)).get? b = some o → s'.heap.get? b = some o := fun b o q => of_hideAll _ q
  have hen : (hideAll s'.heap (e :: t :: fs)).get? e = none := hideAll_none _ (.head _)
  have htn : (hideAll s'.heap (e :: t :: fs)).get? t = none := hideAll_none _ (.tail _ (.head _))
  refine wpAny_leaving_firstW (base := hideAll s'.heap (e :: t :: fs)) (a0 := .ref t) K'.stack (funFrames_hide K'.frames hin) rfl Ne.1 hgB hen hd h1 h0 fun h' hL => ?_
  obtain ⟨k1, ⟨_, _, k2⟩, k3, k4⟩ := hL
  exact hQ h' ⟨⟨_, st, sg, hl, ⟨k1, hen, k2, k3⟩, htn⟩, Heap.TupAt.of_slots ⟨_, _, Nt.1, rfl, rfl⟩ k4⟩ ((Heap.UpToSlots.of_keeps F.keep).trans k4)
end
end
section
open PySem.Spec PySem.Calls
section
variable {prog : Program} {w : World} {A : Around} {E : Value → Shared → Prop} {g h : Heap} {L : Addr} {m0 : Str → Option Value} {news : List (Addr × Obj)} {env : Env} {test : PySem.Expr} {body orelse : List Stmt} {Q : Flow → Shared → Prop} {s : Shared}
theorem whl_pos (x : Str) (i0 : Int) (t0 : Tok) (J : Int → Prop) (meas : Int → Nat) (fuel tk0 : Nat) (F : Fr g L h m0) (N : News g L h news) (hx : m0 x = some (.int i0 t0)) (hJ : J i0) (hm : meas i0 < fuel)
    (step : ∀ k i t h' tk, J i → Fr g L h' (fun y => if y = x then some (.int i t) else m0 y) → News g L h' news →
      (∀ i' t' h'' tk'', J i' → meas i' < meas i → Fr g L h'' (fun y => if y = x then some (.int i' t') else (fun y => if y = x then some (.int i t) else m0 y) y) → News g L h'' news → WhlRest prog w A E env test body orelse Q k { s with heap := h'', toks := tk'' }) →
      WhlRest prog w A E env test body orelse Q (k + 1) { s with heap := h', toks := tk }) : WhlRest prog w A E env test body orelse Q fuel { s with heap := h, toks := tk0 } := by
  refine whl_ind (fun k s' => ∃ i t h' tk, s' = { s with heap := h', toks := tk } ∧ J i ∧ meas i < k ∧ Fr g L h' (fun y => if y = x then some (.int i t) else m0 y) ∧ News g L h' news) ?_ ?_ _ _ ?_
  · (intro s' hr1; obtain ⟨i, t, h', tk, _, _, h0, _⟩ := hr1)
    exact absurd h0 (Nat.not_lt_zero _)
  · (intro k IH s' hr2; obtain ⟨i, t, h', tk, rfl, hJ, hm, F, N⟩ := hr2)
    refine step k i t h' tk hJ F N fun i' t' h'' tk'' hJ' hm' F' N' => IH _ ⟨i', t', h'', tk'', rfl, hJ', by omega, ?_, N'⟩
    have e : (fun y => if y = x then some (Value.int i' t') else (fun y => if y = x then some (Value.int i t) else m0 y) y) = fun y => if y = x then some (Value.int i' t') else m0 y := by
      funext y
      by_cases q : y = x
      · rw [if_pos q, if_pos q]
      · rw [if_neg q, if_neg q]; exact if_neg q
    exact e ▸ F'
  · refine ⟨i0, t0, h, tk0, rfl, hJ, hm, ?_, N⟩
    have e : m0 = fun y => if y = x then some (Value.int i0 t0) else m0 y := by
      funext y
      by_cases q : y = x
      · rw [if_pos q, q, hx]
      · rw [if_neg q]
    exact e ▸ F
end
end
section
open PySem.Spec PySem.Calls PySem.Builtin
theorem slot_fs_isdisjoint : Slot "frozenset" "isdisjoint" "frozenset.isdisjoint" :=
  .of (owner := "frozenset") (n := "isdisjoint") (by rw [typeLookup_type, builtinLookup_eq_fast]; kernel_rfl) (by decide +kernel) (by decide +kernel) (by decide +kernel)
    (by first | exact .inl (by decide +kernel) | exact .inr (by decide +kernel)) (by rw [isSubtype_type]; kernel_rfl)
theorem entry_fs_isdisjoint : entryFor table "frozenset.isdisjoint" = some Builtin.«frozenset.isdisjoint» := entryFor_of_tree (by kernel_rfl)
theorem entry_fs_isdisjoint_loop : entryFor table "frozenset.isdisjoint.loop" = some Builtin.«frozenset.isdisjoint.loop» := entryFor_of_tree (by kernel_rfl)
theorem args_fs_isdisjoint (a b : Value) : argsOk "frozenset.isdisjoint" ⟨[a, b], []⟩ := by
  unfold argsOk; rw [signature?_of (id := "frozenset.isdisjoint") (n := "isdisjoint".toList.reverse) (o := "frozenset".toList.reverse) (by kernel_rfl) W.FB.owner_frozenset]; kernel_rfl
theorem slot_fs_issuperset : Slot "frozenset" "issuperset" "frozenset.issuperset" :=
  .of (owner := "frozenset") (n := "issuperset") (by rw [typeLookup_type, builtinLookup_eq_fast]; kernel_rfl) (by decide +kernel) (by decide +kernel) (by decide +kernel)
    (by first | exact .inl (by decide +kernel) | exact .inr (by decide +kernel)) (by rw [isSubtype_type]; kernel_rfl)
theorem entry_fs_issuperset : entryFor table "frozenset.issuperset" = some Builtin.«frozenset.issuperset» := entryFor_of_tree (by kernel_rfl)
theorem entry_fs_issuperset_loop : entryFor table "frozenset.issuperset.loop" = some Builtin.«frozenset.issuperset.loop» := entryFor_of_tree (by kernel_rfl)
theorem args_fs_issuperset (a b : Value) : argsOk "frozenset.issuperset" ⟨[a, b], []⟩ := by
  unfold argsOk; rw [signature?_of (id := "frozenset.issuperset") (n := "issuperset".toList.reverse) (o := "frozenset".toList.reverse) (by kernel_rfl) W.FB.owner_frozenset]; kernel_rfl
section
variable {prog : Program} {w : World} {A : Around} {E : Value → Shared → Prop} {s : Shared} {a : Addr} {S : Str → Bool} {n : Nat}
theorem setContains_sign {c : Nat} {u : Tok} {Q : Bool → Shared → Prop} (hS : FrozAt (PySem.strKind prog w) s.heap a S n) (hb : n < 4096) (h : Q (S ⟨#[c]⟩) { s with toks := s.toks + 1 }) :
    wpAny (model prog w) A (setContains a (.str ⟨#[c]⟩ u)) Q E s := by
  obtain ⟨es, ep, t, ho, hel, hmem, hn, hf⟩ := hS
  have hkey : (PySem.strKind prog w).is (⟨#[c]⟩ : Str) (.str ⟨#[c]⟩ u) = true := show Value.isStrOf (⟨#[c]⟩ : Str) (.str ⟨#[c]⟩ u) = true by simp [Value.isStrOf]
  unfold setContains
  refine wpAny_holding ?_
  refine wpAny_bind ((PySem.strKind prog w).pyHash hkey ?_)
  refine wpAny_bind (setFind_any (s := { s with toks := s.toks + 1 }) hkey rfl ho rfl hel hmem (by rw [hn]; exact hb) hf fun r hr => ?_)
  exact wpAny_pure (by rw [hr]; exact h)
theorem disj_loop {x : Str} {I : Addr} {St : Nat → Heap → Prop} {h₁ : Heap} {R : Result → Shared → Prop} (W : ∀ A' : Around, A'.handled = none → Walks prog w A' I [I] [I] x.cps.size (SignAt x) St) (hh : A.handled = none)
    (hS : FrozAt (PySem.strKind prog w) h₁ a S n) (hb : n < 4096) (hI : h₁.get? I = none) : ∀ k i (s : Shared), i + k = x.cps.size → St i s.heap → (∀ b o, h₁.get? b = some o → s.heap.get? b = some o) →
    (∀ h' tk, (∀ b o, h₁.get? b = some o → h'.get? b = some o) → R (.ok (.ret (.bool (!((x.cps.toList.drop i).any fun c => S ⟨#[c]⟩))))) { s with heap := h', toks := tk }) →
    codeAny (model prog w) A (.builtin "frozenset.isdisjoint.loop" ⟨[.ref a, .ref I], []⟩) R s
  | 0, i, s, hk, st, hkeep, hR => by
    refine codeAny_builtin entry_fs_isdisjoint_loop ?_
    unfold Builtin.«frozenset.isdisjoint.loop»
    dsimp only
    have e : i = x.cps.size := by omega
    subst e
    refine wpAny_bind ((W (A.under _) hh).done s _ _ st fun h' tk hk' => ?_)
    refine wpAny_pure ?_
    have hd : x.cps.toList.drop x.cps.size = [] := List.drop_of_length_le (by simp)
    have := hR h' tk fun b o q => hk' b o (fun m => by rw [List.mem_singleton.mp m, hI] at q; cases q) (hkeep b o q)
    rw [hd] at this
    exact this
  | k + 1, i, s, hk, st, hkeep, hR => by
    refine codeAny_builtin entry_fs_isdisjoint_loop ?_
    unfold Builtin.«frozenset.isdisjoint.loop»
    dsimp only
    have hi : i < x.cps.size := by omega
    refine wpAny_bind ((W (A.under _) hh).item i s _ _ hi st fun v h' tk hv st' hk' => ?_)
    obtain ⟨c, u, hc, rfl⟩ := hv
    have keep' : ∀ b o, h₁.get? b = some o → h'.get? b = some o := fun b o q => hk' b o (fun m => by rw [List.mem_singleton.mp m, hI] at q; cases q) (hkeep b o q)
    have hS' : FrozAt (PySem.strKind prog w) h' a S n := froz_up hS keep'
    have hd : x.cps.toList.drop i = c :: x.cps.toList.drop (i + 1) := by
      have h1 : i < x.cps.toList.length := by simpa using hi
      rw [List.drop_eq_getElem_cons h1]
      have h2 : x.cps.toList[i]? = some c := by simpa using hc
      rw [List.getElem?_eq_getElem h1] at h2
      rw [Option.some.inj h2]
    dsimp only
    refine wpAny_bind (wpAny_holding (setContains_sign (s := { s with heap := h', toks := tk }) hS' hb ?_))
    cases hc' : S ⟨#[c]⟩ with
    | true =>
      refine wpAny_pure ?_
      have := hR h' (tk + 1) keep'
      rw [hd] at this
      simpa [hc'] using this
    | false =>
      refine wpAny_pure ⟨Code.quiet_builtin _ (by decide +kernel), ?_⟩
      refine disj_loop W hh hS hb hI k (i + 1) { s with heap := h', toks := tk + 1 } (by omega) st' keep' fun h'' tk' hk'' => ?_
      have := hR h'' tk' hk''
      rw [hd] at this
      simpa [hc'] using this
theorem isdisjoint_str {h₀ : Heap} {L : Addr} {m : Str → Option Value} {y : Str} {u : Tok} {Q : Value → Shared → Prop} (F : Fr h₀ L s.heap m) (hS : FrozAt (PySem.strKind prog w) h₀ a S n) (hh : A.handled = none) (hb : n < 4096)
    (h : ∀ h' tk, (∀ b o, s.heap.get? b = some o → h'.get? b = some o) → Q (.bool (!(y.cps.toList.any fun c => S ⟨#[c]⟩))) { s with heap := h', toks := tk }) :
    wpAny (model prog w) A (call (.builtin "frozenset.isdisjoint") [.ref a, .str y u]) Q E s := by
  have hS := froz_up hS F.keep
  have hT : s.TypeIs (.ref a) "frozenset" := let ⟨_, _, _, ho, _⟩ := hS; ⟨_, ho, rfl⟩
  refine wpAny_call (codeAny_call_builtin slot_fs_isdisjoint.plain entry_fs_isdisjoint (slot_fs_isdisjoint.check _ _ _ _ _ _ _ _ hT (args_fs_isdisjoint _ _) ?_))
  unfold Builtin.«frozenset.isdisjoint» Builtin.Frozenset.oneOther Builtin.Frozenset.addrOf
  refine wpAny_bind (wpAny_bind (wpAny_pure ?_))
  dsimp only
  refine wpAny_pure ?_
  dsimp only
  rw [if_neg (by simp)]
  refine wpAny_bind (wpAny_pure ?_)
  rw [if_neg (by decide)]
  refine wpAny_bind (wpAny_pyIter_str fun o St W st => ?_)
  refine wpAny_pure ⟨Code.quiet_builtin _ (by decide +kernel), ?_⟩
  refine disj_loop W hh hS hb (Heap.get?_none_of_le (Nat.le_refl _)) y.cps.size 0 _ (by omega) st (fun b o q => Heap.get?_push_of_some _ q) fun h' tk k => ?_
  exact h h' tk k
theorem super_loop {x : Str} {I : Addr} {St : Nat → Heap → Prop} {h₁ : Heap} {R : Result → Shared → Prop} (W : ∀ A' : Around, A'.handled = none → Walks prog w A' I [I] [I] x.cps.size (SignAt x) St) (hh : A.handled = none)
    (hS : FrozAt (PySem.strKind prog w) h₁ a S n) (hb : n < 4096) (hI : h₁.get? I = none) : ∀ k i (s : Shared), i + k = x.cps.size → St i s.heap → (∀ b o, h₁.get? b = some o → s.heap.get? b = some o) →
    (∀ h' tk, (∀ b o, h₁.get? b = some o → h'.get? b = some o) → R (.ok (.ret (.bool ((x.cps.toList.drop i).all fun c => S ⟨#[c]⟩)))) { s with heap := h', toks := tk }) →
    codeAny (model prog w) A (.builtin "frozenset.issuperset.loop" ⟨[.ref a, .ref I], []⟩) R s
  | 0, i, s, hk, st, hkeep, hR => by
    refine codeAny_builtin entry_fs_issuperset_loop ?_
    unfold Builtin.«frozenset.issuperset.loop»
    dsimp only
    have e : i = x.cps.size := by omega
    subst e
    refine wpAny_bind ((W (A.under _) hh).done s _ _ st fun h' tk hk' => ?_)
    refine wpAny_pure ?_
    have hd : x.cps.toList.drop x.cps.size = [] := List.drop_of_length_le (by simp)
    have := hR h' tk fun b o q => hk' b o (fun m => by rw [List.mem_singleton.mp m, hI] at q; cases q) (hkeep b o q)
    rw [hd] at this
    exact this
  | k + 1, i, s, hk, st, hkeep, hR => by
    refine codeAny_builtin entry_fs_issuperset_loop ?_
    unfold Builtin.«frozenset.issuperset.loop»
    dsimp only
    have hi : i < x.cps.size := by omega
    refine wpAny_bind ((W (A.under _) hh).item i s _ _ hi st fun v h' tk hv st' hk' => ?_)
    obtain ⟨c, u, hc, rfl⟩ := hv
    have keep' : ∀ b o, h₁.get? b = some o → h'.get? b = some o := fun b o q => hk' b o (fun m => by rw [List.mem_singleton.mp m, hI] at q; cases q) (hkeep b o q)
    have hS' : FrozAt (PySem.strKind prog w) h' a S n := froz_up hS keep'
    have hd : x.cps.toList.drop i = c :: x.cps.toList.drop (i + 1) := by
      have h1 : i < x.cps.toList.length := by simpa using hi
      rw [List.drop_eq_getElem_cons h1]
      have h2 : x.cps.toList[i]? = some c := by simpa using hc
      rw [List.getElem?_eq_getElem h1] at h2
      rw [Option.some.inj h2]
    dsimp only
    refine wpAny_bind (wpAny_holding (setContains_sign (s := { s with heap := h', toks := tk }) hS' hb ?_))
    cases hc' : S ⟨#[c]⟩ with
    | false =>
      refine wpAny_pure ?_
      have := hR h' (tk + 1) keep'
      rw [hd] at this
      simpa [hc'] using this
    | true =>
      refine wpAny_pure ⟨Code.quiet_builtin _ (by decide +kernel), ?_⟩
      refine super_loop W hh hS hb hI k (i + 1) { s with heap := h', toks := tk + 1 } (by omega) st' keep' fun h'' tk' hk'' => ?_
      have := hR h'' tk' hk''
      rw [hd] at this
      simpa [hc'] using this
theorem isAnySet_str {y : Str} {u : Tok} {Q : Bool → Shared → Prop} (h : Q false s) : wpAny (model prog w) A (Builtin.Frozenset.isAnySet (.str y u)) Q E s := by
  have f1 : isSubtype (.type "str") (.type "set") = pure false := by rw [isSubtype_type]; kernel_rfl
  have f2 : isSubtype (.type "str") (.type "frozenset") = pure false := by rw [isSubtype_type]; kernel_rfl
  unfold Builtin.Frozenset.isAnySet
  obtain ⟨hp, g, d, tk, os⟩ := s
  repeat wp_step
  exact h
theorem issuperset_str {h₀ : Heap} {L : Addr} {m : Str → Option Value} {y : Str} {u : Tok} {Q : Value → Shared → Prop} (F : Fr h₀ L s.heap m) (hS : FrozAt (PySem.strKind prog w) h₀ a S n) (hh : A.handled = none) (hb : n < 4096)
    (h : ∀ h' tk, (∀ b o, s.heap.get? b = some o → h'.get? b = some o) → Q (.bool (y.cps.toList.all fun c => S ⟨#[c]⟩)) { s with heap := h', toks := tk }) :
    wpAny (model prog w) A (call (.builtin "frozenset.issuperset") [.ref a, .str y u]) Q E s := by
  have hS := froz_up hS F.keep
  have hT : s.TypeIs (.ref a) "frozenset" := let ⟨_, _, _, ho, _⟩ := hS; ⟨_, ho, rfl⟩
  refine wpAny_call (codeAny_call_builtin slot_fs_issuperset.plain entry_fs_issuperset (slot_fs_issuperset.check _ _ _ _ _ _ _ _ hT (args_fs_issuperset _ _) ?_))
  unfold Builtin.«frozenset.issuperset» Builtin.Frozenset.oneOther Builtin.Frozenset.addrOf
  refine wpAny_bind (wpAny_bind (wpAny_pure ?_))
  dsimp only
  refine wpAny_pure ?_
  dsimp only
  refine wpAny_bind (isAnySet_str ?_)
  rw [if_neg (by decide)]
  refine wpAny_bind (wpAny_pyIter_str fun o St W st => ?_)
  refine wpAny_pure ⟨Code.quiet_builtin _ (by decide +kernel), ?_⟩
  refine super_loop W hh hS hb (Heap.get?_none_of_le (Nat.le_refl _)) y.cps.size 0 _ (by omega) st (fun b o q => Heap.get?_push_of_some _ q) fun h' tk k => ?_
  exact h h' tk k
end
section
variable {prog : Program} {w : World} {A A₀ : Around} {E : Value → Shared → Prop} {s : Shared} {a L : Addr} {S : Str → Bool} {n : Nat} {base g : Heap} {outer : List Env} {m : Str → Option Value} {y : Str} {u : Tok} {Q : Value → Shared → Prop} {news : List (Addr × Obj)}
theorem News.keepsK {h₀ h h' : Heap} (N : News h₀ L h news) (k : ∀ b o, h.get? b = some o → h'.get? b = some o) : News h₀ L h' news := fun p hp => ⟨k _ _ (N p hp).1, (N p hp).2⟩
theorem isdisjoint_B (B : Below A₀ base outer g) (F : Fr g L s.heap m) (N : News g L s.heap news) (hS : FrozAt (PySem.strKind prog w) base a S n) (hb : n < 4096) (hh : A.handled = none)
    (h : ∀ h' tk, Fr g L h' m → News g L h' news → Q (.bool (!(y.cps.toList.any fun c => S ⟨#[c]⟩))) { s with heap := h', toks := tk }) :
    wpAny (model prog w) A (call (.builtin "frozenset.isdisjoint") [.ref a, .str y u]) Q E s :=
  isdisjoint_str F (froz_up hS B.stays) hh hb fun h' tk k => h h' tk (F.keeps k) (News.keepsK N k)
theorem issuperset_B (B : Below A₀ base outer g) (F : Fr g L s.heap m) (N : News g L s.heap news) (hS : FrozAt (PySem.strKind prog w) base a S n) (hb : n < 4096) (hh : A.handled = none)
    (h : ∀ h' tk, Fr g L h' m → News g L h' news → Q (.bool (y.cps.toList.all fun c => S ⟨#[c]⟩)) { s with heap := h', toks := tk }) :
    wpAny (model prog w) A (call (.builtin "frozenset.issuperset") [.ref a, .str y u]) Q E s :=
  issuperset_str F (froz_up hS B.stays) hh hb fun h' tk k => h h' tk (F.keeps k) (News.keepsK N k)
end
theorem plain_fs : PlainAttrs "frozenset" :=
  ⟨⟨"object.__getattribute__", by rw [typeLookup_type, builtinLookup_eq_fast]; kernel_rfl, by decide +kernel⟩, by rw [typeLookup_type, builtinLookup_eq_fast]; kernel_rfl⟩
theorem type_fs_isdisjoint : typeOf (.builtin "frozenset.isdisjoint") = pure (.type "method_descriptor") := by show builtinType _ = _; rw [builtinType_eq_fast]; kernel_rfl
theorem type_fs_issuperset : typeOf (.builtin "frozenset.issuperset") = pure (.type "method_descriptor") := by show builtinType _ = _; rw [builtinType_eq_fast]; kernel_rfl
section
variable {prog : Program} {w : World} {A A₀ : Around} {E : Value → Shared → Prop} {s : Shared} {a L : Addr} {S : Str → Bool} {n : Nat} {base g : Heap} {outer : List Env} {m : Str → Option Value} {Q : Value × List Value → Shared → Prop} {pl : Sem Bool}
theorem getMethod_fs {name : Str} {id : String} (slot : Slot "frozenset" name id) (hty : typeOf (.builtin id) = pure (.type "method_descriptor")) (B : Below A₀ base outer g) (F : Fr g L s.heap m) (hS : FrozAt (PySem.strKind prog w) base a S n)
    (h : Q (.builtin id, [.ref a]) s) : wpAny (model prog w) A (getMethod (.ref a) name pl) Q E s := by
  obtain ⟨es, ep, t, ho, _⟩ := froz_up hS (fun x o q => F.keep x o (B.stays x o q))
  exact getMethod_builtin (T := "frozenset") ⟨_, ho, rfl⟩ plain_fs slot hty (fun b e => by cases e; exact ⟨_, ho, rfl⟩) h
end
end
section
open PySem.Calls PySem.NumText
set_option maxHeartbeats 4000000
noncomputable def hexOk (c : Nat) : Bool := (48 ≤ c && c ≤ 57) || (97 ≤ c && c ≤ 102) || (65 ≤ c && c ≤ 70)
noncomputable def hexDig (c : Nat) : Nat := if 48 ≤ c && c ≤ 57 then c - 48 else if 97 ≤ c && c ≤ 122 then c - 87 else c - 55
noncomputable def hexVal (l : List Nat) : Nat := l.foldl (fun a c => a * 16 + hexDig c) 0
theorem hex_digit {c : Nat} (h : hexOk c = true) : digit? c = some (hexDig c) ∧ hexDig c < 16 ∧ c ≠ 95 ∧ blank c = false ∧ c ≠ 45 ∧ c ≠ 43 ∧ c ≠ 0 ∧ c < 128 ∧ c ≠ 120 ∧ c ≠ 88 := by
  have hc : c < 128 := Decidable.byContradiction fun hc => by
    have : hexOk c = false := by
      simp only [hexOk, Bool.or_eq_false_iff, Bool.and_eq_false_iff, decide_eq_false_iff_not]
      exact ⟨⟨.inr (by omega), .inr (by omega)⟩, .inr (by omega)⟩
    rw [this] at h; cases h
  exact (by decide +kernel : ∀ c, c < 128 → hexOk c = true → digit? c = some (hexDig c) ∧ hexDig c < 16 ∧ c ≠ 95 ∧ blank c = false ∧ c ≠ 45 ∧ c ≠ 43 ∧ c ≠ 0 ∧ c < 128 ∧ c ≠ 120 ∧ c ≠ 88) c hc h
theorem hex_fold : ∀ (l : List Nat) (a : Array Nat) (b : Bool), (∀ c ∈ l, hexOk c = true) → l.foldlM (NumText.step 16) (a, b) = some (a ++ (l.map hexDig).toArray, if l = [] then b else true)
  | [], a, b, _ => by simp
  | c :: l, a, b, h => by
    have hc := hex_digit (h c (List.mem_cons_self ..))
    rw [List.foldlM_cons]
    have e : NumText.step 16 (a, b) c = some (a.push (hexDig c), true) := by
      unfold NumText.step
      rw [if_neg (by simpa using hc.2.2.1), hc.1]
      simp [hc.2.1]
    rw [e]
    show List.foldlM (NumText.step 16) (a.push (hexDig c), true) l = _
    rw [hex_fold l _ _ fun d hd => h d (List.mem_cons_of_mem _ hd)]
    simp
theorem hex_digits {l : List Nat} (h : ∀ c ∈ l, hexOk c = true) (hn : l ≠ []) : digits? 16 l = some (l.map hexDig).toArray := by
  unfold digits?
  rw [hex_fold l _ _ h]
  simp [hn]
theorem hex_read {l : List Nat} (h : ∀ c ∈ l, hexOk c = true) (hn : l ≠ []) : (int_private% "readNumeral") 0 16 l = (int_private% "Numeral.value") (hexVal l : Int) := by
  rw [readNumeral_eq]
  obtain ⟨c, r, rfl⟩ := List.exists_cons_of_ne_nil hn
  have hc := hex_digit (h c (List.mem_cons_self ..))
  have e1 : (c :: r).dropWhile blank = c :: r := by rw [List.dropWhile_cons, if_neg (by rw [hc.2.2.2.1]; decide)]
  have e2 : sign (c :: r) = (false, c :: r) := by
    unfold sign
    split
    · rename_i q; cases q; exact absurd rfl hc.2.2.2.2.1
    · rename_i q; cases q; exact absurd rfl hc.2.2.2.2.2.1
    · rfl
  have e3 : based 16 (c :: r) = (16, false, c :: r) := by
    unfold based
    split
    · rename_i p hp
      have hne : ((16 : Nat) == 0 || (16 : Nat) == p) = false := by
        refine Bool.or_eq_false_iff.mpr ⟨rfl, beq_eq_false_iff_ne.mpr fun e => ?_⟩
        subst e
        unfold prefix? at hp
        split at hp
        · rename_i c2 r2 q
          cases q
          have hc2 := hex_digit (h c2 (List.mem_cons_of_mem _ (List.mem_cons_self ..)))
          rw [if_neg (by simp [hc2.2.2.2.2.2.2.2.2])] at hp
          split at hp
          · cases hp
          · split at hp <;> cases hp
        · cases hp
      rw [hne]; rfl
    · rfl
  rw [e1, e2]
  dsimp only
  rw [e3]
  dsimp only
  have e4 : ((c :: r).reverse.dropWhile blank).reverse = c :: r := by
    cases hr : (c :: r).reverse with
    | nil => simp at hr
    | cons d q =>
      have hd : d ∈ c :: r := by
        have : d ∈ (c :: r).reverse := by rw [hr]; exact List.mem_cons_self ..
        exact List.mem_reverse.mp this
      rw [List.dropWhile_cons, if_neg (by rw [(hex_digit (h d hd)).2.2.2.1]; decide), ← hr, List.reverse_reverse]
  rw [e4, hex_digits h (by simp)]
  unfold judge
  dsimp only
  rw [if_neg (show ¬ ((![2, 4, 8, 16, 32].contains 16 && 0 != 0 && decide _) = true) from by simp), if_neg (show ¬ ((16 == 10 && decide _) = true) from by simp)]
  have e5 : Array.foldl (fun acc d => acc * 16 + d) 0 ((c :: r).map hexDig).toArray = hexVal (c :: r) := by
    rw [List.foldl_toArray']
    · unfold hexVal
      rw [List.foldl_map]
    · simp
  rw [e5]
  simp
theorem idx_int : typeLookup (.type "int") "__index__" = pure (some (.builtin "int.__index__")) := by rw [typeLookup_type, builtinLookup_eq_fast]; kernel_rfl
theorem wp_text16 {M : Model} {A : Around} {E : Value → Shared → Prop} {s : Shared} {Q : Value → Shared → Prop} {v : Value} {text : List Nat} {n : Int}
    (hs : (text.takeWhile (· != 0)).length ≤ 640) (hr : (int_private% "readNumeral") 0 16 (text.takeWhile (· != 0)) = (int_private% "Numeral.value") n)
    (ha : ((text.takeWhile (· != 0)).length == text.length) = true) (h : Q (.int n s.toks) { s with toks := s.toks + 1 }) :
    wpAny M A ((int_private% "intFromText") v text 16) Q E s := by
  obtain ⟨hp, g, d, tk, os⟩ := s
  repeat (any_goals (first
    | assumption
    | (with_reducible refine wpAny_ite_true (decide_eq_true hs) ?_)
    | (with_reducible refine wpAny_ite_true (decide_eq_true ha) ?_)
    | wp_step))
  all_goals (try rw [hr])
  all_goals (try dsimp only)
  repeat (any_goals (first
    | assumption
    | (with_reducible refine wpAny_ite_true (decide_eq_true hs) ?_)
    | (with_reducible refine wpAny_ite_true (decide_eq_true ha) ?_)
    | wp_step))
theorem tw_all {p : Nat → Bool} : ∀ l : List Nat, (∀ c ∈ l, p c = true) → l.takeWhile p = l
  | [], _ => rfl
  | c :: l, h => by rw [List.takeWhile_cons, if_pos (h c (List.mem_cons_self ..)), tw_all l fun d hd => h d (List.mem_cons_of_mem _ hd)]
theorem gives_hex {x : PySem.Str} {u v : Tok} (hl : x.length ≤ 640) (hn : x.cps.toList ≠ []) (h : ∀ c ∈ x.cps.toList, hexOk c = true) : Gives (Builtin.«int.__new__» ⟨[.type "int", .str x u, .int 16 v], []⟩) (.int (hexVal x.cps.toList)) :=
  .of_wp fun M A E s Q hq => by
    obtain ⟨hp, g, d, tk, os⟩ := s
    have f1 := F.conv_sub_int
    have f2 := F.madeHere_int
    have hall : x.cps.all (· < 128) = true := by
      rw [Array.all_eq_true']
      intro c hc
      have := (hex_digit (h c (by simpa using hc))).2.2.2.2.2.2.2.1
      simpa using this
    have htw : x.cps.toList.takeWhile (· != 0) = x.cps.toList := tw_all _ fun c hc => by
      have := (hex_digit (h c hc)).2.2.2.2.2.2.1
      simpa using this
    have hl2 : x.cps.toList.length ≤ 640 := by simpa [Str.length] using hl
    have hk : (x.cps.toList.takeWhile (· != 0)).length ≤ 640 ∧ (int_private% "readNumeral") 0 16 (x.cps.toList.takeWhile (· != 0)) = (int_private% "Numeral.value") (hexVal x.cps.toList : Int) ∧ ((x.cps.toList.takeWhile (· != 0)).length == x.cps.toList.length) = true := by
      rw [htw]
      exact ⟨hl2, hex_read h hn, by simp⟩
    have hk := KIN.Hid.mk hk
    clear hl2 htw hl
    have hq := KIN.Hid.mk hq
    repeat (any_goals (first
      | assumption
      | ((with_reducible show wpAny _ _ ((int_private% "intFromText") _ _ _) _ _ _); rw [if_pos hall]; refine wp_text16 hk.out.1 hk.out.2.1 hk.out.2.2 ?_)
      | wp_step))
    all_goals first | exact ⟨_, rfl, hq.out⟩ | skip
theorem typeCall_int_2 (a b : Value) : checkTypeCall "int" ⟨[a, b], []⟩ = pure () := by kernel_rfl
theorem newCall_int_2 (a b : Value) : checkBuiltinCall "int.__new__" ⟨[.type "int", a, b], []⟩ = pure () := by kernel_rfl
section
variable {prog : Program} {w : World} {A : Around} {E : Value → Shared → Prop} {s : Shared} {Q : Value → Shared → Prop} {x : PySem.Str} {u v : Tok}
theorem call_hex (hl : x.length ≤ 640) (hn : x.cps.toList ≠ []) (hx : ∀ c ∈ x.cps.toList, hexOk c = true) (h : Q (.int (hexVal x.cps.toList) s.toks) { s with toks := s.toks + 1 }) : wpAny (model prog w) A (call (.type "int") [.str x u, .int 16 v]) Q E s :=
  callType_new F.called_int F.newNe_int (typeCall_int_2 _ _) (newCall_int_2 _ _) (fun obj => F.args_object_init_3 obj _ _) F.entry_int_new (gives_hex hl hn hx).meets (show (Made.int (hexVal x.cps.toList)).post _ s from ⟨rfl, h⟩)
end
end
section
open PySem.Spec PySem.Calls PySem.Builtin
section
variable {prog : Program} {w : World} {A A₀ : Around} {E : Value → Shared → Prop} {s : Shared} {a L : Addr} {S : Str → Bool} {n : Nat} {base g : Heap} {outer : List Env} {m : Str → Option Value}
theorem hash_none {Q : Int → Shared → Prop} (h : ∀ k tk, Q k { s with toks := tk }) : wpAny (model prog w) A (pyHash .none) Q E s := by
  show wpAny _ A (pyHashByItsType .none) Q E s
  unfold pyHashByItsType
  have hv : [Value.none].any Value.onHeap = false := rfl
  refine wpAny_bind ?_
  rw [cRoomFor, if_neg (by rw [hv]; exact Bool.false_ne_true)]; refine wpAny_pure ?_
  refine wpAny_bind (wpAny_specialOf (show s.TypeIs .none "NoneType" from rfl) PySem.F.slot_NoneType_hash.lookup ?_)
  rw [if_neg (by rw [beq_builtin_none]; exact Bool.false_ne_true)]
  refine wpAny_bind (wpAny_specialOf (show s.TypeIs .none "NoneType" from rfl) PySem.F.slot_NoneType_hash.lookup ?_)
  show wpAny _ _ (callSpecialIfBoundUnlessNone? .none "__hash__" _ >>= _) Q E s
  refine wpAny_bind (wpAny_callSpecialIfBoundUnlessNone?_slot (show s.TypeIs .none "NoneType" from rfl) PySem.F.slot_NoneType_hash
    (wpAny_call_entry PySem.F.slot_NoneType_hash (show s.TypeIs .none "NoneType" from rfl) PySem.F.entry_NoneType_hash
      (show wpAny _ _ (do ret (← mkInt 0xFCA86420)) _ _ s from wpAny_ret_mkInt ?_) (PySem.F.args_NoneType_hash_1 _)))
  show wpAny _ _ (if (decide (-(2 : Int) ^ 63 ≤ 0xFCA86420) && decide ((0xFCA86420 : Int) < 2 ^ 63)) = true then _ else _) Q E _
  rw [if_pos (by decide)]
  exact wpAny_pure (h _ _)
theorem eqBool_str_none {x : Str} {t : Tok} {Q : Bool → Shared → Prop} (h : Q false s) : wpAny (model prog w) A (eqBool (.str x t) .none) Q E s := by
  unfold eqBool
  refine wpAny_holding ?_
  rw [if_neg (by simp)]
  exact wpAny_bind (show wpAny _ _ (compareOp .Eq (.str x t) .none) _ _ _ from EqNone.eq_str_none (wpAny_truthy_bool h))
theorem scan_none {k : Int} {o : Obj} {es : Array (Int × Value)} {ep : Nat} {t : SetTable} (ho : s.heap.get? a = some o) (hd : o.data = .set es ep t) (hf : t.fits es.size = true) : ∀ (l : List (Int × Value)) (i : Nat) {Q : ScanMet → Shared → Prop}, (∀ e ∈ l, ∃ x u, e.2 = .str x u) → Q .absent s →
    wpAny (model prog w) A (setScanFrom a .none k false l i) Q E s
  | [], i, Q, _, h => by unfold setScanFrom; exact wpAny_pure h
  | (h', y) :: rest, i, Q, hl, h => by
    obtain ⟨x, u, hy⟩ := hl (h', y) (List.mem_cons_self ..)
    have hy : y = .str x u := hy
    subst hy
    have ih := scan_none (k := k) ho hd hf rest (i + 1) (Q := Q) (fun e he => hl e (List.mem_cons_of_mem _ he)) h
    unfold setScanFrom
    by_cases q : (h' == k) = true
    · rw [if_pos q]
      refine wpAny_bind (wpAny_setEpoch_of ho hd hf (wpAny_bind (eqBool_str_none ?_)))
      simp only [Bool.false_and, Bool.false_eq_true, if_false]
      refine wpAny_bind (wpAny_setEpoch_of ho hd hf ?_)
      simp only [bne_self_eq_false, Bool.false_eq_true, if_false]
      exact ih
    · rw [if_neg q]
      exact ih
theorem none_in_froz {Q : Value → Shared → Prop} (B : Below A₀ base outer g) (F : Fr g L s.heap m) (H : FrozAt (PySem.strKind prog w) base a S n) (hb : n < 4096)
    (h : ∀ tk, Q (.bool false) { s with toks := tk }) : wpAny (model prog w) A (compareOp .In .none (.ref a)) Q E s := by
  obtain ⟨es, ep, t, ho, hel, hmem, hn, hf⟩ := froz_up H (fun x o q => F.keep x o (B.stays x o q))
  have hT : s.TypeIs (.ref a) "frozenset" := ⟨_, ho, rfl⟩
  have hs : ∀ e ∈ es.toList, ∃ x u, e.2 = .str x u := fun e he => by
    obtain ⟨⟨k, hk, _⟩, _⟩ := hel e he
    obtain ⟨u, hu⟩ := Value.isStrOf_shape (show Value.isStrOf k e.2 = true from hk)
    exact ⟨k, u, hu⟩
  show wpAny _ _ (do return .bool (← contains (.ref a) .none)) Q E s
  refine wpAny_bind ?_
  unfold contains
  try with_reducible refine wpAny_holding ?_
  refine wpAny_bind (wpAny_specialOf hT W.FB.slot_frozenset_contains.lookup ?_)
  show wpAny _ _ (if (some (Value.builtin "frozenset.__contains__") == some Value.none) = true then _ else _) _ E s
  rw [if_neg (by rw [beq_builtin_none]; exact Bool.false_ne_true)]
  refine wpAny_bind (wpAny_callSpecialUnlessNone?_slot (name := Str.ofString "__contains__") hT W.FB.slot_frozenset_contains
    (wpAny_call_entry W.FB.slot_frozenset_contains hT W.FB.entry_frozenset_contains ?_ (W.FB.args_frozenset_contains_2 _ _)))
  unfold Builtin.«frozenset.__contains__» Builtin.Frozenset.oneOther
  simp only [List.isEmpty_nil, bind_assoc]
  unfold Builtin.Frozenset.addrOf Builtin.Frozenset.withSetAsKey setContains
  refine wpAny_bind (wpAny_pure ?_)
  try dsimp only
  refine wpAny_bind (wpAny_pure ?_)
  try dsimp only
  refine wpAny_bind (wpAny_tryCatch ?_)
  refine wpAny_holding ?_
  refine wpAny_bind (hash_none fun k tk => ?_)
  unfold setFind setFindIn
  refine wpAny_bind (wpAny_bind (wpAny_setState_of (s := { s with toks := tk }) ho rfl hf ?_))
  dsimp only
  have hby : byScan .none es = true := by
    have hall : es.all (fun e => e.2.scannable) = true := by
      rw [Array.all_eq_true']
      intro e he
      obtain ⟨x, u, hx⟩ := hs e (by simpa using he)
      rw [hx]; rfl
    unfold byScan
    rw [hall, decide_eq_true (show es.size < scanBound from by rw [hn]; exact hb)]
    rfl
  rw [if_pos hby]
  refine wpAny_bind (wpAny_rule (wpAny_bind ?_))
  refine (show wpAny _ _ (setScanFrom a .none k false es.toList 0) _ _ _ from scan_none (s := { s with toks := tk }) ho rfl hf es.toList 0 hs ?_)
  dsimp only
  refine wpAny_pure ?_
  refine wpAny_pure ?_
  show wpAny _ _ (ret (Value.bool _)) _ _ _
  exact wpAny_pure ⟨_, rfl, wpAny_truthy_bool (wpAny_pure (h tk))⟩
end
end
section
open PySem.Spec PySem.Calls
set_option maxHeartbeats 8000000
noncomputable abbrev prog := PySem.Challenge.rw_kq0035_04.prog
noncomputable abbrev frs (outer : List Env) : List Addr := outer.filterMap (·.frame)
def TabLed (tl : List (Addr × Obj)) : Prop := tl = [(533, tabObj #[])] ∨ ∃ c' oc vs t, tl = [(533, tabObj #[rawInt 494, rawInt 4, .ref c']), (c', oc)] ∧ oc.data = .fields vs ∧ vs[1]? = some (.str (Str.ofString "suffixed_err.<locals>.coord_repr") t) ∧ c' ≠ 533
def CtrK (w : World) (hq : Bool) (d u : Nat) (f : Addr) (args : List Value) (kw : List (Str × Value)) (V : Value → List (Addr × Obj) → List (Addr × Obj) → Prop) (X : Str → Prop) : Prop :=
  ∀ (hnd : Option Value) (p : Program) (loose : List Str) (mean : ExcName → Option Value) (mg mb : Str → Option Value) (dp un : Nat) (gd : Option (List Code)) (cn : Str) (cs : Scope) (a : Addr) (ccd : Value) (outer : List Env) (A₀ : Around) (base h₀ g₀ : Heap) (L : Addr) (m : Str → Option Value)
    (news tl : List (Addr × Obj)) (s : Shared) (Q E : Value → Shared → Prop), (hq = true → hnd = none) → (∀ q ∈ news, q.1 ≠ 533) → Below A₀ base outer h₀ → Fr h₀ L s.heap m → (law_top.heap_385 w.params).In h₀ → News h₀ L s.heap (tl ++ news) → TabLed tl → Top p loose mean mg mb h₀ → cs.kind = .function →
    (law_top.heap_385 w.params).In base → Top p loose mean mg mb base → KtsDicts (frs outer) h₀ → KtsTurn (frs outer) g₀ h₀ → FsIn w base → dp + d < recursionLimit → un + u < cLine →
    (∀ (v : Value) (new tl' : List (Addr × Obj)) (g' h' : Heap) (tk' : Nat), V v new (tl' ++ news) → TabLed tl' → KtsTurn (frs outer) g₀ g' → Fr g' L h' m → News g' L h' (new ++ (tl' ++ news)) → Below A₀ base outer g' → (law_top.heap_385 w.params).In g' → Top p loose mean mg mb g' → KtsDicts (frs outer) g' → Q v { s with heap := h', toks := tk' }) →
    (∀ (msg : Str) (e t : Addr) (tok : Tok) (tl' : List (Addr × Obj)) (h₀' G h' : Heap) (tk' : Nat), X msg → TabLed tl' → KtsTurn (frs outer) g₀ h₀' → Fr h₀' L G m → Below A₀ base outer h₀' → KtsDicts (frs outer) h₀' → RaisedS base G (envOf cn cs L a ccd :: outer) e (.ref 316) t [.str msg tok] (tl' ++ news) h' → G.UpToSlots h' → E (.ref e) { s with heap := h', toks := tk' }) →
    wpAny (model prog w) { handled := hnd, depth := dp, frames := some (envX cn cs L a ccd [] :: outer), guards := gd, units := un } (call (.ref f) args kw) Q E s
abbrev Ctr (w : World) (hq : Bool) (d u : Nat) (f : Addr) (args : List Value) (V : Value → List (Addr × Obj) → List (Addr × Obj) → Prop) (X : Str → Prop) : Prop := CtrK w hq d u f args [] V X
theorem fr_eq {g h : Heap} {L : Addr} {m m' : Str → Option Value} (F : Fr g L h m) (e : m = m') : Fr g L h m' := e ▸ F
theorem fs_froz {prog : Program} {w : World} {h : Heap} {a : Addr} {l : List (Nat × Tok)} (x : FsAt w h a l) : FrozAt (PySem.strKind prog w) h a (fun x => l.any fun y => x == ⟨#[y.1]⟩) l.length := by
  obtain ⟨es, ep, t, e, ok⟩ := x
  exact froz_of_SOk e ok
theorem codeHd_of {w : World} {h : Heap} (X : (law_top.heap_385 w.params).In h) : CodeHd h 537 533 :=
  ⟨_, _, _, _, _, _, _, _, _, X 537 _ rfl, rfl, rfl, rfl, rfl, rfl, rfl, rfl, rfl, by decide⟩
section
variable {A₀ A : Around} {base h₀ g₀ g g'' : Heap} {outer : List Env} {L L' a f : Addr} {m m' : Str → Option Value} {cn name : Str} {cs scope : Scope} {ccd cd : Value} {news tl' : List (Addr × Obj)} {s : Shared} {E E2 : Value → Shared → Prop} {X : Str → Prop} {e t : Addr} {h' : Heap} {tk : Nat} {M : Str} {tok : Tok} {mo : Model}
theorem turn_upTo {fs : List Addr} {g g' : Heap} (T : KtsTurn fs g g') : g.UpToSlots g' := fun _ _ q _ => T.up q
theorem turn_back (B : Below A₀ base outer h₀) (FG : Fr h₀ L g m) (D : KtsDicts (frs outer) h₀) (T0 : KtsTurn (frs outer) g₀ h₀) (T : KtsTurn (frs (envOf cn cs L a ccd :: outer)) g g'') :
    ∃ h₀', KtsTurn (frs outer) g₀ h₀' ∧ Fr h₀' L g'' m ∧ Below A₀ base outer h₀' ∧ KtsDicts (frs outer) h₀' := by
  obtain ⟨T1, S⟩ := kts_turn_at (h := g'') (fs := frs outer) (g := h₀)
    (fun b hb => let ⟨_, o, ho, _⟩ := B.frames.mem hb; ⟨o, ho⟩)
    (fun b o q nm => T.other b o (FG.keep b o q) fun hm => by
      rcases kts_mem hm with z | z
      · rw [z, kts_self FG] at q; cases q
      · exact nm z)
    (fun b o q _ => T.up (FG.keep b o q))
  refine ⟨_, T0.trans T1, ⟨(turn_upTo T).ns FG.ns, S, by rw [T1.size]; exact FG.above⟩, ⟨B.stack, fun b o q => T1.other b o (B.stays b o q) fun hm => ?_, B.frames.of_keeps fun b o q _ => ?_⟩, D.turn T1⟩
  · rw [(B.frames.mem hm).1] at q; cases q
  · obtain ⟨sl, hs⟩ := T1.up q
    exact ⟨_, hs, rfl⟩
theorem leave_ctr {oe : Obj} {vs : Array Value} (hx : ∀ (msg : Str) (e t : Addr) (tok : Tok) (tl' : List (Addr × Obj)) (h₀' G h' : Heap) (tk' : Nat), X msg → TabLed tl' → KtsTurn (frs outer) g₀ h₀' → Fr h₀' L G m → Below A₀ base outer h₀' → KtsDicts (frs outer) h₀' → RaisedS base G (envOf cn cs L a ccd :: outer) e (.ref 316) t [.str msg tok] (tl' ++ news) h' → G.UpToSlots h' → E (.ref e) { s with heap := h', toks := tk' })
    (B : Below A₀ base outer h₀) (FG : Fr h₀ L g m) (D : KtsDicts (frs outer) h₀) (T0 : KtsTurn (frs outer) g₀ h₀) (T : KtsTurn (frs (envOf cn cs L a ccd :: outer)) g g'') (K : Below A base (envOf cn cs L a ccd :: outer) g'') (F : Fr g'' L' h' m')
    (N : News g'' L' h' ((e, oe) :: (t, { cls := .type "tuple", data := .seq ([Value.str M tok] : List Value).toArray }) :: (tl' ++ news))) (hd : oe.data = .fields vs) (h0 : vs[0]? = some (.ref t)) (h1 : vs[1]? = some .none) (hc : oe.cls = .ref 316) (hne : ∀ q ∈ tl' ++ news, e ≠ q.1 ∧ t ≠ q.1) (TL : TabLed tl') (hX : X M) (hk : scope.kind = .function) :
    wpAny mo (A.deeper (envOf name scope L' f cd)) (leaving (envOf name scope L' f cd) (.ref e)) (fun _ s'' => E (.ref e) s'') E2 { s with heap := h', toks := tk } := by
  refine leave_led (s' := { s with heap := h', toks := tk }) K F N hd h0 h1 hne (fun h'' R U => ?_) hk
  obtain ⟨h₀', t1, t2, t3, t4⟩ := turn_back B FG D T0 T
  rw [hc] at R
  exact hx M e t tok tl' h₀' g'' h'' tk hX TL t1 t2 t3 t4 R U
theorem pass_ctr {G : Heap} (hx : ∀ (msg : Str) (e t : Addr) (tok : Tok) (tl' : List (Addr × Obj)) (h₀' G h' : Heap) (tk' : Nat), X msg → TabLed tl' → KtsTurn (frs outer) g₀ h₀' → Fr h₀' L G m → Below A₀ base outer h₀' → KtsDicts (frs outer) h₀' → RaisedS base G (envOf cn cs L a ccd :: outer) e (.ref 316) t [.str msg tok] (tl' ++ news) h' → G.UpToSlots h' → E (.ref e) { s with heap := h', toks := tk' })
    (B : Below A₀ base outer h₀) (FG : Fr h₀ L g m) (D : KtsDicts (frs outer) h₀) (T0 : KtsTurn (frs outer) g₀ h₀) (T : KtsTurn (frs (envOf cn cs L a ccd :: outer)) g g'') (K : Below A base (envOf cn cs L a ccd :: outer) g'') (F : Fr g'' L' G m')
    (R : RaisedS base G (envOf name scope L' f cd :: envOf cn cs L a ccd :: outer) e (.ref 316) t [.str M tok] (tl' ++ news) h') (U : G.UpToSlots h') (TL : TabLed tl') (hX : X M) :
    wpAny mo (A.deeper (envOf name scope L' f cd)) (leaving (envOf name scope L' f cd) (.ref e)) (fun _ s'' => E (.ref e) s'') E2 { s with heap := h', toks := tk } := by
  refine leave_onS (s' := { s with heap := h', toks := tk }) K F R U (fun h'' R' _ U' => ?_)
  obtain ⟨h₀', t1, t2, t3, t4⟩ := turn_back B FG D T0 T
  exact hx M e t tok tl' h₀' g'' h'' tk hX TL t1 t2 t3 t4 R' U'
end
theorem tabled_mem {tl : List (Addr × Obj)} (h : TabLed tl) : ∃ o, (533, o) ∈ tl := by
  rcases h with rfl | ⟨c', oc, vs, t, rfl, _⟩
  · exact ⟨_, .head _⟩
  · exact ⟨_, .head _⟩
theorem ne_533 {tl news : List (Addr × Obj)} {e : Addr} {oe : Obj} (h : TabLed tl) (hne : ∀ q ∈ tl ++ news, e ≠ q.1) (h5 : ∀ q ∈ news, q.1 ≠ 533) : ∀ q ∈ (e, oe) :: news, q.1 ≠ 533 := fun q hq => by
  rcases List.mem_cons.mp hq with rfl | hq
  · obtain ⟨o, ho⟩ := tabled_mem h
    exact hne _ (List.mem_append_left _ ho)
  · exact h5 q hq
theorem news_swap {g h : Heap} {L : Addr} {x : Addr × Obj} {tl news : List (Addr × Obj)} (N : News g L h (x :: (tl ++ news))) : News g L h (tl ++ (x :: news)) := fun q hq => N q (by
  rcases List.mem_append.mp hq with hq | hq
  · exact .tail _ (List.mem_append_left _ hq)
  · rcases List.mem_cons.mp hq with rfl | hq
    · exact .head _
    · exact .tail _ (List.mem_append_right _ hq))
theorem news_drop {g h : Heap} {L : Addr} {x : Addr × Obj} {l : List (Addr × Obj)} (N : News g L h (x :: l)) : News g L h l := fun q hq => N q (.tail _ hq)
theorem news_mid {g h : Heap} {L : Addr} {x y : Addr × Obj} {z : Addr × Obj} {tl news : List (Addr × Obj)} (N : News g L h (x :: y :: (tl ++ (z :: news)))) : News g L h (x :: y :: (tl ++ news)) := fun q hq => N q (by
  rcases List.mem_cons.mp hq with rfl | hq
  · exact .head _
  rcases List.mem_cons.mp hq with rfl | hq
  · exact .tail _ (.head _)
  refine .tail _ (.tail _ ?_)
  rcases List.mem_append.mp hq with hq | hq
  · exact List.mem_append_left _ hq
  · exact List.mem_append_right _ (.tail _ hq))
theorem led_from {g h h' : Heap} {L e t : Addr} {m : Str → Option Value} {o o' ot : Obj} {rest : List (Addr × Obj)} (F : Fr g L h m) (N : News g L h ((e, o) :: (t, ot) :: rest)) (hne : ∀ p ∈ rest, e ≠ p.1) (het : e ≠ t) (h1 : h'.get? e = some o') (sb : Heap.SameBut e h h') :
    Fr g L h' m ∧ News g L h' ((e, o') :: (t, ot) :: rest) := by
  have Ne := N _ (.head _)
  refine ⟨⟨?_, fun b x q => (sb.2 b fun z => ?_).trans (F.keep b x q), F.above⟩, fun p hp => ?_⟩
  · obtain ⟨x, es, ep, hx, r⟩ := F.ns
    exact ⟨x, es, ep, (sb.2 _ fun z => Ne.2.1 z.symm).trans hx, r⟩
  · rw [z, Ne.2.2] at q; cases q
  · rcases List.mem_cons.mp hp with rfl | hp
    · exact ⟨h1, Ne.2⟩
    · have n := N p (.tail _ hp)
      refine ⟨(sb.2 _ fun z => ?_).trans n.1, n.2⟩
      rcases List.mem_cons.mp hp with rfl | hp
      · exact het z.symm
      · exact hne p hp z.symm
end
section
open PySem.Spec PySem.Calls
abbrev CV : Type := Program × List Str × (ExcName → Option Value) × (Str → Option Value) × (Str → Option Value) × Nat × Nat × Option (List Code) × Str × Scope × Addr × Value × List Env × Around × Heap × Heap × Heap × Addr × (Str → Option Value) × Shared × (Value → Shared → Prop) × (Value → Shared → Prop)
noncomputable abbrev CV.p (v : CV) : Program := v.1
noncomputable abbrev CV.loose (v : CV) : List Str := v.2.1
noncomputable abbrev CV.mean (v : CV) : ExcName → Option Value := v.2.2.1
noncomputable abbrev CV.mg (v : CV) : Str → Option Value := v.2.2.2.1
noncomputable abbrev CV.mb (v : CV) : Str → Option Value := v.2.2.2.2.1
noncomputable abbrev CV.dp (v : CV) : Nat := v.2.2.2.2.2.1
noncomputable abbrev CV.un (v : CV) : Nat := v.2.2.2.2.2.2.1
noncomputable abbrev CV.gd (v : CV) : Option (List Code) := v.2.2.2.2.2.2.2.1
noncomputable abbrev CV.cn (v : CV) : Str := v.2.2.2.2.2.2.2.2.1
noncomputable abbrev CV.cs (v : CV) : Scope := v.2.2.2.2.2.2.2.2.2.1
noncomputable abbrev CV.a (v : CV) : Addr := v.2.2.2.2.2.2.2.2.2.2.1
noncomputable abbrev CV.ccd (v : CV) : Value := v.2.2.2.2.2.2.2.2.2.2.2.1
noncomputable abbrev CV.outer (v : CV) : List Env := v.2.2.2.2.2.2.2.2.2.2.2.2.1
noncomputable abbrev CV.A₀ (v : CV) : Around := v.2.2.2.2.2.2.2.2.2.2.2.2.2.1
noncomputable abbrev CV.base (v : CV) : Heap := v.2.2.2.2.2.2.2.2.2.2.2.2.2.2.1
noncomputable abbrev CV.h₀ (v : CV) : Heap := v.2.2.2.2.2.2.2.2.2.2.2.2.2.2.2.1
noncomputable abbrev CV.g₀ (v : CV) : Heap := v.2.2.2.2.2.2.2.2.2.2.2.2.2.2.2.2.1
noncomputable abbrev CV.L (v : CV) : Addr := v.2.2.2.2.2.2.2.2.2.2.2.2.2.2.2.2.2.1
noncomputable abbrev CV.m (v : CV) : Str → Option Value := v.2.2.2.2.2.2.2.2.2.2.2.2.2.2.2.2.2.2.1
noncomputable abbrev CV.s (v : CV) : Shared := v.2.2.2.2.2.2.2.2.2.2.2.2.2.2.2.2.2.2.2.1
noncomputable abbrev CV.Q (v : CV) : Value → Shared → Prop := v.2.2.2.2.2.2.2.2.2.2.2.2.2.2.2.2.2.2.2.2.1
noncomputable abbrev CV.E (v : CV) : Value → Shared → Prop := v.2.2.2.2.2.2.2.2.2.2.2.2.2.2.2.2.2.2.2.2.2
theorem ne_shared : Nonempty Shared := ⟨{ heap := default, gens := #[], drawn := {}, toks := 0, os := {} }⟩
theorem ne_CV : Nonempty CV := ne_shared.elim fun s => ⟨⟨default, [], fun _ => none, fun _ => none, fun _ => none, 0, 0, none, default, default, 0, .none, [], { handled := none, depth := 0, frames := none, guards := none, units := 0 }, default, default, default, 0, fun _ => none, s, fun _ _ => True, fun _ _ => True⟩⟩
theorem ne_world : Nonempty World := ⟨⟨fun _ _ => 0, { strHash := fun _ => 0, shareClass := fun _ => 0, mergeTok := id, idOf := fun _ => 0, idOfShared := fun _ _ => 0, followText := fun _ => false, idOfImm := fun _ => 0 }⟩⟩
noncomputable def eps {α : Type} (ne : Nonempty α) (S : α → Prop) : α := @Classical.epsilon α ne fun v => ¬ S v
theorem eps_all {α : Type} {ne : Nonempty α} {S : α → Prop} (h : S (eps ne S)) (v : α) : S v := Classical.byContradiction fun hv => (@Classical.epsilon_spec α (fun v => ¬ S v) ⟨v, hv⟩) h
def CtrAt (w : World) (hq : Bool) (d u : Nat) (f : Addr) (args : List Value) (kw : List (Str × Value)) (V : Value → List (Addr × Obj) → List (Addr × Obj) → Prop) (X : Str → Prop) (zz : CV) : Prop :=
  ∀ (hnd : Option Value) (news tl : List (Addr × Obj)), (hq = true → hnd = none) → (∀ q ∈ news, q.1 ≠ 533) → Below zz.A₀ zz.base zz.outer zz.h₀ → Fr zz.h₀ zz.L zz.s.heap zz.m → (law_top.heap_385 w.params).In zz.h₀ → News zz.h₀ zz.L zz.s.heap (tl ++ news) → TabLed tl → Top zz.p zz.loose zz.mean zz.mg zz.mb zz.h₀ → zz.cs.kind = .function →
    (law_top.heap_385 w.params).In zz.base → Top zz.p zz.loose zz.mean zz.mg zz.mb zz.base → KtsDicts (frs zz.outer) zz.h₀ → KtsTurn (frs zz.outer) zz.g₀ zz.h₀ → FsIn w zz.base → zz.dp + d < recursionLimit → zz.un + u < cLine →
    (∀ (v : Value) (new tl' : List (Addr × Obj)) (g' h' : Heap) (tk' : Nat), V v new (tl' ++ news) → TabLed tl' → KtsTurn (frs zz.outer) zz.g₀ g' → Fr g' zz.L h' zz.m → News g' zz.L h' (new ++ (tl' ++ news)) → Below zz.A₀ zz.base zz.outer g' → (law_top.heap_385 w.params).In g' → Top zz.p zz.loose zz.mean zz.mg zz.mb g' → KtsDicts (frs zz.outer) g' → zz.Q v { zz.s with heap := h', toks := tk' }) →
    (∀ (msg : Str) (e t : Addr) (tok : Tok) (tl' : List (Addr × Obj)) (h₀' G h' : Heap) (tk' : Nat), X msg → TabLed tl' → KtsTurn (frs zz.outer) zz.g₀ h₀' → Fr h₀' zz.L G zz.m → Below zz.A₀ zz.base zz.outer h₀' → KtsDicts (frs zz.outer) h₀' → RaisedS zz.base G (envOf zz.cn zz.cs zz.L zz.a zz.ccd :: zz.outer) e (.ref 316) t [.str msg tok] (tl' ++ news) h' → G.UpToSlots h' → zz.E (.ref e) { zz.s with heap := h', toks := tk' }) →
    wpAny (model prog w) { handled := hnd, depth := zz.dp, frames := some (envX zz.cn zz.cs zz.L zz.a zz.ccd [] :: zz.outer), guards := zz.gd, units := zz.un } (call (.ref f) args kw) zz.Q zz.E zz.s
theorem ctr_all {w : World} {hq : Bool} {d u : Nat} {f : Addr} {args : List Value} {kw : List (Str × Value)} {V : Value → List (Addr × Obj) → List (Addr × Obj) → Prop} {X : Str → Prop} (h : CtrAt w hq d u f args kw V X (eps ne_CV (CtrAt w hq d u f args kw V X))) : CtrK w hq d u f args kw V X :=
  fun hnd p loose mean mg mb dp un gd cn cs a ccd outer A₀ base h₀ g₀ L m news tl s Q E => eps_all h ⟨p, loose, mean, mg, mb, dp, un, gd, cn, cs, a, ccd, outer, A₀, base, h₀, g₀, L, m, s, Q, E⟩ hnd news tl
end
section
open PySem.Spec PySem.Calls
def Pur (w : World) (d u : Nat) (f : Addr) (args : List Value) (V : Value → Prop) : Prop :=
  ∀ (p : Program) (loose : List Str) (mean : ExcName → Option Value) (mg mb : Str → Option Value) (dp un : Nat) (gd : Option (List Code)) (cn : Str) (cs : Scope) (a : Addr) (ccd : Value) (cl : List (Str × Addr)) (outer : List Env) (A₀ : Around) (base h₀ : Heap) (L : Addr) (m : Str → Option Value) (news : List (Addr × Obj)) (s : Shared)
    (Q E : Value → Shared → Prop), Below A₀ base outer h₀ → Fr h₀ L s.heap m → (law_top.heap_385 w.params).In h₀ → News h₀ L s.heap news → Top p loose mean mg mb h₀ → cs.kind = .function → dp + d < recursionLimit → un + u < cLine →
    (∀ (v : Value) (h' : Heap) (tk' : Nat), V v → Fr h₀ L h' m → News h₀ L h' news → Q v { s with heap := h', toks := tk' }) →
    wpAny (model prog w) { handled := none, depth := dp, frames := some (envX cn cs L a ccd cl :: outer), guards := gd, units := un } (call (.ref f) args) Q E s
def PurN (w : World) (d u : Nat) (f : Addr) (args : List Value) (H : List (Addr × Obj) → Prop) (V : Value → List (Addr × Obj) → Prop) : Prop :=
  ∀ (p : Program) (loose : List Str) (mean : ExcName → Option Value) (mg mb : Str → Option Value) (dp un : Nat) (gd : Option (List Code)) (cn : Str) (cs : Scope) (a : Addr) (ccd : Value) (cl : List (Str × Addr)) (outer : List Env) (A₀ : Around) (base h₀ : Heap) (L : Addr) (m : Str → Option Value) (news : List (Addr × Obj)) (s : Shared)
    (Q E : Value → Shared → Prop), Below A₀ base outer h₀ → Fr h₀ L s.heap m → (law_top.heap_385 w.params).In h₀ → News h₀ L s.heap news → Top p loose mean mg mb h₀ → cs.kind = .function → dp + d < recursionLimit → un + u < cLine → H news →
    (∀ (v : Value) (new : List (Addr × Obj)) (h' : Heap) (tk' : Nat), V v new → Fr h₀ L h' m → News h₀ L h' (new ++ news) → Q v { s with heap := h', toks := tk' }) →
    wpAny (model prog w) { handled := none, depth := dp, frames := some (envX cn cs L a ccd cl :: outer), guards := gd, units := un } (call (.ref f) args) Q E s
abbrev PV : Type := Program × List Str × (ExcName → Option Value) × (Str → Option Value) × (Str → Option Value) × Nat × Nat × Option (List Code) × Str × Scope × Addr × Value × List (Str × Addr) × List Env × Around × Heap × Heap × Addr × (Str → Option Value) × List (Addr × Obj) × Shared × (Value → Shared → Prop) × (Value → Shared → Prop)
noncomputable abbrev PV.p (v : PV) : Program := v.1
noncomputable abbrev PV.loose (v : PV) : List Str := v.2.1
noncomputable abbrev PV.mean (v : PV) : ExcName → Option Value := v.2.2.1
noncomputable abbrev PV.mg (v : PV) : Str → Option Value := v.2.2.2.1
noncomputable abbrev PV.mb (v : PV) : Str → Option Value := v.2.2.2.2.1
noncomputable abbrev PV.dp (v : PV) : Nat := v.2.2.2.2.2.1
noncomputable abbrev PV.un (v : PV) : Nat := v.2.2.2.2.2.2.1
noncomputable abbrev PV.gd (v : PV) : Option (List Code) := v.2.2.2.2.2.2.2.1
noncomputable abbrev PV.cn (v : PV) : Str := v.2.2.2.2.2.2.2.2.1
noncomputable abbrev PV.cs (v : PV) : Scope := v.2.2.2.2.2.2.2.2.2.1
noncomputable abbrev PV.a (v : PV) : Addr := v.2.2.2.2.2.2.2.2.2.2.1
noncomputable abbrev PV.ccd (v : PV) : Value := v.2.2.2.2.2.2.2.2.2.2.2.1
noncomputable abbrev PV.cl (v : PV) : List (Str × Addr) := v.2.2.2.2.2.2.2.2.2.2.2.2.1
noncomputable abbrev PV.outer (v : PV) : List Env := v.2.2.2.2.2.2.2.2.2.2.2.2.2.1
noncomputable abbrev PV.A₀ (v : PV) : Around := v.2.2.2.2.2.2.2.2.2.2.2.2.2.2.1
noncomputable abbrev PV.base (v : PV) : Heap := v.2.2.2.2.2.2.2.2.2.2.2.2.2.2.2.1
noncomputable abbrev PV.h₀ (v : PV) : Heap := v.2.2.2.2.2.2.2.2.2.2.2.2.2.2.2.2.1
noncomputable abbrev PV.L (v : PV) : Addr := v.2.2.2.2.2.2.2.2.2.2.2.2.2.2.2.2.2.1
noncomputable abbrev PV.m (v : PV) : Str → Option Value := v.2.2.2.2.2.2.2.2.2.2.2.2.2.2.2.2.2.2.1
noncomputable abbrev PV.news (v : PV) : List (Addr × Obj) := v.2.2.2.2.2.2.2.2.2.2.2.2.2.2.2.2.2.2.2.1
noncomputable abbrev PV.s (v : PV) : Shared := v.2.2.2.2.2.2.2.2.2.2.2.2.2.2.2.2.2.2.2.2.1
noncomputable abbrev PV.Q (v : PV) : Value → Shared → Prop := v.2.2.2.2.2.2.2.2.2.2.2.2.2.2.2.2.2.2.2.2.2.1
noncomputable abbrev PV.E (v : PV) : Value → Shared → Prop := v.2.2.2.2.2.2.2.2.2.2.2.2.2.2.2.2.2.2.2.2.2.2
theorem ne_PV : Nonempty PV := ne_CV.elim fun v => ⟨⟨v.p, v.loose, v.mean, v.mg, v.mb, 0, 0, none, v.cn, v.cs, 0, .none, [], [], v.A₀, v.base, v.h₀, 0, v.m, [], v.s, v.Q, v.E⟩⟩
def PurAt (w : World) (d u : Nat) (f : Addr) (args : List Value) (V : Value → Prop) (zz : PV) : Prop :=
  Below zz.A₀ zz.base zz.outer zz.h₀ → Fr zz.h₀ zz.L zz.s.heap zz.m → (law_top.heap_385 w.params).In zz.h₀ → News zz.h₀ zz.L zz.s.heap zz.news → Top zz.p zz.loose zz.mean zz.mg zz.mb zz.h₀ → zz.cs.kind = .function → zz.dp + d < recursionLimit → zz.un + u < cLine →
    (∀ (v : Value) (h' : Heap) (tk' : Nat), V v → Fr zz.h₀ zz.L h' zz.m → News zz.h₀ zz.L h' zz.news → zz.Q v { zz.s with heap := h', toks := tk' }) →
    wpAny (model prog w) { handled := none, depth := zz.dp, frames := some (envX zz.cn zz.cs zz.L zz.a zz.ccd zz.cl :: zz.outer), guards := zz.gd, units := zz.un } (call (.ref f) args) zz.Q zz.E zz.s
def PurNAt (w : World) (d u : Nat) (f : Addr) (args : List Value) (H : List (Addr × Obj) → Prop) (V : Value → List (Addr × Obj) → Prop) (zz : PV) : Prop :=
  Below zz.A₀ zz.base zz.outer zz.h₀ → Fr zz.h₀ zz.L zz.s.heap zz.m → (law_top.heap_385 w.params).In zz.h₀ → News zz.h₀ zz.L zz.s.heap zz.news → Top zz.p zz.loose zz.mean zz.mg zz.mb zz.h₀ → zz.cs.kind = .function → zz.dp + d < recursionLimit → zz.un + u < cLine → H zz.news →
    (∀ (v : Value) (new : List (Addr × Obj)) (h' : Heap) (tk' : Nat), V v new → Fr zz.h₀ zz.L h' zz.m → News zz.h₀ zz.L h' (new ++ zz.news) → zz.Q v { zz.s with heap := h', toks := tk' }) →
    wpAny (model prog w) { handled := none, depth := zz.dp, frames := some (envX zz.cn zz.cs zz.L zz.a zz.ccd zz.cl :: zz.outer), guards := zz.gd, units := zz.un } (call (.ref f) args) zz.Q zz.E zz.s
theorem pur_all {w : World} {d u : Nat} {f : Addr} {args : List Value} {V : Value → Prop} (h : PurAt w d u f args V (eps ne_PV (PurAt w d u f args V))) : Pur w d u f args V :=
  fun p loose mean mg mb dp un gd cn cs a ccd cl outer A₀ base h₀ L m news s Q E => eps_all h ⟨p, loose, mean, mg, mb, dp, un, gd, cn, cs, a, ccd, cl, outer, A₀, base, h₀, L, m, news, s, Q, E⟩
theorem purN_all {w : World} {d u : Nat} {f : Addr} {args : List Value} {H : List (Addr × Obj) → Prop} {V : Value → List (Addr × Obj) → Prop} (h : PurNAt w d u f args H V (eps ne_PV (PurNAt w d u f args H V))) : PurN w d u f args H V :=
  fun p loose mean mg mb dp un gd cn cs a ccd cl outer A₀ base h₀ L m news s Q E => eps_all h ⟨p, loose, mean, mg, mb, dp, un, gd, cn, cs, a, ccd, cl, outer, A₀, base, h₀, L, m, news, s, Q, E⟩
end
section
open PySem.Spec PySem.Calls
set_option maxHeartbeats 8000000
theorem tde_at {w : World} {h : Heap} (X : (law_top.heap_385 w.params).In h) : ∃ nm q bs hdct sn sub ab col dd k0 k1 k2 k3 k5 mN, h.get? 316 = some (excClassObj nm q 316 315 bs [.type "ValueError", .type "Exception", .type "BaseException", .type "object"] hdct sn sub ab col dd k0 k1 k2 k3 k5 "ValueError.__new__") ∧ h.Ns 315 mN ∧ mN "__init__" = none := by
  refine ⟨_, _, _, _, _, _, _, _, _, _, _, _, _, _, h.nsMap 315, X 316 _ rfl, .of_isNs (isNs_of_in X (by kernel_rfl)), nsMap_none_of_in X (by kernel_rfl) (by kernel_rfl)⟩
section
variable {w : World} {A : Around} {E : Value → Shared → Prop} {s : Shared} {h₀ : Heap} {L : Addr} {m : Str → Option Value} {news : List (Addr × Obj)} {Q : Value → Shared → Prop}
noncomputable abbrev tupObj (vs : List Value) : Obj := { cls := .type "tuple", data := .seq vs.toArray }
theorem call_tde {x : Value} (h : ∀ h' e t, Fr h₀ L h' m → News h₀ L h' ((e, excObj 316 t) :: (t, tupObj [x]) :: news) → s.heap.get? e = none → s.heap.get? t = none → e ≠ t → Q (.ref e) { s with heap := h' }) (F : Fr h₀ L s.heap m := by k_asm) (N : News h₀ L s.heap news := by k_asm) (X : (law_top.heap_385 w.params).In h₀ := by k_asm) :
    wpAny (model prog w) A (call (.ref 316) [x]) Q E s := by
  obtain ⟨nm, q, bs, hdct, sn, sub, ab, col, dd, k0, k1, k2, k3, k5, mN, hC, hn, hni⟩ := tde_at (X.keeps F.keep)
  obtain ⟨hp, g, d, tk, os⟩ := s
  refine wpAny_call_exc_sub PySem.F.excBase_ValueError hC hn hni (hrest := by rw [sizeLine_eq]; simp) fun h' e hm => ?_
  obtain ⟨t, ht, hnt, htt⟩ := hm.there
  have hLs : hp.get? L ≠ none := fun z => by
    obtain ⟨o, es, ep, ho, _⟩ := F.ns
    rw [z] at ho; cases ho
  refine h h' e t (F.keeps hm.keeps) (fun p hp => ?_) hm.new hnt ?_
  · rcases List.mem_cons.mp hp with rfl | hp
    · exact ⟨ht, fun z => hLs (z ▸ hm.new), kts_none F.keep hm.new⟩
    · rcases List.mem_cons.mp hp with rfl | hp
      · exact ⟨htt, fun z => hLs (z ▸ hnt), kts_none F.keep hnt⟩
      · exact ⟨hm.keeps _ _ (N p hp).1, (N p hp).2⟩
  · intro z
    rw [z, htt] at ht
    cases ht
end
end
section
open PySem.Spec PySem.Calls
section
variable {prog : Program} {w : World} {A : Around} {s : Shared} {env : Env} {g : Heap}
def TurnTo (L I : Addr) (oI : Obj) (fp : List Addr) (h : Heap) (s : Shared) (J : Heap → (Str → Option Value) → List (Addr × Obj) → Prop) (s'' : Shared) : Prop :=
  ∃ g' h' tk' m' led', s'' = { s with heap := h', toks := tk' } ∧ Fr g' L h' m' ∧ News g' L h' [(I, oI)] ∧ News g' L h' led' ∧ (∀ p ∈ led', p.1 ≠ I) ∧ (∀ b ∈ fp, b ≠ I → ∀ o, h.get? b = some o → h'.get? b = some o) ∧ J g' m' led'
def TurnFlow (L I : Addr) (oI : Obj) (fp : List Addr) (h : Heap) (s : Shared) (J : Heap → (Str → Option Value) → List (Addr × Obj) → Prop) (Q : Flow → Shared → Prop) (fl : Flow) (s'' : Shared) : Prop :=
  match fl with
  | .next => TurnTo L I oI fp h s J s''
  | .cont => TurnTo L I oI fp h s J s''
  | .brk => Q .next s''
  | .ret v => Q (.ret v) s''
inductive ForLed (prog : Program) (w : World) (A : Around) (env : Env) (x : Str) (body : List Stmt) (Q : Flow → Shared → Prop) (E : Value → Shared → Prop) (it : Value) (s₂ : Shared) : Prop
  | mk (I : Addr) (fp : List Addr) (n : Nat) (P : Nat → Value → Prop) (St : Nat → Heap → Prop) (g : Heap) (m : Str → Option Value) (led : List (Addr × Obj)) (J : Nat → Heap → (Str → Option Value) → List (Addr × Obj) → Prop) (hq0 : it = .ref I) (hq1 : Walks prog w A I fp [I] n P St) (hq2 : env.locals ∉ fp) (hq3 : (∀ i h, St i h → ∃ o, h.get? I = some o)) (hq4 : St 0 s₂.heap) (hq5 : Fr g env.locals s₂.heap m) (hq6 : News g env.locals s₂.heap led) (hq7 : (∀ p ∈ led, p.1 ≠ I)) (hq8 : g.get? I = none) (hq9 : J 0 g m led) (hq10 : (∀ i v g m led h tk oI, i < n → P i v → J i g m led → Fr g env.locals h (fun y => if y = x then some v else m y) → News g env.locals h ((I, oI) :: led) → (∀ p ∈ led, p.1 ≠ I) → St (i + 1) h → wpAny (model prog w) A (execs body env) (TurnFlow env.locals I oI fp h s₂ (J (i + 1)) Q) E { s₂ with heap := h, toks := tk })) (hq11 : ∀ g m led h tk, J n g m led → Fr g env.locals h m → News g env.locals h led → Q .next { s₂ with heap := h, toks := tk }) : ForLed prog w A env x body Q E it s₂
theorem forLoop_led {R : Result → Shared → Prop} {x : Str} {px : Pos} {body : List Stmt} {I : Addr} {fp : List Addr} {n : Nat} {P : Nat → Value → Prop} {St : Nat → Heap → Prop} {m : Str → Option Value}
    {led : List (Addr × Obj)} (W : Walks prog w A I fp [I] n P St) (hx : env.kindOf x = some .local)
    (hp : (env.scope.kind == .class || (env.scope.kind == .module && env.locals != env.globals)) = false)
    (hLf : env.locals ∉ fp) (hI : ∀ i h, St i h → ∃ o, h.get? I = some o) (hst : St 0 s.heap) (F : Fr g env.locals s.heap m) (N : News g env.locals s.heap led) (hne : ∀ p ∈ led, p.1 ≠ I) (hg : g.get? I = none)
    (J : Nat → Heap → (Str → Option Value) → List (Addr × Obj) → Prop) (h0 : J 0 g m led)
    (step : ∀ i v g m led h tk oI, i < n → P i v → J i g m led → Fr g env.locals h (fun y => if y = x then some v else m y) → News g env.locals h ((I, oI) :: led) → (∀ p ∈ led, p.1 ≠ I) → St (i + 1) h →
      wpAny (model prog w) A (execs body env) (TurnFlow env.locals I oI fp h s (J (i + 1)) (fun f s' => R (.ok f) s')) (notedBy (model prog w) A env fun e s' => R (.error e) s') { s with heap := h, toks := tk })
    (hR : ∀ g m led h tk, J n g m led → Fr g env.locals h m → News g env.locals h led → R (.ok .next) { s with heap := h, toks := tk }) :
    codeAny (model prog w) A (.forLoop (.Name x px) (.ref I) body [] env) R s := by
  have hIf : I ∈ fp := W.sub _ (.head _)
  have hLI : env.locals ≠ I := fun e => hLf (e ▸ hIf)
  refine codeAny_forLoop
    (fun k s' => ∃ h' tk g' m' led' i, s' = { s with heap := h', toks := tk } ∧ St i h' ∧ Fr g' env.locals h' m' ∧ News g' env.locals h' led' ∧ (∀ p ∈ led', p.1 ≠ I) ∧ g'.get? I = none ∧ J i g' m' led' ∧ i ≤ n ∧ k = n + 1 - i) ?_ (n + 1)
    ⟨s.heap, s.toks, g, m, led, 0, rfl, hst, F, N, hne, hg, h0, Nat.zero_le _, rfl⟩
  (intro k s' hr1; obtain ⟨h', tk, g', m', led', i, rfl, hst', F', N', hne', hg', hJ, hi, rfl⟩ := hr1)
  have next : ∀ h₁ : Heap, (∀ b o, b ∉ [I] → h'.get? b = some o → h₁.get? b = some o) → Fr g' env.locals h₁ m' ∧ News g' env.locals h₁ led' := fun h₁ hk₁ =>
    ⟨⟨F'.ns.at' fun o e => hk₁ _ o (fun q => hLI (List.mem_singleton.mp q)) e, fun b o e => hk₁ b o (fun q => by rw [List.mem_singleton.mp q, hg'] at e; cases e) (F'.keep b o e), F'.above⟩, fun p hp => ⟨hk₁ _ _ (fun q => hne' p hp (List.mem_singleton.mp q)) (N' p hp).1, (N' p hp).2⟩⟩
  by_cases hlt : i < n
  · refine W.item i _ _ _ hlt hst' fun v h₁ tk₁ hP hst₁ hk₁ => ?_
    obtain ⟨F₁, N₁⟩ := next h₁ hk₁
    refine wpAny_assign_Name (wpAny_storeName_local hx F₁.ns (fun h₂ hn₂ hs₂ => ?_) hp)
    have F₂ := F₁.set hn₂ hs₂
    have hst₂ : St (i + 1) h₂ := W.frame _ _ _ hst₁ fun b hb o e => (hs₂.2 b fun q => hLf (q ▸ hb)).trans e
    obtain ⟨oI, hoI⟩ := hI _ _ hst₂
    have N₂ : News g' env.locals h₂ ((I, oI) :: led') := fun p hp => by
      rcases List.mem_cons.mp hp with rfl | hp
      · exact ⟨hoI, hLI.symm, hg'⟩
      · exact (N₁.set hs₂) p hp
    have back : ∀ s₃ : Shared, TurnTo env.locals I oI fp h₂ s (J (i + 1)) s₃ → ∃ k', k' < n + 1 - i ∧ ∃ h' tk g' m' led' i, s₃ = { s with heap := h', toks := tk } ∧ St i h' ∧ Fr g' env.locals h' m' ∧ News g' env.locals h' led' ∧ (∀ p ∈ led', p.1 ≠ I) ∧ g'.get? I = none ∧ J i g' m' led' ∧ i ≤ n ∧ k' = n + 1 - i := by
      (intro s₃ hr2; obtain ⟨g₃, h₃, tk₃, m₃, led₃, rfl, F₃, NI₃, N₃, hne₃, hk₃, hJ₃⟩ := hr2)
      refine ⟨n + 1 - (i + 1), Nat.sub_lt_sub_left (Nat.lt_succ_of_lt (by assumption)) (Nat.lt_succ_self i), h₃, tk₃, g₃, m₃, led₃, i + 1, rfl, ?_, F₃, N₃, hne₃, (NI₃ _ (.head _)).2.2, hJ₃, hlt, rfl⟩
      refine W.frame _ _ _ hst₂ fun b hb o e => ?_
      by_cases hbI : b = I
      · subst hbI
        rw [hoI] at e
        rw [← Option.some.inj e]
        exact (NI₃ _ (.head _)).1
      · exact hk₃ b hb hbI o e
    refine wpAny_mono (step i v g' m' led' h₂ _ oI hlt hP hJ F₂ N₂ hne' hst₂) (fun f s₃ h₃ => ?_) fun _ _ e => e
    cases f with
    | ret v => exact h₃
    | brk => exact h₃
    | cont => exact back s₃ h₃
    | next => exact back s₃ h₃
  · have hin : i = n := by omega
    subst hin
    refine W.done _ _ _ hst' fun h₁ tk₁ hk₁ => wpAny_execs_nil ?_
    obtain ⟨F₁, N₁⟩ := next h₁ hk₁
    exact hR g' m' led' h₁ tk₁ hJ F₁ N₁
theorem For_led {E : Value → Shared → Prop} {Q : Flow → Shared → Prop} {x : Str} {px pos : Pos} {iter : Expr} {body : List Stmt} (h : wpAny (model prog w) A (eval iter env) (fun xv s₁ => wpAny (model prog w) A (pyIter xv) (fun it s₂ => ForLed prog w A env x body Q E it s₂) E s₁) E s) (hs : ∀ x, foldedSetIterable iter env x = pure x := by intro _; rfl) (hE : PassesOwn (model prog w) A env E := by passes_own) (hx : env.kindOf x = some .local := by exact rfl) (hp : (env.scope.kind == .class || (env.scope.kind == .module && env.locals != env.globals)) = false := by exact rfl) :
    wpAny (model prog w) A (exec (.For (.Name x px) iter body [] pos) env) Q E s := by
  refine wpAny_For (wpAny_mono h (fun xv s₁ h₁ => wpAny_mono h₁ (fun it s₂ h₂ => ?_) fun _ _ e => e) fun _ _ e => e) hs
  obtain ⟨I, fp, n, P, St, g, m, led, J, rfl, W, hLf, hI, hst, F, N, hne, hg, h0, step, hQ⟩ := h₂
  exact forLoop_led (R := fun r s' => match r with | .ok f => Q f s' | .error e => cameBackBy (model prog w) A env E e s') W hx hp hLf hI hst F N hne hg J h0 (fun i v g m led h tk oI a b c d e f k => wpAny_passesOwn hE (wpAny_mono (step i v g m led h tk oI a b c d e f k) (fun fl s'' q => by cases fl <;> exact q) fun _ _ x => x)) hQ
end
end
section
open PySem.Spec PySem.Calls
section
variable {prog : Program} {w : World} {A : Around} {s : Shared} {env : Env} {g : Heap} {E : Value → Shared → Prop} {Q : Flow → Shared → Prop} {x : Str} {body : List Stmt} {m : Str → Option Value} {led : List (Addr × Obj)}
theorem rangeSize_up {n : Nat} : Builtin.Range.rangeSize 0 (n : Int) 1 = (n : Int) := by
  unfold Builtin.Range.rangeSize
  rw [if_pos (by decide), Int.ediv_one]
  split <;> omega
theorem small_up {n : Nat} (h : n < 4000000000000000000) : Builtin.Range.small 0 (n : Int) 1 = true :=
  small_one (by decide) (by decide) (by omega) (by omega)
theorem iter_range {r : Addr} {t u v : Tok} {N : Int} (n : Nat) (hN : N = n) (hh : A.handled = none) (hr : IsRange s.heap r 0 N 1 t u v) (hn : n < 4000000000000000000) (F : Fr g env.locals s.heap m) (Nw : News g env.locals s.heap led)
    (J : Nat → Heap → (Str → Option Value) → List (Addr × Obj) → Prop) (h0 : J 0 g m led)
    (turn : ∀ (k : Nat) tk' g m led h tk I oI, k < n → J k g m led → Fr g env.locals h (fun y => if y = x then some (.int k tk') else m y) → News g env.locals h ((I, oI) :: led) → (∀ p ∈ led, p.1 ≠ I) → (∃ a b c, oI.data = .fields #[rawInt a, rawInt b, rawInt c]) →
      wpAny (model prog w) A (execs body env) (TurnFlow env.locals I oI [I] h s (J (k + 1)) Q) E { s with heap := h, toks := tk })
    (done : ∀ g m led h tk, J n g m led → Fr g env.locals h m → News g env.locals h led → Q .next { s with heap := h, toks := tk }) :
    wpAny (model prog w) A (pyIter (.ref r)) (fun it s₂ => ForLed prog w A env x body Q E it s₂) E s := by
  subst hN
  refine wpAny_pyIter_range hr (small_up hn) ?_
  rw [rangeSize_up]
  have hnew := next_is_new F
  refine ⟨s.heap.objs.size, [s.heap.objs.size], n, _, _, g, m, led, J, rfl, Walks.range hh _ 0 1 n, ?_, ?_, ?_, F.push _, (fun p hp => ⟨Heap.get?_push_of_some _ (Nw p hp).1, (Nw p hp).2⟩), ?_, hnew, h0, ?_, ?_⟩
  · intro hm
    exact absurd F.ns.lt ((List.mem_singleton.mp hm) ▸ Nat.lt_irrefl _)
  · exact fun i h st => ⟨_, st⟩
  · show IsRangeIter _ _ _ _ _
    simpa using Heap.get?_push_size _ rfl
  · intro p hp hI
    exact absurd (Heap.lt_size (Nw p hp).1) (hI ▸ Nat.lt_irrefl _)
  · (intro i v g m led h tk oI hi hr1 hJ F₁ N₁ hne hst; obtain ⟨t', rfl⟩ := hr1)
    have e : (0 : Int) + (i : Int) * 1 = (i : Int) := by omega
    rw [e] at F₁
    have ho := Option.some.inj (((N₁ _ (.head _)).1).symm.trans (show h.get? s.heap.objs.size = some _ from hst))
    exact turn i t' g m led h tk _ oI hi hJ F₁ N₁ hne ⟨_, _, _, congrArg Obj.data ho⟩
  · exact fun g m led h tk hJ F₁ N₁ => done g m led h tk hJ F₁ N₁
end
end
section
open PySem.Spec PySem.Calls
section
variable {prog : Program} {w : World} {A : Around} {s : Shared} {env : Env} {g : Heap} {E : Value → Shared → Prop} {Q : Flow → Shared → Prop} {x : Str} {body : List Stmt} {m : Str → Option Value} {led : List (Addr × Obj)}
theorem iter_list {D : Addr} {items : Array Value} (hl : s.heap.IsList D items) (hh : A.handled = none) (hDL : D ≠ env.locals) (F : Fr g env.locals s.heap m) (Nw : News g env.locals s.heap led)
    (J : Nat → Heap → (Str → Option Value) → List (Addr × Obj) → Prop) (h0 : J 0 g m led)
    (turn : ∀ (k : Nat) v g m led h tk I oI, items[k]? = some v → J k g m led → Fr g env.locals h (fun y => if y = x then some v else m y) → News g env.locals h ((I, oI) :: led) → (∀ p ∈ led, p.1 ≠ I) → (∃ a b, oI.data = .fields #[a, .int b 0]) → D ≠ I → h.IsList D items →
      wpAny (model prog w) A (execs body env) (TurnFlow env.locals I oI [I, D] h s (J (k + 1)) Q) E { s with heap := h, toks := tk })
    (done : ∀ g m led h tk, J items.size g m led → Fr g env.locals h m → News g env.locals h led → Q .next { s with heap := h, toks := tk }) :
    wpAny (model prog w) A (pyIter (.ref D)) (fun it s₂ => ForLed prog w A env x body Q E it s₂) E s := by
  refine wpAny_pyIter_list hl ?_
  have hnew := next_is_new F
  obtain ⟨oD, hD, hDr⟩ := id hl
  have hlt : D < s.heap.objs.size := Heap.lt_size hD
  have hne : D ≠ s.heap.objs.size := Nat.ne_of_lt hlt
  refine ⟨s.heap.objs.size, [s.heap.objs.size, D], items.size, _, _, g, m, led, J, rfl, Walks.list hh _ D hne items, ?_, ?_, ?_, F.push _, (fun p hp => ⟨Heap.get?_push_of_some _ (Nw p hp).1, (Nw p hp).2⟩), ?_, hnew, h0, ?_, ?_⟩
  · intro hm
    rcases List.mem_cons.mp hm with e | hm
    · exact absurd F.ns.lt (e ▸ Nat.lt_irrefl _)
    · exact hDL (List.mem_singleton.mp hm).symm
  · exact fun i h st => let ⟨o, ho, _⟩ := st.1; ⟨o, ho⟩
  · exact ⟨⟨_, Heap.get?_push_size _ rfl, rfl, rfl⟩, hl.push _⟩
  · intro p hp hI
    exact absurd (Heap.lt_size (Nw p hp).1) (hI ▸ Nat.lt_irrefl _)
  · rintro i v g m led h tk oI hi hv hJ F₁ N₁ hnI hst
    obtain ⟨⟨o, ho, hc, hd⟩, hls⟩ := hst
    have e := Option.some.inj (((N₁ _ (.head _)).1).symm.trans ho)
    exact turn i v g m led h tk _ oI hv hJ F₁ N₁ hnI ⟨_, _, (congrArg Obj.data e).trans hd⟩ hne hls
  · exact fun g m led h tk hJ F₁ N₁ => done g m led h tk hJ F₁ N₁
end
theorem iter_no {o : Obj} (h : ∃ a b, o.data = .fields #[a, .int b 0]) : ∀ vs t, o.data = .fields vs → vs[1]? ≠ some (.str (Str.ofString "suffixed_err.<locals>.coord_repr") t) := fun vs t e => by
  obtain ⟨a, b, h⟩ := h
  rw [h] at e
  cases e
  exact fun q => nomatch q
end
section
open PySem.Spec PySem.Calls
theorem sub_list (x : Str) (i j : Nat) : (Builtin.Str.strSub x i j).cps.toList = (x.cps.toList.drop i).take (j - i) := by
  unfold Builtin.Str.strSub
  simp [Array.toList_extract]
theorem drop_tw (l : List Nat) (g : Nat → Bool) : l.drop (l.takeWhile g).length = l.dropWhile g := by
  induction l with
  | nil => rfl
  | cons a l ih =>
    rw [List.takeWhile_cons, List.dropWhile_cons]
    cases h : g a with
    | true => simpa using ih
    | false => simp
theorem strip_all {x : Str} {g : Nat → Bool} (h : Txt.stripBy g true true x = Str.empty) : ∀ c ∈ x.cps.toList, g c = true := by
  rw [W.stripBy_eq] at h
  unfold W.stripped at h
  simp only [if_true] at h
  intro c hc
  cases hg : g c with
  | true => rfl
  | false =>
    exfalso
    have hl := congrArg (fun y : Str => y.cps.toList) h
    simp only [sub_list] at hl
    have hl2 := congrArg List.length hl
    rw [List.length_take, List.length_drop, len_list] at hl2
    have e0 : (Str.empty.cps.toList).length = 0 := rfl
    rw [e0] at hl2
    have hd : x.cps.toList.drop (x.cps.toList.takeWhile g).length = x.cps.toList.dropWhile g := drop_tw _ _
    have hne : x.cps.toList.dropWhile g ≠ [] := by
      intro e
      have h1 := List.takeWhile_append_dropWhile (p := g) (l := x.cps.toList)
      rw [e, List.append_nil] at h1
      rw [← h1] at hc
      have := List.all_takeWhile (p := g) (l := x.cps.toList)
      rw [List.all_eq_true] at this
      rw [this c hc] at hg; cases hg
    have hlen := congrArg List.length (List.takeWhile_append_dropWhile (p := g) (l := x.cps.toList))
    rw [List.length_append, len_list] at hlen
    rw [hd] at hl2
    have hdl : 0 < (x.cps.toList.dropWhile g).length := List.length_pos_iff.mpr hne
    have hr : ((x.cps.toList.dropWhile g).reverse.takeWhile g).length < (x.cps.toList.dropWhile g).length := by
      rcases Nat.lt_or_ge ((x.cps.toList.dropWhile g).reverse.takeWhile g).length (x.cps.toList.dropWhile g).length with q | q
      · exact q
      · exfalso
        have e1 : (x.cps.toList.dropWhile g).reverse.takeWhile g = (x.cps.toList.dropWhile g).reverse := by
          refine List.IsPrefix.eq_of_length_le (List.takeWhile_prefix g) ?_
          rw [List.length_reverse]; exact q
        have h2 := List.all_takeWhile (p := g) (l := (x.cps.toList.dropWhile g).reverse)
        rw [e1, List.all_reverse, List.all_eq_true] at h2
        cases hcs : x.cps.toList.dropWhile g with
        | nil => exact hne hcs
        | cons d r =>
          have h3 := h2 d (by rw [hcs]; exact List.mem_cons_self ..)
          have h4 := List.head_dropWhile_not g hne
          have h5 : (x.cps.toList.dropWhile g).head hne = d := by simp only [hcs, List.head_cons]
          rw [h5] at h4
          rw [h3] at h4; cases h4
    omega
theorem rstrip_len (x : Str) (g : Nat → Bool) : (Txt.stripBy g false true x).length = x.length - (x.cps.toList.reverse.takeWhile g).length := by
  rw [W.stripBy_eq]
  unfold W.stripped
  rw [← len_list, sub_list]
  simp only [if_true, Bool.false_eq_true, if_false, List.drop_zero, List.length_take, len_list, Nat.sub_zero]
  exact Nat.min_eq_left (Nat.sub_le ..)
theorem lstrip_list (x : Str) (g : Nat → Bool) : (Txt.stripBy g true false x).cps.toList = x.cps.toList.dropWhile g := by
  rw [W.stripBy_eq]
  unfold W.stripped
  rw [sub_list]
  simp only [if_true, Bool.false_eq_true, if_false]
  have := List.takeWhile_append_dropWhile (p := g) (l := x.cps.toList)
  have hd : x.cps.toList.drop (x.cps.toList.takeWhile g).length = x.cps.toList.dropWhile g := drop_tw _ _
  rw [hd, List.take_of_length_le]
  have h := congrArg List.length this
  rw [List.length_append, len_list] at h
  exact Nat.le_sub_of_add_le' (Nat.le_of_eq h)
end
section
open PySem.Spec PySem.Calls
noncomputable def Sign (p : Nat → Bool) (x : Str) : Bool := match x.cps.toList with | [c] => p c | _ => false
theorem sign_one (p : Nat → Bool) (c : Nat) : Sign p ⟨#[c]⟩ = p c := rfl
noncomputable def lowP (c : Nat) : Bool := (c < 32 && c != 9) || c == 127
noncomputable def wsP (c : Nat) : Bool := c == 32 || c == 9
noncomputable def wsNlP (c : Nat) : Bool := c == 10 || c == 32 || c == 9
noncomputable def bareP (c : Nat) : Bool := (97 ≤ c && c ≤ 122) || (65 ≤ c && c ≤ 90) || (48 ≤ c && c ≤ 57) || c == 45 || c == 95
theorem set_p {L : List Nat} {p : Nat → Bool} (h1 : ((List.range 128).all fun c => L.contains c == p c) = true) (h2 : (L.all fun x => decide (x < 128)) = true) (h3 : ∀ c, 128 ≤ c → p c = false) : ∀ c, L.contains c = p c := fun c => by
  by_cases h : c < 128
  · exact eq_of_beq (List.all_eq_true.mp h1 c (List.mem_range.mpr h))
  · rw [h3 c (by omega)]
    cases e : L.contains c with
    | false => rfl
    | true =>
      have := List.all_eq_true.mp h2 c (by simpa using e)
      simp at this; omega
theorem sign_of {l : List (Nat × Tok)} {p : Nat → Bool} (h : ∀ c, (l.map (·.1)).contains c = p c) : (fun x : Str => l.any fun y => x == ⟨#[y.1]⟩) = Sign p := by
  funext x
  obtain ⟨⟨cs⟩⟩ := x
  unfold Sign
  have key : ∀ c, (l.any fun y => (⟨#[c]⟩ : Str) == ⟨#[y.1]⟩) = p c := fun c => by
    rw [← h c]
    induction l with
    | nil => rfl
    | cons a l ih =>
      rw [List.any_cons, List.map_cons, List.contains_cons]
      have e : ((⟨#[c]⟩ : Str) == ⟨#[a.1]⟩) = (c == a.1) := by
        rw [Bool.eq_iff_iff, beq_iff_eq, beq_iff_eq]
        constructor
        · intro q; injection q with q; injection q with q; injection q
        · rintro rfl; rfl
      rw [e]
      congr 1
      have : ∀ l : List (Nat × Tok), (l.any fun y => (⟨#[c]⟩ : Str) == ⟨#[y.1]⟩) = (l.map (·.1)).contains c := by
        intro l
        induction l with
        | nil => rfl
        | cons b l ih2 =>
          rw [List.any_cons, List.map_cons, List.contains_cons, ih2]
          congr 1
          rw [Bool.eq_iff_iff, beq_iff_eq, beq_iff_eq]
          constructor
          · intro q; injection q with q; injection q with q; injection q
          · rintro rfl; rfl
      exact this l
  match cs with
  | [] =>
    show (l.any fun y => (⟨#[]⟩ : Str) == ⟨#[y.1]⟩) = false
    rw [List.any_eq_false]
    intro y _ q
    have := eq_of_beq q
    injection this with q; injection q with q; cases q
  | [c] => exact key c
  | c :: d :: r =>
    show (l.any fun y => (⟨(c :: d :: r).toArray⟩ : Str) == ⟨#[y.1]⟩) = false
    rw [List.any_eq_false]
    intro y _ q
    have := eq_of_beq q
    injection this with q; injection q with q; cases q
theorem froz_sign {w : World} {base : Heap} {a : Addr} {l : List (Nat × Tok)} {p : Nat → Bool} {n : Nat} (x : FsAt w base a l) (h1 : ((List.range 128).all fun c => (l.map (·.1)).contains c == p c) = true) (h2 : ((l.map (·.1)).all fun x => decide (x < 128)) = true) (h3 : ∀ c, 128 ≤ c → p c = false) (hn : l.length = n) : FrozAt (PySem.strKind prog w) base a (Sign p) n := by
  rw [← sign_of (set_p h1 h2 h3), ← hn]
  exact fs_froz x
section
variable {w : World} {base : Heap}
theorem fs281 (F : FsIn w base) : FrozAt (PySem.strKind prog w) base 281 (Sign lowP) 32 :=
  froz_sign F.f281 (by decide +kernel) (by decide +kernel) (fun c h => by simp [lowP]; omega) (by decide +kernel)
theorem fs287 (F : FsIn w base) : FrozAt (PySem.strKind prog w) base 287 (Sign wsP) 2 :=
  froz_sign F.f287 (by decide +kernel) (by decide +kernel) (fun c h => by simp [wsP]; omega) (by decide +kernel)
theorem fs295 (F : FsIn w base) : FrozAt (PySem.strKind prog w) base 295 (Sign wsNlP) 3 :=
  froz_sign F.f295 (by decide +kernel) (by decide +kernel) (fun c h => by simp [wsNlP]; omega) (by decide +kernel)
theorem fs296 (F : FsIn w base) : FrozAt (PySem.strKind prog w) base 296 (Sign bareP) 64 :=
  froz_sign F.f296 (by decide +kernel) (by decide +kernel) (fun c h => by simp [bareP]; omega) (by decide +kernel)
theorem fs300 (F : FsIn w base) : FrozAt (PySem.strKind prog w) base 300 (Sign hexOk) 22 :=
  froz_sign F.f300 (by decide +kernel) (by decide +kernel) (fun c h => by simp [hexOk]; omega) (by decide +kernel)
end
end
section
open PySem.Spec PySem.Calls PySem.Builtin
theorem isStr_self (x : Str) (t : Tok) : Value.isStrOf x (.str x t) = true := by simp [Value.isStrOf]
noncomputable def escTab : List (List Nat × Nat) := [([92, 98], 8), ([92, 116], 9), ([92, 110], 10), ([92, 102], 12), ([92, 114], 13), ([92, 34], 34), ([92, 92], 92)]
noncomputable def escOf (x : Str) : Option Nat := escTab.lookup x.cps.toList
theorem isStr_list (x : Str) (l : List Nat) (t : Tok) : Value.isStrOf x (.str ⟨l.toArray⟩ t) = (x.cps.toList == l) := by
  obtain ⟨⟨c⟩⟩ := x
  show ((⟨⟨l⟩⟩ : Str) == ⟨⟨c⟩⟩) = (c == l)
  rw [Bool.eq_iff_iff, beq_iff_eq, beq_iff_eq]
  exact ⟨fun e => (Array.mk.inj (Str.mk.inj e)).symm, fun e => e ▸ rfl⟩
theorem find_tab (x : Str) : ∀ (tab : List (List Nat × Nat)) (es : List DictEntry) (ts : List (Tok × Tok)), es.map (fun e => (e.key, e.val)) = List.zipWith (fun p t => (Value.str ⟨p.1.toArray⟩ t.1, Value.str ⟨#[p.2]⟩ t.2)) tab ts → tab.length = ts.length →
    (∀ c, tab.lookup x.cps.toList = some c → ∃ t, (es.find? fun e => Value.isStrOf x e.key).map (·.val) = some (.str ⟨#[c]⟩ t)) ∧ (tab.lookup x.cps.toList = none → (es.find? fun e => Value.isStrOf x e.key).map (·.val) = none)
  | [], es, [], h, _ => by
    rw [List.zipWith_nil_left] at h
    rw [List.map_eq_nil_iff.mp h]
    exact ⟨fun c hc => (by cases hc), fun _ => rfl⟩
  | p :: tab, [], t :: ts, h, _ => by cases h
  | (l, n) :: tab, e :: es, (t, t') :: ts, h, hl => by
    rw [List.map_cons, List.zipWith_cons_cons] at h
    have h1 := (List.cons.inj h).1
    have h2 := (List.cons.inj h).2
    have ih := find_tab x tab es ts h2 (Nat.succ.inj hl)
    have hk : e.key = .str ⟨l.toArray⟩ t := congrArg Prod.fst h1
    have hv : e.val = .str ⟨#[n]⟩ t' := congrArg Prod.snd h1
    rw [List.lookup_cons, List.find?_cons, hk, isStr_list]
    cases x.cps.toList == l with
    | true => exact ⟨fun c hc => ⟨t', by cases hc; exact congrArg some hv⟩, fun hc => by cases hc⟩
    | false => exact ih
theorem repl_map {w : World} {h : Heap} (X : (law_top.heap_385 w.params).In h) : ∃ f, h.MapOf (PySem.strKind prog w) 305 f ∧ ∀ x, (∀ c, escOf x = some c → ∃ t, f x = some (.str ⟨#[c]⟩ t)) ∧ (escOf x = none → f x = none) := by
  refine ⟨_, ⟨_, _, _, X 305 _ rfl, ⟨rfl, rfl, rfl⟩, rfl, ?_, fun k => rfl⟩, fun x => ?_⟩
  · intro e he
    simp only [List.mem_cons, List.not_mem_nil, or_false, List.mem_toArray, Array.mem_toList_iff] at he
    rcases he with rfl | rfl | rfl | rfl | rfl | rfl | rfl
    · exact ⟨Str.ofString "\\b", isStr_self (Str.ofString "\\b") 1833, rfl⟩
    · exact ⟨Str.ofString "\\t", isStr_self (Str.ofString "\\t") 1835, rfl⟩
    · exact ⟨Str.ofString "\\n", isStr_self (Str.ofString "\\n") 1837, rfl⟩
    · exact ⟨Str.ofString "\\f", isStr_self (Str.ofString "\\f") 1839, rfl⟩
    · exact ⟨Str.ofString "\\r", isStr_self (Str.ofString "\\r") 1841, rfl⟩
    · exact ⟨Str.ofString "\\\"", isStr_self (Str.ofString "\\\"") 1843, rfl⟩
    · exact ⟨Str.ofString "\\\\", isStr_self (Str.ofString "\\\\") 1845, rfl⟩
  · show (∀ c, escOf x = some c → ∃ t, findBy Value.isStrOf _ x = _) ∧ (_ → findBy Value.isStrOf _ x = none)
    unfold findBy
    rw [List.find?_toArray]
    exact find_tab x escTab _ [(1833, 1834), (1835, 1836), (1837, 1838), (1839, 1840), (1841, 1842), (1843, 1844), (1845, 1846)] (by kernel_rfl) rfl
theorem slot_mp_getitem : Slot "mappingproxy" "__getitem__" "mappingproxy.__getitem__" :=
  .of (owner := "mappingproxy") (n := "__getitem__") (by rw [typeLookup_type, builtinLookup_eq_fast]; kernel_rfl) (by decide +kernel) (by decide +kernel) (by decide +kernel)
    (by first | exact .inl (by decide +kernel) | exact .inr (by decide +kernel)) (by rw [isSubtype_type]; kernel_rfl)
theorem entry_mp_getitem : entryFor table "mappingproxy.__getitem__" = some Builtin.«mappingproxy.__getitem__» := entryFor_of_tree (by kernel_rfl)
theorem args_mp_getitem (a b : Value) : argsOk "mappingproxy.__getitem__" ⟨[a, b], []⟩ := by
  unfold argsOk; kernel_rfl
section
variable {w : World} {A : Around} {E : Value → Shared → Prop} {s : Shared} {h₀ : Heap} {L : Addr} {m : Str → Option Value} {Q : Value → Shared → Prop} {value slice : PySem.Expr} {x : Str} {u : Tok}
theorem item_repl (h1 : ∀ c t tk, escOf x = some c → Q (.str ⟨#[c]⟩ t) { s with toks := tk }) (h0 : escOf x = none → ∀ h' e tk, Heap.NewExc s.heap h' e "KeyError" → E (.ref e) { s with heap := h', toks := tk }) (hs : subscripted slice false (.ref 306) (.str x u) = operate [.ref 306, .str x u] (getItem (.ref 306) (.str x u)) := by with_unfolding_all rfl) (X : (law_top.heap_385 w.params).In h₀ := by assumption) (F : Fr h₀ L s.heap m := by assumption) (hh : A.handled = none := by first | rfl | assumption) :
    wpAny (model prog w) A (subscriptTail value slice (.ref 306) (.str x u)) Q E s := by
  have X := X.keeps F.keep
  have ho : s.heap.get? 306 = some { cls := .type "mappingproxy", data := .fields #[.ref 305] } := X 306 _ rfl
  have hT : s.TypeIs (.ref 306) "mappingproxy" := ⟨_, ho, rfl⟩
  obtain ⟨f, hm, hf⟩ := repl_map X
  refine tail_any hT slot_mp_getitem.lookup (wpAny_getItem_slot hT (by decide) slot_mp_getitem (wpAny_call_entry slot_mp_getitem hT entry_mp_getitem ?_ (args_mp_getitem _ _))) hs
  unfold Builtin.«mappingproxy.__getitem__»
  refine wpAny_bind (m := slotArgs "__getitem__" 1 _) (wpAny_pure ?_)
  dsimp only
  refine wpAny_bind (wpAny_field ho rfl (x := .ref 305) rfl ?_)
  cases he : escOf x with
  | some c =>
    obtain ⟨t, ht⟩ := (hf x).1 c he
    exact wpAny_bind (wpAny_getItem_of (knd := PySem.strKind prog w) (isStr_self x u) hm ht (wpAny_pure ⟨_, rfl, h1 c t _ he⟩))
  | none =>
    exact wpAny_bind (wpAny_getItem_missing_of (knd := PySem.strKind prog w) (isStr_self x u) (by decide) hh hm ((hf x).2 he) fun h' e hx => h0 he h' e _ hx)
end
theorem binds_kw {s : Shared} {fd : FuncData} {args : Args} {binds : List (Str × Value)} {D : Addr} {nm : Str} {mg : Str → Option Value} {v : Value} {k : Option Value → Sem (List (Str × Value))} (hD : s.heap.Ns D mg) (hm : mg nm = some v) (h₁ : bindArgs fd args = nsGet D nm >>= k) (h₂ : k (some v) = pure binds) : BindsTo s fd args binds := fun _ _ _ _ hq => by
  rw [h₁]; exact wpAny_bind (wpAny_nsGet hD (by rw [hm, h₂]; exact wpAny_pure hq))
theorem ml_ns {w : World} {h : Heap} (X : (law_top.heap_385 w.params).In h) : ∃ mg, h.Ns 482 mg ∧ mg (Str.ofString "multiline") = some (.bool false) := by
  refine ⟨_, ⟨_, _, _, X 482 _ rfl, rfl, ?_, fun _ => rfl⟩, ?_⟩
  · intro e he
    simp only [List.mem_cons, List.not_mem_nil, or_false, List.mem_toArray, Array.mem_toList_iff] at he
    subst he
    exact ⟨_, _, rfl⟩
  · kernel_rfl
end
section
open PySem.Spec PySem.Calls PySem.Builtin
theorem binds_esc {s : Shared} {fd : FuncData} {x y : Value} {mg : Str → Option Value} {p1 p2 p3 p4 : Pos} (hD : s.heap.Ns 482 mg) (hm : mg (Str.ofString "multiline") = some (.bool false))
    (hp : fd.params = ⟨[], [⟨Str.ofString "src", none, p1⟩, ⟨Str.ofString "pos", none, p2⟩], none, [⟨Str.ofString "multiline", none, p3⟩], [some (.Constant (.bool false) 0 p4)], none, []⟩) (hk : fd.kwdefaults = .ref 482) (h0 : fd.defaults = .none) :
    BindsTo s fd ⟨[x, y], []⟩ [(Str.ofString "src", x), (Str.ofString "pos", y), (Str.ofString "multiline", .bool false)] := by
  intro M A E Q hq
  obtain ⟨a1, a2, params, a4, a5, a6, a7, dfl, kwd, a10, a11, a12, a13, a14, a15⟩ := fd
  dsimp only at hp hk h0
  subst hp hk h0
  obtain ⟨hp, g, d, tk, os⟩ := s
  repeat (first | (with_reducible refine wpAny_bind (wpAny_nsGet hD ?_)) | wp_step)
  show wpAny _ _ (match mg (Str.ofString "multiline") with | some v => _ | none => _) _ _ _
  rw [hm]
  repeat wp_step
  exact hq
end
section
open PySem.Spec PySem.Calls PySem.Builtin
set_option maxHeartbeats 8000000
section
variable {prog : Program} {w : World} {A A₀ : Around} {E : Value → Shared → Prop} {s : Shared} {a L : Addr} {S : Str → Bool} {n : Nat} {base g : Heap} {outer : List Env} {m : Str → Option Value} {x y : Str} {t u : Tok} {news : List (Addr × Obj)} {Q : Value → Shared → Prop}
theorem in_frozZ (h : Q (.bool (S x)) { s with toks := s.toks + 1 }) (B : Below A₀ base outer g := by assumption) (F : Fr g L s.heap m := by assumption) (H : FrozAt (PySem.strKind prog w) base a S n := by assumption) (hn : n < 4096 := by first | assumption | decide) : wpAny (model prog w) A (compareOp .In (.str x t) (.ref a)) Q E s := in_frozB B F H hn h
theorem notin_frozZ (h : Q (.bool (!S x)) { s with toks := s.toks + 1 }) (B : Below A₀ base outer g := by assumption) (F : Fr g L s.heap m := by assumption) (H : FrozAt (PySem.strKind prog w) base a S n := by assumption) (hn : n < 4096 := by first | assumption | decide) : wpAny (model prog w) A (compareOp .NotIn (.str x t) (.ref a)) Q E s := notin_frozB B F H hn h
theorem none_in_frozZ (h : ∀ tk, Q (.bool false) { s with toks := tk }) (B : Below A₀ base outer g := by assumption) (F : Fr g L s.heap m := by assumption) (H : FrozAt (PySem.strKind prog w) base a S n := by assumption) (hn : n < 4096 := by first | assumption | decide) : wpAny (model prog w) A (compareOp .In .none (.ref a)) Q E s := none_in_froz B F H hn h
theorem isdisjointZ (h : ∀ h' tk, Fr g L h' m → News g L h' news → Q (.bool (!(y.cps.toList.any fun c => S ⟨#[c]⟩))) { s with heap := h', toks := tk }) (B : Below A₀ base outer g := by assumption) (F : Fr g L s.heap m := by k_asm) (N : News g L s.heap news := by k_asm) (H : FrozAt (PySem.strKind prog w) base a S n := by assumption) (hn : n < 4096 := by first | assumption | decide) (hh : A.handled = none := by first | rfl | assumption) : wpAny (model prog w) A (call (.builtin "frozenset.isdisjoint") [.ref a, .str y u]) Q E s := isdisjoint_B B F N H hn hh h
theorem issupersetZ (h : ∀ h' tk, Fr g L h' m → News g L h' news → Q (.bool (y.cps.toList.all fun c => S ⟨#[c]⟩)) { s with heap := h', toks := tk }) (B : Below A₀ base outer g := by assumption) (F : Fr g L s.heap m := by k_asm) (N : News g L s.heap news := by k_asm) (H : FrozAt (PySem.strKind prog w) base a S n := by assumption) (hn : n < 4096 := by first | assumption | decide) (hh : A.handled = none := by first | rfl | assumption) : wpAny (model prog w) A (call (.builtin "frozenset.issuperset") [.ref a, .str y u]) Q E s := issuperset_B B F N H hn hh h
theorem gm_dj {Q : Value × List Value → Shared → Prop} {pl : Sem Bool} (h : Q (.builtin "frozenset.isdisjoint", [.ref a]) s) (B : Below A₀ base outer g := by assumption) (F : Fr g L s.heap m := by assumption) (H : FrozAt (PySem.strKind prog w) base a S n := by assumption) : wpAny (model prog w) A (getMethod (.ref a) (Str.ofString "isdisjoint") pl) Q E s := getMethod_fs slot_fs_isdisjoint type_fs_isdisjoint B F H h
theorem gm_ss {Q : Value × List Value → Shared → Prop} {pl : Sem Bool} (h : Q (.builtin "frozenset.issuperset", [.ref a]) s) (B : Below A₀ base outer g := by assumption) (F : Fr g L s.heap m := by assumption) (H : FrozAt (PySem.strKind prog w) base a S n := by assumption) : wpAny (model prog w) A (getMethod (.ref a) (Str.ofString "issuperset") pl) Q E s := getMethod_fs slot_fs_issuperset type_fs_issuperset B F H h
theorem call_stopZ {args : List Value} {kw : List (Str × Value)} (h : Stop (wpAny (model prog w) A (PySem.call (.ref a) args kw) Q E s)) (_ : [538, 418, 425, 545, 503, 510, 489, 524, 467, 460, 531, 552, 559, 566, 573, 578].elem a = true := by decide) : wpAny (model prog w) A (PySem.call (.ref a) args kw) Q E s := h
theorem and_fits {P : Prop} (h : P) (hn : x.length ≤ sizeLine := by size_fits) : x.length ≤ sizeLine ∧ P := ⟨hn, h⟩
end
theorem goZ {prog : Program} {w : World} {A₀ A : Around} {s : Shared} {base h₀ g₀ : Heap} {outer : List Env} {L a : Addr} {m : Str → Option Value} {cn : Str} {cs : Scope} {ccd : Value} {news : List (Addr × Obj)} {K : Frag} {p : Program} {loose : List Str} {mean : ExcName → Option Value} {mg mb : Str → Option Value} {R : Result → Shared → Prop} {name qual : Str} {params : Arguments} {body : List Stmt} {scope : Scope} {dV kV doc pm cdv ct oc : Value} {an od : Option Addr} {osl : Array (Option Value)} {f : Addr} {args : Args} {binds : List (Str × Value)}
    (h : ∀ g L' h₁, Fr h₀ L g m → Fr g L' h₁ (fun y => binds.reverse.lookup y) → News g L' h₁ news → Below A base (envOf cn cs L a ccd :: outer) g → K.In g → Top p loose mean mg mb g → KtsDicts ((envOf cn cs L a ccd :: outer).filterMap (·.frame)) g →
      wpAny (model prog w) (A.deeper (envOf qual scope L' f cdv)) (execs body (envOf qual scope L' f cdv))
        (fun fl s' => LeaveS ((envOf cn cs L a ccd :: outer).filterMap (·.frame)) A₀ base outer K p loose mean mg mb g₀ h₀ L m g R (match fl with | .ret v => v | _ => .none) s')
        (fun e s' => wpAny (model prog w) (A.deeper (envOf qual scope L' f cdv)) (leaving (envOf qual scope L' f cdv) e) (fun _ s'' => R (.error e) s'') (fun e' s'' => R (.error e') s'') s')
        { s with heap := h₁, toks := s.toks + binds.length })
    (hA : A.frames = some (envOf cn cs L a ccd :: outer) := by exact rfl) (F : Fr h₀ L s.heap m := by k_asm) (B : Below A₀ base outer h₀ := by k_asm) (XB : K.In base := by k_asm) (TB : Top p loose mean mg mb base := by k_asm) (D : KtsDicts (outer.filterMap (·.frame)) h₀ := by k_asm) (T0 : KtsTurn (outer.filterMap (·.frame)) g₀ h₀ := by k_asm) (X₀ : K.In h₀ := by k_asm) (N : News h₀ L s.heap news := by k_asm) (T : Top p loose mean mg mb h₀ := by k_asm)
    (ho : K.lookup f = some ⟨oc, od, .func (fnOf name qual params body scope dV kV doc pm an cdv ct), osl⟩ := by k_is) (hcd : codeIn K cdv qual = true := by k_is) (hroom : A.depth < recursionLimit := by ktr_room)
    (hbind : BindsTo s (fnOf name qual params body scope dV kV doc pm an cdv ct) args binds := by first | exact BindsTo.of_eq rfl | exact binds_esc (by assumption) (by assumption) rfl rfl rfl) (hloc : ∀ y ∈ binds, scope.names.lookup y.1 = some .local := by exact locs rfl)
    (hck : cs.kind = .function := by assumption) (hco : scope.isCoroutine = false := by exact rfl) (hgen : scope.isGenerator = false := by exact rfl) (hk : scope.kind = .function := by exact rfl) (hcell : ∀ x ∈ scope.names, x.2 ≠ .cell := by decide) : codeAny (model prog w) A (.call (.ref f) args) R s :=
  code_defS B F X₀ N T XB TB D T0 hA ho hcd hroom hbind hloc h hck hco hgen hk hcell
theorem lit1 : (Str.ofString " (at ").length = 5 := by kernel_rfl
theorem lit2 : (Str.ofString ")").length = 1 := by kernel_rfl
theorem lit3 : (Str.ofString "end of document").length = 15 := by kernel_rfl
theorem lit4 : (Str.ofString "line ").length = 5 := by kernel_rfl
theorem lit5 : (Str.ofString ", column ").length = 9 := by kernel_rfl
theorem lit6 : PySem.Str.empty.length = 0 := rfl
theorem lit7 : (Str.ofString "Expected ").length = 9 := by kernel_rfl
theorem lit8 : (Str.ofString "Found invalid character ").length = 24 := by kernel_rfl
theorem lits : (Str.ofString " (at ").length = 5 ∧ (Str.ofString ")").length = 1 ∧ (Str.ofString "end of document").length = 15 ∧ (Str.ofString "line ").length = 5 ∧ (Str.ofString ", column ").length = 9 ∧ PySem.Str.empty.length = 0 ∧ (Str.ofString "Expected ").length = 9 ∧ (Str.ofString "Found invalid character ").length = 24 := ⟨lit1, lit2, lit3, lit4, lit5, lit6, lit7, lit8⟩
theorem reprItem_len {x : Str} {i : Int} (hx : ∀ c ∈ x.cps.toList, c < 1114112) : (reprText (Txt.item x i)).length ≤ 12 := by
  refine Nat.le_trans (StrLaws.reprText_len _ fun c hc => ?_) (Nat.le_of_eq rfl)
  have hc : c = (Txt.charAt x i).getD 0 := by simpa [Txt.item] using hc
  rw [hc]
  cases e : Txt.charAt x i with
  | none => decide
  | some d =>
    unfold Txt.charAt at e
    obtain ⟨k, _, hk⟩ := Option.bind_eq_some_iff.mp e
    have := hx d (List.mem_of_getElem? (i := k) (by simpa using hk))
    show d < _
    have e2 : (16 : Nat) ^ 8 = 4294967296 := by decide
    omega
theorem repr_item {prog : Program} {w : World} {A : Around} {E : Value → Shared → Prop} {s : Shared} {x : Str} {i : Int} {t : Tok} {Q : Value → Shared → Prop} (h : (reprText (Txt.item x i)).length ≤ 12 → Q (.str (reprText (Txt.item x i)) s.toks) { s with toks := s.toks + 1 }) (hx : ∀ c ∈ x.cps.toList, c < 1114112 := by assumption) : wpAny (model prog w) A (pyReprObj (.str (Txt.item x i) t)) Q E s :=
  wpAny_pyReprObj_str (h (reprItem_len hx)) (by have := reprItem_len (i := i) hx; rw [sizeLine_eq]; omega)
theorem repr_Z {prog : Program} {w : World} {A : Around} {E : Value → Shared → Prop} {s : Shared} {x : Str} {t : Tok} {Q : Value → Shared → Prop} (h : Q (.str (reprText x) s.toks) { s with toks := s.toks + 1 }) (hz : (reprText x).length ≤ sizeLine := by size_fits) : wpAny (model prog w) A (pyReprObj (.str x t)) Q E s := wpAny_pyReprObj_str h hz
theorem room2 {d a b c r : Nat} (h : d + a < r := by assumption) (hb : b + c ≤ a := by decide) : d + b + c < r := Nat.add_assoc d b c ▸ Nat.lt_of_le_of_lt (Nat.add_le_add_left hb d) h
theorem room1 {d a b r : Nat} (h : d + a < r := by assumption) (hb : b ≤ a := by decide) : d + b < r := Nat.lt_of_le_of_lt (Nat.add_le_add_left hb d) h
theorem room0 {d a r : Nat} (h : d + a < r := by assumption) : d < r := Nat.lt_of_le_of_lt (Nat.le_add_right d a) h
theorem castle {n a : Nat} (h : (n : Int) < 1000000 := by assumption) (ha : 1000000 ≤ a := by decide) : n ≤ a := Nat.le_trans (Nat.le_of_lt (Int.ofNat_lt.mp h)) ha
theorem castle2 {n : Nat} (h : (n : Int) ≤ 1000000 := by assumption) : n ≤ 1000000 := Int.ofNat_le.mp h
theorem leEq {n m : Nat} (h : n = m := by assumption) : n ≤ m := Nat.le_of_eq h
theorem leLt {n m : Nat} (h : n < m := by assumption) : n ≤ m := Nat.le_of_lt h
theorem shortZ {i : Int} (h0 : 0 ≤ i := by omega) (h : i ≤ 2000000 := by omega) : (Str.ofString (toString i)).length ≤ 1921 := int_short h0 h
theorem castlt {n : Nat} (h : (n : Int) < 1000000 := by assumption) : n ≤ 1000000 := Nat.le_of_lt (Int.ofNat_lt.mp h)
end
section
open PySem.Builtin PySem.Builtin.Str PySem.StrLaws
noncomputable def spl (y : List Nat) : Nat → List Nat → List Nat → List (List Nat)
  | _, cur, [] => [cur]
  | 0, cur, c :: l => if y.isPrefixOf (c :: l) then cur :: spl y (y.length - 1) [] l else spl y 0 (cur ++ [c]) l
  | k + 1, cur, _ :: l => spl y k cur l
theorem spl_nil (y : List Nat) (k : Nat) (cur : List Nat) : spl y k cur [] = [cur] := by cases k <;> rfl
theorem prefix_take {y l : List Nat} : y.isPrefixOf l = true ↔ l.take y.length = y := by
  rw [List.isPrefixOf_iff_prefix, List.prefix_iff_eq_take]
  exact ⟨fun h => h.symm, fun h => h.symm⟩
theorem at_prefix (x y : Str) (i : Nat) (hy : 1 ≤ y.length) : At x y x.length i ↔ y.cps.toList.isPrefixOf (x.cps.toList.drop i) = true := by
  have hyl := len_list y
  rw [prefix_take, hyl]
  constructor
  · (intro hr1; obtain ⟨_, h⟩ := hr1)
    rw [subAt_eq] at h
    exact eq_of_beq h
  · intro h
    refine ⟨?_, by rw [subAt_eq, h]; exact beq_self_eq_true _⟩
    have := congrArg List.length h
    rw [List.length_take, List.length_drop, len_list, hyl] at this
    have h2 : y.length ≤ x.length - i := this ▸ Nat.min_le_right ..
    exact Nat.add_le_of_le_sub' (Nat.le_of_lt (Nat.lt_of_sub_pos (Nat.lt_of_lt_of_le hy h2))) h2
theorem spl_occ (x y : Str) (hy : 1 ≤ y.length) (limit : Nat) : ∀ (m cur : Nat) (st : Array Nat × Nat), cur + m = x.length + 1 → st.fst.size + m ≤ limit → st.snd ≤ x.length →
    ∃ cuts, (forIn (List.range' cur m) st (occBody x y x.length limit)).run.fst.toList = st.fst.toList ++ cuts ∧ (partsFrom x y.length st.snd cuts).map (fun p => p.cps.toList) = spl y.cps.toList (st.snd - cur) ((x.cps.toList.drop st.snd).take (cur - st.snd)) (x.cps.toList.drop cur)
  | 0, cur, st, h1, _, h3 => by
    refine ⟨[], by simp, ?_⟩
    have hc : x.length ≤ cur := Nat.le_of_succ_le (Nat.le_of_eq h1.symm)
    have e : x.cps.toList.drop cur = [] := List.drop_eq_nil_of_le (by rw [len_list]; exact hc)
    rw [e, spl_nil]
    show [(strSub x st.snd x.length).cps.toList] = _
    rw [strSub_toList, List.take_of_length_le (by rw [List.length_drop, len_list]; exact Nat.le_refl _), List.take_of_length_le (by rw [List.length_drop, len_list]; exact Nat.sub_le_sub_right hc _)]
  | m + 1, cur, st, h1, h2, h3 => by
    rw [List.range'_succ, List.forIn_cons]
    unfold occBody
    by_cases hA : st.snd ≤ cur ∧ At x y x.length cur
    · obtain ⟨hA0, hA⟩ := hA
      rw [if_pos ⟨⟨⟨by omega, hA0⟩, hA.1⟩, hA.2⟩]
      obtain ⟨cuts, e1, e2⟩ := spl_occ x y hy limit m (cur + 1) (st.fst.push cur, cur + y.length) (by rw [Nat.add_right_comm]; exact h1) (by rw [Array.size_push, Nat.add_right_comm]; exact h2) hA.1
      refine ⟨cur :: cuts, ?_, ?_⟩
      · refine e1.trans ?_
        show (st.fst.push cur).toList ++ cuts = _
        rw [Array.toList_push, List.append_assoc]; rfl
      · have hp := (at_prefix x y cur hy).mp hA
        have hlt : cur < x.cps.toList.length := by rw [len_list]; exact Nat.lt_of_lt_of_le (Nat.lt_add_of_pos_right hy) hA.1
        rw [Nat.sub_eq_zero_of_le hA0]
        rw [List.drop_eq_getElem_cons hlt] at hp ⊢
        rw [spl, if_pos hp]
        show (strSub x st.snd cur).cps.toList :: (partsFrom x y.length (cur + y.length) cuts).map _ = _
        rw [e2, strSub_toList]
        show _ :: spl _ (cur + y.length - (cur + 1)) ((x.cps.toList.drop (cur + y.length)).take (cur + 1 - (cur + y.length))) _ = _
        rw [show cur + 1 - (cur + y.length) = 0 from Nat.sub_eq_zero_of_le (Nat.add_le_add_left hy cur), List.take_zero, show cur + y.length - (cur + 1) = y.cps.toList.length - 1 by rw [len_list]; exact Nat.add_sub_add_left cur _ 1]
    · rw [if_neg (fun h => hA ⟨h.1.1.2, h.1.2, h.2⟩)]
      obtain ⟨cuts, e1, e2⟩ := spl_occ x y hy limit m (cur + 1) (st.fst, st.snd) (by rw [Nat.add_right_comm]; exact h1) (Nat.le_of_succ_le h2) h3
      refine ⟨cuts, e1, e2.trans ?_⟩
      show spl _ (st.snd - (cur + 1)) ((x.cps.toList.drop st.snd).take (cur + 1 - st.snd)) _ = _
      by_cases hn : cur < x.length
      · have hlt : cur < x.cps.toList.length := by rw [len_list]; exact hn
        rw [List.drop_eq_getElem_cons hlt]
        by_cases hf : st.snd ≤ cur
        · have hp : ¬ (y.cps.toList.isPrefixOf (x.cps.toList[cur] :: x.cps.toList.drop (cur + 1)) = true) := by
            rw [← List.drop_eq_getElem_cons hlt]
            exact fun h => hA ⟨hf, (at_prefix x y cur hy).mpr h⟩
          rw [Nat.sub_eq_zero_of_le hf, Nat.sub_eq_zero_of_le (Nat.le_succ_of_le hf), spl, if_neg hp]
          congr 1
          rw [Nat.sub_add_comm hf, List.take_add_one, List.getElem?_drop, Nat.add_sub_cancel' hf, List.getElem?_eq_getElem hlt]
          rfl
        · obtain ⟨k, hk⟩ : ∃ k, st.snd - cur = k + 1 := ⟨st.snd - cur - 1, (Nat.sub_add_cancel (Nat.sub_pos_of_lt (Nat.lt_of_not_le hf))).symm⟩
          rw [hk, spl, show st.snd - (cur + 1) = k from (Nat.sub_sub _ _ _).symm.trans (congrArg Nat.pred hk), Nat.sub_eq_zero_of_le (Nat.succ_le_of_lt (Nat.lt_of_not_le hf)), Nat.sub_eq_zero_of_le (Nat.le_of_lt (Nat.lt_of_not_le hf))]
      · have hc := Nat.le_of_not_lt hn
        rw [List.drop_eq_nil_of_le (i := cur) (by rw [len_list]; exact hc), List.drop_eq_nil_of_le (i := cur + 1) (by rw [len_list]; exact Nat.le_succ_of_le hc), spl_nil, spl_nil]
        rw [List.take_of_length_le (by rw [List.length_drop, len_list]; exact Nat.sub_le_sub_right (Nat.le_succ_of_le hc) _), List.take_of_length_le (by rw [List.length_drop, len_list]; exact Nat.sub_le_sub_right hc _)]
theorem kind_pos (x : Str) : 1 ≤ Str.strKind x := by
  unfold Str.strKind
  split
  · decide
  · split <;> decide
theorem split_spl (x y : Str) (hy : 1 ≤ y.length) (hk : Str.strKind y = 1) : (Txt.split x y).map (fun p => p.cps.toList) = spl y.cps.toList 0 [] x.cps.toList := by
  obtain ⟨cuts, e1, e2⟩ := spl_occ x y hy (x.length + 1) (x.length + 1) 0 ((#[] : Array Nat), 0) (by omega) (by show 0 + _ ≤ _; omega) (Nat.zero_le _)
  have hc : occurrences x y 0 x.length (x.length + 1) = cuts := by
    rw [occ_eq, Nat.sub_zero, e1]; rfl
  have key : Txt.split x y = partsFrom x y.length 0 cuts := by
    unfold Txt.split
    rw [hc, partsBetween_eq]
    have hx1 : partsFrom x y.length 0 [] = [x] := by
      show [strSub x 0 x.length] = [x]
      rw [sub_whole]
    by_cases hn : cuts = []
    · subst hn
      rw [hx1]
      split
      · rfl
      · rfl
    · rw [if_neg, if_neg (by simpa using hn)]
      have hk2 := kind_pos x
      simp only [Bool.or_eq_true, decide_eq_true_eq, not_or]
      refine ⟨?_, by omega⟩
      intro hlt
      refine hn ?_
      rw [← hc]
      by_cases hz : occurrences x y 0 x.length (x.length + 1) = []
      · exact hz
      · obtain ⟨i, _, hA⟩ := occ_some (by omega) hz
        have := hA.1
        omega
  rw [key, e2]
  rfl
noncomputable def hdApp (p : List Nat) : List (List Nat) → List (List Nat)
  | [] => []
  | a :: r => (p ++ a) :: r
theorem hdApp_app (p q : List Nat) (l : List (List Nat)) : hdApp p (hdApp q l) = hdApp (p ++ q) l := by
  cases l with
  | nil => rfl
  | cons a r => simp [hdApp]
theorem spl_cur (y : List Nat) : ∀ (l : List Nat) (k : Nat) (cur : List Nat), spl y k cur l = hdApp cur (spl y k [] l)
  | [], k, cur => by rw [spl_nil, spl_nil]; simp [hdApp]
  | c :: l, 0, cur => by
    rw [spl, spl]
    split
    · simp [hdApp]
    · rw [spl_cur y l 0 (cur ++ [c]), spl_cur y l 0 ([] ++ [c]), hdApp_app, List.nil_append]
  | c :: l, k + 1, cur => by
    rw [spl, spl]
    exact spl_cur y l k cur
end
open PySem.Spec PySem.Calls
set_option hygiene false
local macro_rules | `(tactic| omega) => `(tactic| first | with_reducible first | assumption | exact Int.natCast_nonneg _ | exact room2 | exact room1 | exact room0 | exact castle | omega +splitDisjunctions)
local macro_rules | `(tactic| k_data) => `(tactic| (first | assumption | exact KtsTurn.refl))
local macro_rules | `(tactic| k_all) => `(tactic| assumption)
local macro_rules | `(tactic| k_room) => `(tactic| ktr_room)
local macro_rules | `(tactic| k_go) => `(tactic| (refine wpAny_call ?_; k_dflt refine goZ ?_; intro _ _ _ _ _ _ _ _ _ _; (try dsimp only); (try k_fold)))
local macro_rules | `(tactic| walk_at "zb") => `(tactic| first | with_reducible first | assumption | exact leEq | exact castlt | exact castle2 | exact leLt | (apply Nat.add_le_add <;> walk_at "zb") | exact shortZ | exact Nat.le_refl _)
local macro_rules | `(tactic| size_fits) => `(tactic| (simp only [PySem.Str.length_append, lits, PySem.sizeLine_eq]; first | (apply Nat.le_trans; walk_at "zb"; decide) | omega))
local macro_rules | `(tactic| walk_at "joinParts") => `(tactic| ((first | (with_reducible show wpAny _ _ (joinParts _ []) _ _ _) | ((with_reducible show wpAny _ _ (joinParts _ (evalEach [] _)) _ _ _); refine joinParts_nilE ?_)); refine joinParts_nil ?_ (by size_fits)))
local macro_rules | `(tactic| walk_at "And") => `(tactic| ((with_reducible show PySem.Str.length _ ≤ sizeLine ∧ _); refine ⟨by size_fits, ?_⟩))
local macro_rules | `(tactic| walk_at "compareOp In str ref") => `(tactic| (refine in_frozZ ?_; try dsimp only))
local macro_rules | `(tactic| walk_at "compareOp NotIn str ref") => `(tactic| (refine notin_frozZ ?_; try dsimp only))
local macro_rules | `(tactic| walk_at "compareOp In none ref") => `(tactic| (refine none_in_frozZ (fun _ => ?_); try dsimp only))
local macro_rules | `(tactic| walk_at "WhlRest") => `(tactic| refine rest_stop ?_)
local macro_rules | `(tactic| walk_at "exec While") => `(tactic| refine whl_stop 1000001 ?_)
local macro_rules | `(tactic| walk_at "call builtin:str.index") => `(tactic| refine index3_or (fun _ _ _ _ _ => ?_) (fun _ _ _ => ?_))
local macro_rules | `(tactic| walk_at "call builtin:str.count") => `(tactic| (refine count_nl ?_; intros))
local macro_rules | `(tactic| walk_at "call builtin:str.rindex") => `(tactic| (refine rindex_nl ?_; intros))
local macro_rules | `(tactic| walk_at "noteFrame ref") => `(tactic| (k_here; k_dflt refine catch_new ?_; intros; (try dsimp only)))
local macro_rules | `(tactic| walk_at "call builtin:frozenset.isdisjoint") => `(tactic| (k_dflt refine isdisjointZ ?_; intros; try dsimp only))
local macro_rules | `(tactic| walk_at "call builtin:frozenset.issuperset") => `(tactic| (k_dflt refine issupersetZ ?_; intros; try dsimp only))
local macro_rules | `(tactic| walk_at "call ref") => `(tactic| (k_dflt refine call_tde ?_; intros; (try dsimp only)))
local macro_rules | `(tactic| walk_at "call ref") => `(tactic| refine call_stopZ ?_)
local macro_rules | `(tactic| walk_at "getMethod ref") => `(tactic| with_reducible first | refine gm_dj ?_ | refine gm_ss ?_)
local macro_rules | `(tactic| walk_at "exec Raise some none") => `(tactic| k_dflt refine raise_own (C := 316) ?_)
local macro_rules | `(tactic| walk_at "exec Raise some some") => `(tactic| k_dflt refine raise_own_from (C := 316) ?_)
local macro_rules | `(tactic| walk_at "pyReprObj str") => `(tactic| with_reducible first | refine repr_item (fun _ => ?_) | refine repr_Z ?_)
local macro_rules | `(tactic| walk_at "subscriptTail") => `(tactic| refine item_repl (fun _ _ _ _ => ?_) (fun _ _ _ _ _ => ?_))
set_option hygiene true
noncomputable section
open PySem.Spec PySem.Calls
set_option maxHeartbeats 8000000
local macro_rules | `(tactic| walk_at "noteFrame ref") => `(tactic| (k_here; k_dflt refine look_new ?_; intro G' h' F' R' U'; (try dsimp only at R' U' ⊢)))
namespace Nscalarctr
abbrev AV : Type := World × Int × Tok
theorem ne_AV : Nonempty AV := ne_world.elim fun w => ⟨⟨w, 0, 0⟩⟩
def S1 (v : AV) : Prop :=
  (fun (w : World) (c : Int) (t1 : Tok) => CtrK w true 1 8 545 [.int c t1] [] (fun v new _ => new = [] ∧ v = .bool (decide ((0 ≤ c ∧ c ≤ 55295) ∨ (57344 ≤ c ∧ c ≤ 1114111)))) (fun _ => False)) v.1 v.2.1 v.2.2
@[irreducible] def c9 : AV := eps ne_AV S1
@[irreducible] def w : World := c9.1
@[irreducible] def c : Int := c9.2.1
@[irreducible] def t1 : Tok := c9.2.2
@[irreducible] def k9 : CV := eps ne_CV (CtrAt w true 1 8 545 [.int c t1] [] (fun v new _ => new = [] ∧ v = .bool (decide ((0 ≤ c ∧ c ≤ 55295) ∨ (57344 ≤ c ∧ c ≤ 1114111)))) (fun _ => False))
theorem z9 : CtrAt w true 1 8 545 [.int c t1] [] (fun v new _ => new = [] ∧ v = .bool (decide ((0 ≤ c ∧ c ≤ 55295) ∨ (57344 ≤ c ∧ c ≤ 1114111)))) (fun _ => False) k9 := by
  intro hnd news tl hn0 hN5 B F X N TL T hk XB TB D T0 FS hd hu hret hx
  cases hn0 rfl
  clear hx FS
  revert X XB; unfold prog; k_fill; intro X XB
  k_go
  k_steps
  all_goals (
    refine hret _ [] tl _ _ _ ⟨rfl, ?_⟩ TL (by assumption) (by assumption) (by assumption) (by assumption) (by assumption) (by assumption) (by assumption)
    congr 1
    simp only [decide_eq_decide, decide_eq_true_eq, Bool.decide_eq_true, decide_eq_false_iff_not, true_eq_decide_iff, false_eq_decide_iff] at *
    omega)
theorem z8 : S1 c9 := by
  with_unfolding_all exact (ctr_all z9 : CtrK w true 1 8 545 [.int c t1] [] (fun v new _ => new = [] ∧ v = .bool (decide ((0 ≤ c ∧ c ≤ 55295) ∨ (57344 ≤ c ∧ c ≤ 1114111)))) (fun _ => False))
end Nscalarctr
theorem scalar_ctr (w : World) (c : Int) (t1 : Tok) :
    Ctr w true 1 8 545 [.int c t1] (fun v new _ => new = [] ∧ v = .bool (decide ((0 ≤ c ∧ c ≤ 55295) ∨ (57344 ≤ c ∧ c ≤ 1114111)))) (fun _ => False) := by
  have h := eps_all (ne := Nscalarctr.ne_AV) (S := Nscalarctr.S1) (by with_unfolding_all exact Nscalarctr.z8) ⟨w, c, t1⟩
  exact h
namespace Nskipcharsctr
abbrev AV : Type := World × Str × Tok × Int × Tok × Addr × (Str → Bool) × Nat
theorem ne_AV : Nonempty AV := ne_world.elim fun w => ⟨⟨w, default, 0, 0, 0, 0, fun _ => true, 0⟩⟩
def S1 (v : AV) : Prop :=
  (fun (w : World) (src : Str) (t1 : Tok) (pos : Int) (t2 : Tok) (fs : Addr) (S : Str → Bool) (n : Nat) => (∀ base, FsIn w base → FrozAt (PySem.strKind prog w) base fs S n) → (n < 4096) → (0 ≤ pos) → (pos ≤ src.length) → ((src.length : Int) < 1000000) → CtrK w true 1 8 418 [.str src t1, .int pos t2, .ref fs] [] (fun v new _ => new = [] ∧ ∃ i t, v = .int i t ∧ pos ≤ i ∧ i ≤ src.length ∧ (∀ j, pos ≤ j → j < i → S (Txt.item src j) = true) ∧ (i = src.length ∨ S (Txt.item src i) = false)) (fun _ => False)) v.1 v.2.1 v.2.2.1 v.2.2.2.1 v.2.2.2.2.1 v.2.2.2.2.2.1 v.2.2.2.2.2.2.1 v.2.2.2.2.2.2.2
@[irreducible] def c9 : AV := eps ne_AV S1
@[irreducible] def w : World := c9.1
@[irreducible] def src : Str := c9.2.1
@[irreducible] def t1 : Tok := c9.2.2.1
@[irreducible] def pos : Int := c9.2.2.2.1
@[irreducible] def t2 : Tok := c9.2.2.2.2.1
@[irreducible] def fs : Addr := c9.2.2.2.2.2.1
@[irreducible] noncomputable def S : Str → Bool := c9.2.2.2.2.2.2.1
@[irreducible] def n : Nat := c9.2.2.2.2.2.2.2
@[irreducible] def k9 : CV := eps ne_CV (CtrAt w true 1 8 418 [.str src t1, .int pos t2, .ref fs] [] (fun v new _ => new = [] ∧ ∃ i t, v = .int i t ∧ pos ≤ i ∧ i ≤ src.length ∧ (∀ j, pos ≤ j → j < i → S (Txt.item src j) = true) ∧ (i = src.length ∨ S (Txt.item src i) = false)) (fun _ => False))
abbrev a := k9.a
abbrev base := k9.base
abbrev s := k9.s
theorem z9 (H : ∀ base, FsIn w base → FrozAt (PySem.strKind prog w) base fs S n) (hn : n < 4096) (hp0 : 0 ≤ pos) (hp1 : pos ≤ src.length) (hsz : (src.length : Int) < 1000000) : CtrAt w true 1 8 418 [.str src t1, .int pos t2, .ref fs] [] (fun v new _ => new = [] ∧ ∃ i t, v = .int i t ∧ pos ≤ i ∧ i ≤ src.length ∧ (∀ j, pos ≤ j → j < i → S (Txt.item src j) = true) ∧ (i = src.length ∨ S (Txt.item src i) = false)) (fun _ => False) k9 := by
  intro hnd news tl hn0 hN5 B F X N TL T hk XB TB D T0 FS hd hu hret hx
  cases hn0 rfl
  have H := H base FS
  clear hx FS
  revert X XB H; unfold prog; k_fill; intro X XB H
  k_go
  rename_i g' L' h' FG' F' N' B' X' T' D'
  k_steps
  refine Stop.go ?_
  refine whl_ind (fun k s' => ∃ (i : Int) (t : Tok) (h' : Heap) (tk : Nat), s' = { s with heap := h', toks := tk } ∧ pos ≤ i ∧ i ≤ src.length ∧ src.length - i < k ∧ (∀ j, pos ≤ j → j < i → S (Txt.item src j) = true) ∧ Fr g' L' h' (fun y => List.lookup y [(Str.ofString "chars", .ref fs), (Str.ofString "pos", .int i t), (Str.ofString "src", .str src t1)]) ∧ News g' L' h' (tl ++ news)) ?_ ?_ _ _ ?_
  · (intro s' hr1; obtain ⟨i, t, h', tk, rfl, h0, h1, h2, _⟩ := hr1)
    omega
  · (intro k IH s' hr2; obtain ⟨i, t, h', tk, rfl, h0, h1, h2, hj, F, N⟩ := hr2)
    have hi0 : 0 ≤ i := by omega
    refine whl_turn (by passes_own) ?_
    k_steps
    · exact hret _ [] tl _ _ _ ⟨rfl, i, _, rfl, h0, h1, hj, .inl (by omega)⟩ TL (by assumption) (by assumption) (by assumption) (by assumption) (by assumption) (by assumption) (by assumption)
    · cases hS : S (Txt.item src i) with
      | false =>
        refine WhlIf.no rfl ?_
        k_steps
        exact hret _ [] tl _ _ _ ⟨rfl, i, _, rfl, h0, h1, hj, .inr hS⟩ TL (by assumption) (by assumption) (by assumption) (by assumption) (by assumption) (by assumption) (by assumption)
      | true =>
        refine WhlIf.yes rfl ?_
        k_steps
        have hjj : ∀ j, pos ≤ j → j < i + 1 → S (Txt.item src j) = true := fun j a b => by
          by_cases e : j = i
          · rw [e]; exact hS
          · exact hj j a (by omega)
        exact Stop.go (IH _ ⟨i + 1, _, _, _, rfl, by omega, by omega, by omega, hjj, fr_eq (by assumption) (by
          funext y
          by_cases h1 : y = Str.ofString "pos"
          · subst h1; rfl
          · rw [if_neg h1]
            have h2 : (y == Str.ofString "pos") = false := beq_eq_false_iff_ne.mpr h1
            simp only [List.lookup, h2]), by assumption⟩)
  · refine ⟨pos, t2, _, _, rfl, Int.le_refl _, hp1, by omega, fun j a b => absurd a (by omega), ?_, ?_⟩
    · assumption
    · assumption
theorem z8 : S1 c9 := by
  with_unfolding_all exact (fun H hn hp0 hp1 hsz => ctr_all (z9 H hn hp0 hp1 hsz) : (∀ base, FsIn w base → FrozAt (PySem.strKind prog w) base fs S n) → (n < 4096) → (0 ≤ pos) → (pos ≤ src.length) → ((src.length : Int) < 1000000) → CtrK w true 1 8 418 [.str src t1, .int pos t2, .ref fs] [] (fun v new _ => new = [] ∧ ∃ i t, v = .int i t ∧ pos ≤ i ∧ i ≤ src.length ∧ (∀ j, pos ≤ j → j < i → S (Txt.item src j) = true) ∧ (i = src.length ∨ S (Txt.item src i) = false)) (fun _ => False))
end Nskipcharsctr
theorem skip_chars_ctr (w : World) (src : Str) (t1 : Tok) (pos : Int) (t2 : Tok) (fs : Addr) (S : Str → Bool) (n : Nat) (H : ∀ base, FsIn w base → FrozAt (PySem.strKind prog w) base fs S n) (hn : n < 4096) (hp0 : 0 ≤ pos) (hp1 : pos ≤ src.length) (hsz : (src.length : Int) < 1000000) :
    Ctr w true 1 8 418 [.str src t1, .int pos t2, .ref fs] (fun v new _ => new = [] ∧ ∃ i t, v = .int i t ∧ pos ≤ i ∧ i ≤ src.length ∧ (∀ j, pos ≤ j → j < i → S (Txt.item src j) = true) ∧ (i = src.length ∨ S (Txt.item src i) = false)) (fun _ => False) := by
  have h := eps_all (ne := Nskipcharsctr.ne_AV) (S := Nskipcharsctr.S1) (by with_unfolding_all exact Nskipcharsctr.z8) ⟨w, src, t1, pos, t2, fs, S, n⟩
  exact h H hn hp0 hp1 hsz
end
section
open PySem.Spec PySem.Calls
def SfxV (M : Str) (v : Value) (new rest : List (Addr × Obj)) : Prop := ∃ e t tok, v = .ref e ∧ new = [(e, excObj 316 t), (t, tupObj [.str M tok])] ∧ e ≠ t ∧ ∀ p ∈ rest, e ≠ p.1 ∧ t ≠ p.1
noncomputable def sfxT (src : Str) (pos : Int) (msg : Str) : Str := msg ++ Str.ofString " (at " ++ spotW src pos ++ Str.ofString ")"
theorem sfx_sub {X : Type} {a b c : X} {l : List X} : ∀ p ∈ [b, c] ++ l, p ∈ a :: c :: b :: l := fun p hp => by
  simp only [List.cons_append, List.nil_append, List.mem_cons] at hp ⊢
  rcases hp with h | h | h <;> simp [h]
theorem sfx_sub2 {X : Type} {a b c : X} {l : List X} : ∀ p ∈ [b, c] ++ l, p ∈ a :: b :: c :: l := fun p hp => .tail _ hp
theorem sfx_news {h₀ h' : Heap} {L e t : Addr} {x y : Obj} {l rest : List (Addr × Obj)} (kN : News h₀ L h' ((e, x) :: (t, y) :: rest)) (hs : ∀ p ∈ l, p ∈ rest) : News h₀ L h' ([(e, x), (t, y)] ++ l) := fun p hp => by
  rcases List.mem_append.mp hp with hp | hp
  · exact kN p (List.mem_append_left rest hp)
  · exact kN p (.tail _ (.tail _ (hs p hp)))
theorem sfx_ne {g h1 : Heap} {L1 e t : Addr} {l rest : List (Addr × Obj)} (n1 : h1.get? e = none) (n2 : h1.get? t = none) (N1 : News g L1 h1 rest) (hs : ∀ p ∈ l, p ∈ rest) : ∀ p ∈ l, e ≠ p.1 ∧ t ≠ p.1 := fun p hp =>
  ⟨fun z => (by have := (N1 p (hs p hp)).1; rw [← z, n1] at this; exact nomatch this), fun z => (by have := (N1 p (hs p hp)).1; rw [← z, n2] at this; exact nomatch this)⟩
theorem sfx_end {src msg : Str} {pos : Int} (h : (src.length : Int) ≤ pos) : Str.empty ++ msg ++ Str.ofString " (at " ++ Str.ofString "end of document" ++ Str.ofString ")" = sfxT src pos msg := by
  simp only [sfxT, spotW, if_pos h, PySem.Str.empty_append]
theorem sfx_line {src msg : Str} {pos : Int} {n : Nat} (h : ¬ (src.length : Int) ≤ pos) (hn : n = (src.cps.toList.take pos.toNat).count 10) (h1 : (n : Int) + 1 = 1) :
    Str.empty ++ msg ++ Str.ofString " (at " ++ (Str.empty ++ Str.ofString "line " ++ Str.ofString (toString ((n : Int) + 1)) ++ Str.ofString ", column " ++ Str.ofString (toString (pos + 1))) ++ Str.ofString ")" = sfxT src pos msg := by
  have e : lastNl src pos.toNat = none := lastNl_none (by omega)
  simp only [sfxT, spotW, if_neg h, PySem.Str.empty_append, lineW, colW, e, hn]
theorem sfx_line2 {src msg : Str} {pos : Int} {n k : Nat} (h : ¬ (src.length : Int) ≤ pos) (hn : n = (src.cps.toList.take pos.toNat).count 10) (hk : lastNl src pos.toNat = some k) :
    Str.empty ++ msg ++ Str.ofString " (at " ++ (Str.empty ++ Str.ofString "line " ++ Str.ofString (toString ((n : Int) + 1)) ++ Str.ofString ", column " ++ Str.ofString (toString (pos - (k : Int)))) ++ Str.ofString ")" = sfxT src pos msg := by
  simp only [sfxT, spotW, if_neg h, PySem.Str.empty_append, lineW, colW, hk, hn]
theorem tabled_new {c' : Addr} {oc : Obj} {vs : Array Value} {t : Tok} {P : Prop} (l : 533 < c' ∧ P) (d1 : oc.data = .fields vs) (d2 : vs[1]? = some (.str (Str.ofString "suffixed_err.<locals>.coord_repr") t)) : TabLed [(533, tabObj #[rawInt 494, rawInt 4, .ref c']), (c', oc)] :=
  .inr ⟨_, _, _, _, rfl, d1, d2, Nat.ne_of_gt l.1⟩
theorem def_pack {g : Heap} {L : Addr} {h : Heap} {f c' : Addr} {fo oc o : Obj} {news : List (Addr × Obj)} {vs : Array Value} {t : Tok} (N : News g L h ((f, fo) :: (c', oc) :: (533, o) :: news)) (d1 : oc.data = .fields vs) (d2 : vs[1]? = some (.str (Str.ofString "suffixed_err.<locals>.coord_repr") t)) (TL : TabLed [(533, o), (c', oc)]) :
    ∃ R tl', News g L h ((f, fo) :: (c', oc) :: R) ∧ oc.data = .fields vs ∧ vs[1]? = some (.str (Str.ofString "suffixed_err.<locals>.coord_repr") t) ∧ TabLed tl' ∧ ∀ p ∈ tl' ++ news, p ∈ (f, fo) :: (c', oc) :: R := ⟨_, _, N, d1, d2, TL, sfx_sub⟩
theorem def_swap {g : Heap} {L : Addr} {h : Heap} {a b c : Addr × Obj} {l : List (Addr × Obj)} (N : News g L h (a :: b :: c :: l)) : News g L h (a :: c :: b :: l) := fun p hp => N p (by
  simp only [List.mem_cons] at hp ⊢
  rcases hp with h | h | h | h <;> simp [h])
theorem stop_def {P : Prop} (h : Stop P) : P := h
end
noncomputable section
open PySem.Spec PySem.Calls
set_option hygiene false
local macro_rules | `(tactic| walk_at "exec Return some") => `(tactic| ((with_reducible show wpAny _ _ (exec (Stmt.Return (some (Expr.Call (Expr.Name (Str.ofString "TOMLDecodeError") _) _ _ _)) _) _) _ _ _); (fail_if_success (with_reducible rename True => hM9)); refine stop_def ?_))
local macro_rules | `(tactic| walk_at "zz") => `(tactic| k_all)
set_option hygiene true
namespace Nsuffixederrctr
abbrev AV : Type := World × Str × Tok × Int × Tok × Str × Tok
theorem ne_AV : Nonempty AV := ne_world.elim fun w => ⟨⟨w, default, 0, 0, 0, default, 0⟩⟩
def S1 (v : AV) : Prop :=
  (fun (w : World) (src : Str) (t1 : Tok) (pos : Int) (t2 : Tok) (msg : Str) (t3 : Tok) => (0 ≤ pos) → (pos ≤ src.length + 1) → ((src.length : Int) < 1000000) → (msg.length < 1000000) → CtrK w false 2 24 538 [.str src t1, .int pos t2, .str msg t3] [] (SfxV (sfxT src pos msg)) (fun _ => False)) v.1 v.2.1 v.2.2.1 v.2.2.2.1 v.2.2.2.2.1 v.2.2.2.2.2.1 v.2.2.2.2.2.2
@[irreducible] def c9 : AV := eps ne_AV S1
@[irreducible] def w : World := c9.1
@[irreducible] def src : Str := c9.2.1
@[irreducible] def t1 : Tok := c9.2.2.1
@[irreducible] def pos : Int := c9.2.2.2.1
@[irreducible] def t2 : Tok := c9.2.2.2.2.1
@[irreducible] def msg : Str := c9.2.2.2.2.2.1
@[irreducible] def t3 : Tok := c9.2.2.2.2.2.2
@[irreducible] def k9 : CV := eps ne_CV (CtrAt w false 2 24 538 [.str src t1, .int pos t2, .str msg t3] [] (SfxV (sfxT src pos msg)) (fun _ => False))
namespace NRest
abbrev AV : Type := Heap × Addr × Addr × Addr × Obj × Array Value × Tok × Value × Value × List (Addr × Obj) × List (Addr × Obj) × Heap × Nat × Option Value × List (Addr × Obj)
theorem ne_AV : Nonempty AV := ne_CV.elim fun v => ne_world.elim fun w => ⟨⟨v.h₀, 0, 0, 0, tabObj #[], #[], 0, .none, .none, [], [], v.h₀, 0, none, []⟩⟩
def pk : (P : Heap → Addr → Addr → Addr → Obj → Array Value → Tok → Value → Value → List (Addr × Obj) → List (Addr × Obj) → Heap → Nat → Option Value → List (Addr × Obj) → Prop) ×' (Hid (∀ g' L' f c' oc vs t ct dc R tl' h' tk' hnd news, P g' L' f c' oc vs t ct dc R tl' h' tk' hnd news) → (∀ (hp0 : 0 ≤ pos) (hp1 : pos ≤ src.length + 1) (hsz : (src.length : Int) < 1000000) (hms : msg.length < 1000000), CtrAt w false 2 24 538 [.str src t1, .int pos t2, .str msg t3] [] (SfxV (sfxT src pos msg)) (fun _ => False) k9)) := by
  apply PSigma.mk
  case snd =>
    intro HP hp0 hp1 hsz hms
    intro hnd news tl hn0 hN5 B F X N TL T hk XB TB D T0 FS hd hu hret hx
    clear hx FS
    have CH := codeHd_of XB
    rcases TL with rfl | ⟨c', oc, vs, t, rfl, hd1, hd2, hc5⟩
    all_goals (revert X XB; unfold prog; k_fill; intro X XB; simp only [List.cons_append, List.nil_append] at N; k_go; k_steps)
    all_goals (refine Stop.go ?_)
    all_goals (first
      | (rename_i g' L' h2 FG' B' X' T' D' f c' oc vs t ct dc h1 tk' d1 d2 l1 l2 h' F' N'
         obtain ⟨R, tl', N9, d1, d2, TL', hsub⟩ := def_pack N' d1 d2 (tabled_new l1 d1 d2))
      | (rename_i g' L' h2 FG' B' X' T' D' f ct dc h1 tk' l1 h' F' N'
         obtain ⟨R, tl', N9, d1, d2, TL', hsub⟩ := def_pack (def_swap N') hd1 hd2 (.inr ⟨_, _, _, _, rfl, hd1, hd2, hc5⟩)))
    all_goals
      (skip)
      revert hsub; revert TL'; revert d2; revert d1; revert N9; revert F'; revert ek; revert qk; revert D'; revert T'; revert X'; revert B'; revert FG'; revert XB; revert X; revert CH; revert hret; revert hu; revert hd; revert T0; revert D; revert TB; revert hk; revert T; revert F; revert B; revert hN5; revert hms; revert hsz; revert hp1; revert hp0
      exact HP.go g' L' f c' oc vs t ct dc R tl' h' tk' hnd news
@[irreducible] def c9 : AV := eps ne_AV fun v => pk.1 v.1 v.2.1 v.2.2.1 v.2.2.2.1 v.2.2.2.2.1 v.2.2.2.2.2.1 v.2.2.2.2.2.2.1 v.2.2.2.2.2.2.2.1 v.2.2.2.2.2.2.2.2.1 v.2.2.2.2.2.2.2.2.2.1 v.2.2.2.2.2.2.2.2.2.2.1 v.2.2.2.2.2.2.2.2.2.2.2.1 v.2.2.2.2.2.2.2.2.2.2.2.2.1 v.2.2.2.2.2.2.2.2.2.2.2.2.2.1 v.2.2.2.2.2.2.2.2.2.2.2.2.2.2
@[irreducible] def g' : Heap := c9.1
@[irreducible] def L' : Addr := c9.2.1
@[irreducible] def f : Addr := c9.2.2.1
@[irreducible] def c' : Addr := c9.2.2.2.1
@[irreducible] def oc : Obj := c9.2.2.2.2.1
@[irreducible] def vs : Array Value := c9.2.2.2.2.2.1
@[irreducible] def t : Tok := c9.2.2.2.2.2.2.1
@[irreducible] def ct : Value := c9.2.2.2.2.2.2.2.1
@[irreducible] def dc : Value := c9.2.2.2.2.2.2.2.2.1
@[irreducible] def R : List (Addr × Obj) := c9.2.2.2.2.2.2.2.2.2.1
@[irreducible] def tl' : List (Addr × Obj) := c9.2.2.2.2.2.2.2.2.2.2.1
@[irreducible] def h' : Heap := c9.2.2.2.2.2.2.2.2.2.2.2.1
@[irreducible] def tk' : Nat := c9.2.2.2.2.2.2.2.2.2.2.2.2.1
@[irreducible] def hnd : Option Value := c9.2.2.2.2.2.2.2.2.2.2.2.2.2.1
@[irreducible] def news : List (Addr × Obj) := c9.2.2.2.2.2.2.2.2.2.2.2.2.2.2
theorem body : pk.1 g' L' f c' oc vs t ct dc R tl' h' tk' hnd news := by
  delta pk
  dsimp -zeta only
  intro hp0 hp1 hsz hms hN5 B F T hk TB D T0 hd hu hret CH X XB FG' B' X' T' D' qk ek F' N9 d1 d2 TL' hsub
  have hM : True := trivial
  have hps : (Str.ofString (toString (pos + 1))).length ≤ 1921 := int_short (by omega) (by omega)
  have hj2 : pos ≤ 2000000 := by omega
  k_steps
  · rename_i n1 n2 n3 kF kN _ _
    rw [sfx_end (by assumption)] at kN
    exact hret _ _ _ _ _ _ ⟨_, _, _, rfl, rfl, n3, sfx_ne n1 n2 (by assumption) hsub⟩ TL' T0 kF (sfx_news kN hsub) B X T D
  · rename_i n1 n2 n3 kF kN _ _
    rw [sfx_line (by assumption) (by assumption) (by assumption)] at kN
    exact hret _ _ _ _ _ _ ⟨_, _, _, rfl, rfl, n3, sfx_ne n1 n2 (by assumption) hsub⟩ TL' T0 kF (sfx_news kN hsub) B X T D
  · rename_i n1 n2 n3 kF kN _ _
    rw [sfx_line2 (by assumption) (by assumption) (by assumption)] at kN
    exact hret _ _ _ _ _ _ ⟨_, _, _, rfl, rfl, n3, sfx_ne n1 n2 (by assumption) hsub⟩ TL' T0 kF (sfx_news kN hsub) B X T D
end NRest
theorem z9 (hp0 : 0 ≤ pos) (hp1 : pos ≤ src.length + 1) (hsz : (src.length : Int) < 1000000) (hms : msg.length < 1000000) : CtrAt w false 2 24 538 [.str src t1, .int pos t2, .str msg t3] [] (SfxV (sfxT src pos msg)) (fun _ => False) k9 := NRest.pk.2 (.mk fun g' L' f c' oc vs t ct dc R tl' h' tk' hnd news => eps_all (ne := NRest.ne_AV) (S := fun v => NRest.pk.1 v.1 v.2.1 v.2.2.1 v.2.2.2.1 v.2.2.2.2.1 v.2.2.2.2.2.1 v.2.2.2.2.2.2.1 v.2.2.2.2.2.2.2.1 v.2.2.2.2.2.2.2.2.1 v.2.2.2.2.2.2.2.2.2.1 v.2.2.2.2.2.2.2.2.2.2.1 v.2.2.2.2.2.2.2.2.2.2.2.1 v.2.2.2.2.2.2.2.2.2.2.2.2.1 v.2.2.2.2.2.2.2.2.2.2.2.2.2.1 v.2.2.2.2.2.2.2.2.2.2.2.2.2.2) (by with_unfolding_all exact NRest.body) ⟨g', L', f, c', oc, vs, t, ct, dc, R, tl', h', tk', hnd, news⟩) hp0 hp1 hsz hms
theorem z8 : S1 c9 := by
  with_unfolding_all exact (fun hp0 hp1 hsz hms => ctr_all (z9 hp0 hp1 hsz hms) : (0 ≤ pos) → (pos ≤ src.length + 1) → ((src.length : Int) < 1000000) → (msg.length < 1000000) → CtrK w false 2 24 538 [.str src t1, .int pos t2, .str msg t3] [] (SfxV (sfxT src pos msg)) (fun _ => False))
end Nsuffixederrctr
theorem suffixed_err_ctr (w : World) (src : Str) (t1 : Tok) (pos : Int) (t2 : Tok) (msg : Str) (t3 : Tok) (hp0 : 0 ≤ pos) (hp1 : pos ≤ src.length + 1) (hsz : (src.length : Int) < 1000000) (hms : msg.length < 1000000) :
    Ctr w false 2 24 538 [.str src t1, .int pos t2, .str msg t3] (SfxV (sfxT src pos msg)) (fun _ => False) := by
  have h := eps_all (ne := Nsuffixederrctr.ne_AV) (S := Nsuffixederrctr.S1) (by with_unfolding_all exact Nsuffixederrctr.z8) ⟨w, src, t1, pos, t2, msg, t3⟩
  exact h hp0 hp1 hsz hms
end
section
open PySem.Spec PySem.Calls PySem.Builtin.Str
def EndAt (src ex : Str) (pos : Int) (eof : Bool) (n : Int) : Prop := (∃ (k : Nat) (r : List Nat), occurrences src ex (fromIndex src.length pos) src.length 1 = k :: r ∧ n = k) ∨ (occurrences src ex (fromIndex src.length pos) src.length 1 = [] ∧ eof = false ∧ n = src.length)
def SkipOk (src ex : Str) (pos : Int) (eof : Bool) (S : Str → Bool) (n : Int) : Prop := EndAt src ex pos eof n ∧ ∀ p, pos ≤ p → p < n → S (Txt.item src p) = false
def SkipBad (src ex : Str) (pos : Int) (eof : Bool) (S : Str → Bool) (msg : Str) : Prop :=
  (occurrences src ex (fromIndex src.length pos) src.length 1 = [] ∧ eof = true ∧ msg = sfxT src src.length (Str.ofString "Expected " ++ reprText ex)) ∨
  ∃ n p, EndAt src ex pos eof n ∧ pos ≤ p ∧ p < n ∧ S (Txt.item src p) = true ∧ (∀ j, pos ≤ j → j < p → S (Txt.item src j) = false) ∧ msg = sfxT src p (Str.ofString "Found invalid character " ++ reprText (Txt.item src p))
theorem endAt_le {src ex : Str} {pos n : Int} {eof : Bool} (h : EndAt src ex pos eof n) : 0 ≤ n ∧ n ≤ src.length := by
  rcases h with ⟨k, r, hk, rfl⟩ | ⟨_, _, rfl⟩
  · rcases StrLaws.occ_head_from src ex (fromIndex src.length pos) 1 (Nat.le_refl 1) with ⟨h0, _⟩ | ⟨i, r', h0, _, hA, _⟩
    · rw [h0] at hk; cases hk
    · rw [h0] at hk; cases hk
      have := hA.1
      omega
  · omega
theorem first_bad {S : Str → Bool} {src : Str} {pos p : Int} (h0 : pos ≤ p) (h : S (Txt.item src p) = true) : ∃ q, pos ≤ q ∧ q ≤ p ∧ S (Txt.item src q) = true ∧ ∀ j, pos ≤ j → j < q → S (Txt.item src j) = false := by
  obtain ⟨d, hd⟩ : ∃ d : Nat, p = pos + d := (Int.le.dest h0).imp fun _ e => e.symm
  subst hd
  induction d using Nat.strongRecOn with
  | ind d ih =>
    by_cases hx : ∃ e : Nat, e < d ∧ S (Txt.item src (pos + e)) = true
    · obtain ⟨e, he, hS⟩ := hx
      obtain ⟨q, q1, q2, q3, q4⟩ := ih e he (by omega) hS
      exact ⟨q, q1, by omega, q3, q4⟩
    · refine ⟨pos + d, h0, Int.le_refl _, h, fun j j1 j2 => ?_⟩
      cases hS : S (Txt.item src j) with
      | false => rfl
      | true => exact absurd ⟨(j - pos).toNat, by omega, by rw [show pos + ((j - pos).toNat : Int) = j by omega]; exact hS⟩ hx
end
noncomputable section
open PySem.Spec PySem.Calls PySem.Builtin.Str
theorem toNat_dec {p i : Int} (h : i < p) : (p - (i + 1)).toNat < (p - i).toNat := (Int.toNat_lt_toNat (Int.sub_pos_of_lt h)).mpr (Int.sub_lt_sub_left (Int.lt_succ i) p)
theorem meas_lt {q pos : Int} {n : Nat} (h0 : 0 ≤ pos) (h : q < n) (hs : (n : Int) < 1000000) : (q - pos).toNat < 1000001 := by omega
theorem idx_lo {i : Int} {n : Nat} (h : 0 ≤ i) : -(n : Int) ≤ i := Int.le_trans (Int.neg_nonpos_of_nonneg (Int.natCast_nonneg n)) h
theorem idx_hi {i : Int} {n : Nat} (hs : (n : Int) < 1000000) (h : i < n) : i < 9223372036854775808 := Int.lt_trans h (Int.lt_trans hs (by decide))
namespace Nskipuntilctr
abbrev AV : Type := World × Str × Tok × Int × Tok × Str × Tok × Addr × Bool × (Str → Bool) × Nat
theorem ne_AV : Nonempty AV := ne_world.elim fun w => ⟨⟨w, default, 0, 0, 0, default, 0, 0, false, fun _ => true, 0⟩⟩
def S1 (v : AV) : Prop :=
  (fun (w : World) (src : Str) (t1 : Tok) (pos : Int) (t2 : Tok) (ex : Str) (t3 : Tok) (fs : Addr) (eof : Bool) (S : Str → Bool) (n : Nat) => (∀ base, FsIn w base → FrozAt (PySem.strKind prog w) base fs S n) → (n < 4096) → (0 ≤ pos) → (pos ≤ src.length) → ((src.length : Int) < 1000000) → (∀ c ∈ src.cps.toList, c < 1114112) → ((reprText ex).length < 1000) → CtrK w true 4 60 425 [.str src t1, .int pos t2, .str ex t3] [(Str.ofString "error_on", .ref fs), (Str.ofString "error_on_eof", .bool eof)] (fun v new _ => new = [] ∧ ∃ n t, v = .int n t ∧ SkipOk src ex pos eof S n) (SkipBad src ex pos eof S)) v.1 v.2.1 v.2.2.1 v.2.2.2.1 v.2.2.2.2.1 v.2.2.2.2.2.1 v.2.2.2.2.2.2.1 v.2.2.2.2.2.2.2.1 v.2.2.2.2.2.2.2.2.1 v.2.2.2.2.2.2.2.2.2.1 v.2.2.2.2.2.2.2.2.2.2
@[irreducible] def c9 : AV := eps ne_AV S1
@[irreducible] def w : World := c9.1
@[irreducible] def src : Str := c9.2.1
@[irreducible] def t1 : Tok := c9.2.2.1
@[irreducible] def pos : Int := c9.2.2.2.1
@[irreducible] def t2 : Tok := c9.2.2.2.2.1
@[irreducible] def ex : Str := c9.2.2.2.2.2.1
@[irreducible] def t3 : Tok := c9.2.2.2.2.2.2.1
@[irreducible] def fs : Addr := c9.2.2.2.2.2.2.2.1
@[irreducible] def eof : Bool := c9.2.2.2.2.2.2.2.2.1
@[irreducible] noncomputable def S : Str → Bool := c9.2.2.2.2.2.2.2.2.2.1
@[irreducible] def n : Nat := c9.2.2.2.2.2.2.2.2.2.2
@[irreducible] def k9 : CV := eps ne_CV (CtrAt w true 4 60 425 [.str src t1, .int pos t2, .str ex t3] [(Str.ofString "error_on", .ref fs), (Str.ofString "error_on_eof", .bool eof)] (fun v new _ => new = [] ∧ ∃ n t, v = .int n t ∧ SkipOk src ex pos eof S n) (SkipBad src ex pos eof S))
abbrev p := k9.p
abbrev base := k9.base
theorem z9 (H : ∀ base, FsIn w base → FrozAt (PySem.strKind prog w) base fs S n) (hn : n < 4096) (hp0 : 0 ≤ pos) (hp1 : pos ≤ src.length) (hsz : (src.length : Int) < 1000000) (hcs : ∀ c ∈ src.cps.toList, c < 1114112) (hex : (reprText ex).length < 1000) : CtrAt w true 4 60 425 [.str src t1, .int pos t2, .str ex t3] [(Str.ofString "error_on", .ref fs), (Str.ofString "error_on_eof", .bool eof)] (fun v new _ => new = [] ∧ ∃ n t, v = .int n t ∧ SkipOk src ex pos eof S n) (SkipBad src ex pos eof S) k9 := by
  intro hnd news tl hn0 hN5 B F X N TL T hk XB TB D T0 FS hd hu hret hx
  cases hn0 rfl
  have H := H base FS
  revert X XB H; unfold prog; k_fill; intro X XB H
  k_go
  rename_i g' L' h' FG' F' N' B' X' T' D'
  k_steps
  · skip
    rename occurrences _ _ _ _ _ = [] => hO
    rename ∀ (q : Addr × Obj), q ∈ tl ++ news → _ ≠ q.1 => hne9
    rename Obj.data _ = Data.fields _ => hoe9
    rename KtsTurn _ g' _ => T9
    rename eof = true => heof
    rename News _ L' _ (_ :: (tl ++ news)) => N9
    have N10 := news_swap N9
    refine Stop.go ?_
    · refine suffixed_err_ctr w src _ src.length _ _ _ ?a1 ?a2 hsz ?a3 _ _ _ _ _ _ _ _ _ _ _ _ _ _ _ _ _ _ _ _ (_ :: news) tl _ _ _ (fun h => nomatch h) (ne_533 TL hne9 hN5) (by assumption) (by assumption) (by assumption) N10 TL (by assumption) rfl XB TB (by assumption) KtsTurn.refl FS ?a4 ?a5 ?a6 ?a7
      case a1 => omega
      case a2 => omega
      case a3 => simp only [PySem.Str.length_append, lit6, lit7, lit8]; omega
      case a4 => ktr_room
      case a5 => ktr_units
      case a7 => exact fun _ _ _ _ _ _ _ _ _ hX => hX.elim
      case a6 =>
        intro v new tl2 g2 h2 tk2 hV TL2 T2 F2 N2 B2 X2 P2 D2
        obtain ⟨e, t4, tok, rfl, rfl, het, hne⟩ := hV
        obtain ⟨nm, q, bs, hdct, sn, sub, ab, col, dd, k0, k1, k2, k3, k5, mN, hC, _, _⟩ := tde_at (X2.keeps F2.keep)
        obtain ⟨hE1, hE2⟩ := hne _ (List.mem_append_right _ (.head _))
        refine ⟨e, t4, rfl, ⟨_, _, _, _, _, _, _, _, _, _, _, _, _, _, _, _, _, hC, rfl⟩, (N2 _ (.head _)).1, hE1, ⟨_, _, (N2 (_, _) (List.mem_append_right _ (List.mem_append_right _ (.head _)))).1, hoe9, rfl⟩, fun h6 hh6 hs6 => ?_⟩
        obtain ⟨F7, N7⟩ := led_from F2 N2 (fun p hp => (hne p hp).1) het hh6 hs6
        exact leave_ctr hx B FG' D T0 (T9.trans T2) B2 F7 (news_mid N7) rfl rfl rfl rfl (fun q hq => hne q (by
          rcases List.mem_append.mp hq with hq | hq
          · exact List.mem_append_left _ hq
          · exact List.mem_append_right _ (.tail _ hq))) TL2 (.inl ⟨hO, heof, rfl⟩) rfl
  · skip
    rename occurrences _ _ _ _ _ = [] => hO
    rename ∀ (q : Addr × Obj), q ∈ tl ++ news → _ ≠ q.1 => hne9
    rename Obj.data _ = Data.fields _ => hoe9
    rename KtsTurn _ g' _ => T9
    rename eof = false => heof
    rename Fr _ L' _ _ => F4
    rename News _ L' _ (_ :: (tl ++ news)) => N4'
    rename List.any _ _ = true => hb
    have N4 := news_drop N4'
    have hE : EndAt src ex pos eof src.length := .inr ⟨hO, heof, rfl⟩
    have hE2 := endAt_le hE
    obtain ⟨p1, p2, p3, p4⟩ := (any_slice hp0 hE2.1 hE2.2).mp hb
    obtain ⟨p0, q1, q2, q3, q4⟩ := first_bad p2 p4
    refine Stop.go ?_
    refine whl_pos (Str.ofString "pos") pos t2 (fun i => pos ≤ i ∧ i ≤ p0) (fun i => (p0 - i).toNat) 1000001 _ F4 N4 rfl ⟨Int.le_refl _, q1⟩ (meas_lt hp0 (Int.lt_of_le_of_lt q2 p3) hsz) ?_
    intro k i t h5 tk5 hJ F5 N5 IH
    obtain ⟨j1, j2⟩ := hJ
    have b1 : i < (src.length : Int) := Int.lt_of_le_of_lt (Int.le_trans j2 q2) p3
    have b2 := idx_lo (n := src.length) (Int.le_trans hp0 j1)
    have b3 := idx_hi hsz b1
    refine whl_turn (by passes_own) ?_
    k_steps
    by_cases e : i = p0
    · subst e
      rw [q3]
      refine WhlIf.no rfl ?_
      k_steps
      refine Stop.go ?_
      refine suffixed_err_ctr w src _ i _ _ _ ?a1 ?a2 hsz ?a3 _ _ _ _ _ _ _ _ _ _ _ _ _ _ _ _ _ _ _ _ news tl _ _ _ (fun h => nomatch h) hN5 (by assumption) (by assumption) (by assumption) (by assumption) TL (by assumption) rfl XB TB (by assumption) KtsTurn.refl FS ?a4 ?a5 ?a6 ?a7
      case a1 => omega
      case a2 => omega
      case a3 => simp only [PySem.Str.length_append, lit6, lit7, lit8]; omega
      case a4 => ktr_room
      case a5 => ktr_units
      case a7 => exact fun _ _ _ _ _ _ _ _ _ hX => hX.elim
      case a6 =>
        intro v new tl2 g2 h2 tk2 hV TL2 T2 F2 N2 B2 X2 P2 D2
        obtain ⟨e, t4, tok, rfl, rfl, het, hne⟩ := hV
        obtain ⟨nm, q, bs, hdct, sn, sub, ab, col, dd, k0, k1, k2, k3, k5, mN, hC, _, _⟩ := tde_at (X2.keeps F2.keep)
        refine ⟨e, t4, rfl, ⟨_, _, _, _, _, _, _, _, _, _, _, _, _, _, _, _, _, hC, rfl⟩, (N2 _ (.head _)).1, ?_⟩
        exact leave_ctr hx B FG' D T0 (T9.trans T2) B2 F2 N2 rfl rfl rfl rfl hne TL2 (.inr ⟨_, i, hE, j1, by omega, q3, q4, rfl⟩) rfl
    · have hS : S (Txt.item src i) = false := q4 i j1 (Int.lt_iff_le_and_ne.mpr ⟨j2, e⟩)
      rw [hS]
      refine WhlIf.yes rfl ?_
      k_steps
      exact Stop.go (IH (i + 1) _ _ _ ⟨Int.le_add_one j1, Int.add_one_le_of_lt (Int.lt_iff_le_and_ne.mpr ⟨j2, e⟩)⟩ (toNat_dec (Int.lt_iff_le_and_ne.mpr ⟨j2, e⟩)) (by assumption) (by assumption))
  · rename occurrences _ _ _ _ _ = [] => hO
    rename eof = false => heof
    rename List.any _ _ = false => hb
    rename_i kg kT kF kN kB _ kP kD kX
    exact hret _ [] tl _ _ _ ⟨rfl, _, _, rfl, .inr ⟨hO, heof, rfl⟩, none_slice hp0 (by omega) (Int.le_refl _) hb⟩ TL kT kF (news_drop kN) kB kX kP kD
  · rename_i kI rI hO _ _ _ _ _ _ _ _ _ _ _ F4 N4 hb
    have hE : EndAt src ex pos eof kI := .inl ⟨kI, rI, hO, rfl⟩
    have hE2 := endAt_le hE
    obtain ⟨p1, p2, p3, p4⟩ := (any_slice hp0 hE2.1 hE2.2).mp hb
    obtain ⟨p0, q1, q2, q3, q4⟩ := first_bad p2 p4
    refine Stop.go ?_
    refine whl_pos (Str.ofString "pos") pos t2 (fun i => pos ≤ i ∧ i ≤ p0) (fun i => (p0 - i).toNat) 1000001 _ F4 N4 rfl ⟨Int.le_refl _, q1⟩ (meas_lt hp0 (Int.lt_of_lt_of_le (Int.lt_of_le_of_lt q2 p3) hE2.2) hsz) ?_
    intro k i t h5 tk5 hJ F5 N5 IH
    obtain ⟨j1, j2⟩ := hJ
    have b1 : i < (src.length : Int) := Int.lt_of_lt_of_le (Int.lt_of_le_of_lt (Int.le_trans j2 q2) p3) hE2.2
    have b2 := idx_lo (n := src.length) (Int.le_trans hp0 j1)
    have b3 := idx_hi hsz b1
    refine whl_turn (by passes_own) ?_
    k_steps
    by_cases e : i = p0
    · subst e
      rw [q3]
      refine WhlIf.no rfl ?_
      k_steps
      refine Stop.go ?_
      refine suffixed_err_ctr w src _ i _ _ _ ?a1 ?a2 hsz ?a3 _ _ _ _ _ _ _ _ _ _ _ _ _ _ _ _ _ _ _ _ news tl _ _ _ (fun h => nomatch h) hN5 (by assumption) (by assumption) (by assumption) (by assumption) TL (by assumption) rfl XB TB (by assumption) KtsTurn.refl FS ?a4 ?a5 ?a6 ?a7
      case a1 => omega
      case a2 => omega
      case a3 => simp only [PySem.Str.length_append, lit6, lit7, lit8]; omega
      case a4 => ktr_room
      case a5 => ktr_units
      case a7 => exact fun _ _ _ _ _ _ _ _ _ hX => hX.elim
      case a6 =>
        intro v new tl2 g2 h2 tk2 hV TL2 T2 F2 N2 B2 X2 P2 D2
        obtain ⟨e, t4, tok, rfl, rfl, het, hne⟩ := hV
        obtain ⟨nm, q, bs, hdct, sn, sub, ab, col, dd, k0, k1, k2, k3, k5, mN, hC, _, _⟩ := tde_at (X2.keeps F2.keep)
        refine ⟨e, t4, rfl, ⟨_, _, _, _, _, _, _, _, _, _, _, _, _, _, _, _, _, hC, rfl⟩, (N2 _ (.head _)).1, ?_⟩
        exact leave_ctr hx B FG' D T0 T2 B2 F2 N2 rfl rfl rfl rfl hne TL2 (.inr ⟨_, i, hE, j1, by omega, q3, q4, rfl⟩) rfl
    · have hS : S (Txt.item src i) = false := q4 i j1 (Int.lt_iff_le_and_ne.mpr ⟨j2, e⟩)
      rw [hS]
      refine WhlIf.yes rfl ?_
      k_steps
      exact Stop.go (IH (i + 1) _ _ _ ⟨Int.le_add_one j1, Int.add_one_le_of_lt (Int.lt_iff_le_and_ne.mpr ⟨j2, e⟩)⟩ (toNat_dec (Int.lt_iff_le_and_ne.mpr ⟨j2, e⟩)) (by assumption) (by assumption))
  · rename occurrences _ _ _ _ _ = _ :: _ => hO
    rename List.any _ _ = false => hb
    rename_i kF kN _ _
    have hE : EndAt src ex pos eof _ := .inl ⟨_, _, hO, rfl⟩
    have hE2 := endAt_le hE
    exact hret _ [] tl _ _ _ ⟨rfl, _, _, rfl, hE, none_slice hp0 hE2.1 hE2.2 hb⟩ TL T0 kF kN B X T D
theorem z8 : S1 c9 := by
  with_unfolding_all exact (fun H hn hp0 hp1 hsz hcs hex => ctr_all (z9 H hn hp0 hp1 hsz hcs hex) : (∀ base, FsIn w base → FrozAt (PySem.strKind prog w) base fs S n) → (n < 4096) → (0 ≤ pos) → (pos ≤ src.length) → ((src.length : Int) < 1000000) → (∀ c ∈ src.cps.toList, c < 1114112) → ((reprText ex).length < 1000) → CtrK w true 4 60 425 [.str src t1, .int pos t2, .str ex t3] [(Str.ofString "error_on", .ref fs), (Str.ofString "error_on_eof", .bool eof)] (fun v new _ => new = [] ∧ ∃ n t, v = .int n t ∧ SkipOk src ex pos eof S n) (SkipBad src ex pos eof S))
end Nskipuntilctr
theorem skip_until_ctr (w : World) (src : Str) (t1 : Tok) (pos : Int) (t2 : Tok) (ex : Str) (t3 : Tok) (fs : Addr) (eof : Bool) (S : Str → Bool) (n : Nat) (H : ∀ base, FsIn w base → FrozAt (PySem.strKind prog w) base fs S n) (hn : n < 4096) (hp0 : 0 ≤ pos) (hp1 : pos ≤ src.length) (hsz : (src.length : Int) < 1000000) (hcs : ∀ c ∈ src.cps.toList, c < 1114112) (hex : (reprText ex).length < 1000) :
    CtrK w true 4 60 425 [.str src t1, .int pos t2, .str ex t3] [(Str.ofString "error_on", .ref fs), (Str.ofString "error_on_eof", .bool eof)] (fun v new _ => new = [] ∧ ∃ n t, v = .int n t ∧ SkipOk src ex pos eof S n) (SkipBad src ex pos eof S) := by
  have h := eps_all (ne := Nskipuntilctr.ne_AV) (S := Nskipuntilctr.S1) (by with_unfolding_all exact Nskipuntilctr.z8) ⟨w, src, t1, pos, t2, ex, t3, fs, eof, S, n⟩
  exact h H hn hp0 hp1 hsz hcs hex
end
noncomputable section
open PySem.Spec PySem.Calls PySem.Builtin.Str
noncomputable def scalarP (c : Nat) : Bool := c ≤ 55295 || (57344 ≤ c && c ≤ 1114111)
noncomputable def hexChar (src : Str) (pos hl : Int) : Except Str (Int × Str) :=
  let hs := (src.cps.toList.drop pos.toNat).take hl.toNat
  if (hs.length : Int) ≠ hl ∨ hs.all hexOk = false then .error (sfxT src pos (Str.ofString "Invalid hex value"))
  else if scalarP (hexVal hs) then .ok (pos + hl, ⟨#[hexVal hs]⟩)
  else .error (sfxT src (pos + hl) (Str.ofString "Escaped character is not a Unicode scalar value"))
def ResV (r : Except Str (Int × Str)) (v : Value) (new _rest : List (Addr × Obj)) : Prop := ∃ a i x t1 t2, r = .ok (i, x) ∧ v = .ref a ∧ new = [(a, tupObj [.int i t1, .str x t2])]
def ResX (r : Except Str (Int × Str)) (msg : Str) : Prop := r = .error msg
theorem hex_slice {src : Str} {pos hl : Int} (hp : 0 ≤ pos) (hl0 : 1 ≤ hl) : (Txt.slice src (some pos) (some (pos + hl))).cps.toList = (src.cps.toList.drop pos.toNat).take hl.toNat := by
  obtain ⟨a, rfl⟩ := Int.eq_ofNat_of_zero_le hp
  obtain ⟨k, rfl⟩ := Int.eq_ofNat_of_zero_le (Int.le_trans (by decide) hl0)
  exact (slice_ss src a (a + k)).trans (by rw [Nat.add_sub_cancel_left]; rfl)
theorem hex_bd {src : Str} {pos hl : Int} (hp : 0 ≤ pos) (hl0 : 1 ≤ hl) : (((src.cps.toList.drop pos.toNat).take hl.toNat).length : Int) ≤ src.length - pos ∨ ((src.cps.toList.drop pos.toNat).take hl.toNat).length = 0 := by
  obtain ⟨a, rfl⟩ := Int.eq_ofNat_of_zero_le hp
  rw [List.length_take, List.length_drop, len_list, Int.toNat_natCast]
  rcases Nat.le_total a src.length with h | h
  · exact .inl (by rw [← Int.ofNat_sub h]; exact Int.ofNat_le.mpr (Nat.min_le_right ..))
  · exact .inr (by rw [Nat.sub_eq_zero_of_le h]; exact Nat.min_zero _)
theorem hex_slen {src : Str} {pos hl : Int} (hp : 0 ≤ pos) (hl0 : 1 ≤ hl) : (Txt.slice src (some pos) (some (pos + hl))).length = ((src.cps.toList.drop pos.toNat).take hl.toNat).length := by
  rw [← len_list, hex_slice hp hl0]
namespace Nparsehexcharctr
abbrev AV : Type := World × Str × Tok × Int × Tok × Int × Tok
theorem ne_AV : Nonempty AV := ne_world.elim fun w => ⟨⟨w, default, 0, 0, 0, 0, 0⟩⟩
def S1 (v : AV) : Prop :=
  (fun (w : World) (src : Str) (t1 : Tok) (pos : Int) (t2 : Tok) (hl : Int) (t3 : Tok) => (0 ≤ pos) → (pos ≤ src.length + 1) → ((src.length : Int) < 1000000) → (1 ≤ hl) → (hl ≤ 8) → CtrK w true 4 60 503 [.str src t1, .int pos t2, .int hl t3] [] (ResV (hexChar src pos hl)) (ResX (hexChar src pos hl))) v.1 v.2.1 v.2.2.1 v.2.2.2.1 v.2.2.2.2.1 v.2.2.2.2.2.1 v.2.2.2.2.2.2
@[irreducible] def c9 : AV := eps ne_AV S1
@[irreducible] def w : World := c9.1
@[irreducible] def src : Str := c9.2.1
@[irreducible] def t1 : Tok := c9.2.2.1
@[irreducible] def pos : Int := c9.2.2.2.1
@[irreducible] def t2 : Tok := c9.2.2.2.2.1
@[irreducible] def hl : Int := c9.2.2.2.2.2.1
@[irreducible] def t3 : Tok := c9.2.2.2.2.2.2
@[irreducible] def k9 : CV := eps ne_CV (CtrAt w true 4 60 503 [.str src t1, .int pos t2, .int hl t3] [] (ResV (hexChar src pos hl)) (ResX (hexChar src pos hl)))
abbrev a := k9.a
theorem z9 (hp0 : 0 ≤ pos) (hp1 : pos ≤ src.length + 1) (hsz : (src.length : Int) < 1000000) (hl0 : 1 ≤ hl) (hl1 : hl ≤ 8) : CtrAt w true 4 60 503 [.str src t1, .int pos t2, .int hl t3] [] (ResV (hexChar src pos hl)) (ResX (hexChar src pos hl)) k9 := by
  intro hnd news tl hn0 hN5 B F X N TL T hk XB TB D T0 FS hd hu hret hx
  cases hn0 rfl
  have H := fs300 FS
  have hS1 := hex_slice (src := src) hp0 hl0
  have hS2 := hex_slen (src := src) hp0 hl0
  have hS3 := hex_bd (src := src) hp0 hl0
  revert X XB H; unfold prog; k_fill; intro X XB H
  k_go
  rename_i g' L' h' FG' F' N' B' X' T' D'
  k_steps
  · rename ((Txt.slice src (some pos) (some (pos + hl))).length : Int) ≠ hl => hA
    refine Stop.go ?_
    · refine suffixed_err_ctr w src _ (pos) _ _ _ ?a1 ?a2 hsz ?a3 _ _ _ _ _ _ _ _ _ _ _ _ _ _ _ _ _ _ _ _ news tl _ _ _ (fun h => nomatch h) hN5 (by assumption) (by assumption) (by assumption) (by assumption) TL (by assumption) rfl XB TB (by assumption) KtsTurn.refl FS ?c4 ?c5 ?c6 ?c7
      case a1 => omega
      case a2 => omega
      case a3 => decide +kernel
      case c4 => ktr_room
      case c5 => ktr_units
      case c7 => exact fun _ _ _ _ _ _ _ _ _ hX => hX.elim
      case c6 =>
        intro v new tl2 g2 h2 tk2 hV TL2 T2 F2 N2 B2 X2 P2 D2
        obtain ⟨e, t4, tok, rfl, rfl, het, hne⟩ := hV
        obtain ⟨nm, q, bs, hdct, sn, sub, ab, col, dd, k0, k1, k2, k3, k5, mN, hC, _, _⟩ := tde_at (X2.keeps F2.keep)
        refine ⟨e, t4, rfl, ⟨_, _, _, _, _, _, _, _, _, _, _, _, _, _, _, _, _, hC, rfl⟩, (N2 _ (.head _)).1, ?_⟩
        exact leave_ctr hx B FG' D T0 T2 B2 F2 N2 rfl rfl rfl rfl hne TL2 (by unfold ResX hexChar; dsimp only; rw [if_pos (.inl (by rw [← hS2]; exact hA))]) rfl
  · rename ((Txt.slice src (some pos) (some (pos + hl))).length : Int) = hl => hA
    rename List.all _ _ = true => hB
    rw [hS1] at hB
    rw [hS2] at hA
    have hne0 : (src.cps.toList.drop pos.toNat).take hl.toNat ≠ [] := fun q => by rw [q] at hA; simp at hA; omega
    refine call_hex (by rw [hS2]; omega) (by rw [hS1]; exact hne0) (by rw [hS1]; intro c hc; exact List.all_eq_true.mp hB c hc) ?_
    rw [hS1]
    have hE : ∀ r, (if scalarP (hexVal ((src.cps.toList.drop pos.toNat).take hl.toNat)) = true then Except.ok (pos + hl, (⟨#[hexVal ((src.cps.toList.drop pos.toNat).take hl.toNat)]⟩ : Str)) else .error (sfxT src (pos + hl) (Str.ofString "Escaped character is not a Unicode scalar value"))) = r → hexChar src pos hl = r := by
      intro r hr
      unfold hexChar
      dsimp only
      rw [if_neg (by rintro (q | q); exact q hA; rw [show (List.all _ hexOk) = true from hB] at q; cases q)]
      exact hr
    generalize hexVal ((src.cps.toList.drop pos.toNat).take hl.toNat) = hv at hE ⊢
    k_steps
    refine Stop.go ?_
    · refine scalar_ctr w _ _ _ _ _ _ _ _ _ _ _ _ _ _ _ _ _ _ _ _ _ _ news tl _ _ _ (fun _ => rfl) hN5 (by assumption) (by assumption) (by assumption) (by assumption) TL (by assumption) rfl XB TB (by assumption) KtsTurn.refl FS ?c4 ?c5 ?c6 ?c7
      case c4 => ktr_room
      case c5 => ktr_units
      case c7 => exact fun _ _ _ _ _ _ _ _ _ hX => hX.elim
      case c6 =>
        intro v new tl1 g1 h1 tk1 hV TL1 T1 F1 N1 B1 X1 P1 D1
        obtain ⟨rfl, rfl⟩ := hV
        have N1 : News g1 L' h1 (tl1 ++ news) := N1
        k_steps
        · rename_i hb _ _ _ _ _ kg kT kF kN kB _ kP kD kX
          exact hret _ [_] tl1 _ _ _ ⟨_, _, _, _, _, hE _ (if_pos (by simp only [scalarP, Bool.or_eq_true, Bool.and_eq_true, decide_eq_true_eq] at hb ⊢; omega)), rfl, rfl⟩ TL1 kT kF kN kB kX kP kD
        · rename ¬ (_ ∨ _) => hb
          refine Stop.go ?_
          · refine suffixed_err_ctr w src _ (pos + hl) _ _ _ ?a1 ?a2 hsz ?a3 _ _ _ _ _ _ _ _ _ _ _ _ _ _ _ _ _ _ _ _ news tl1 _ _ _ (fun h => nomatch h) hN5 (by assumption) (by assumption) (by assumption) (by assumption) TL1 (by assumption) rfl XB TB (by assumption) KtsTurn.refl FS ?c4 ?c5 ?c6 ?c7
            case a1 => omega
            case a2 => omega
            case a3 => decide +kernel
            case c4 => ktr_room
            case c5 => ktr_units
            case c7 => exact fun _ _ _ _ _ _ _ _ _ hX => hX.elim
            case c6 =>
              intro v new tl2 g2 h2 tk2 hV TL2 T2 F2 N2 B2 X2 P2 D2
              obtain ⟨e, t4, tok, rfl, rfl, het, hne⟩ := hV
              obtain ⟨nm, q, bs, hdct, sn, sub, ab, col, dd, k0, k1, k2, k3, k5, mN, hC, _, _⟩ := tde_at (X2.keeps F2.keep)
              refine ⟨e, t4, rfl, ⟨_, _, _, _, _, _, _, _, _, _, _, _, _, _, _, _, _, hC, rfl⟩, (N2 _ (.head _)).1, ?_⟩
              exact leave_ctr hx B FG' D T0 (T1.trans T2) B2 F2 N2 rfl rfl rfl rfl hne TL2 (hE _ (if_neg (by simp only [scalarP, Bool.or_eq_true, Bool.and_eq_true, decide_eq_true_eq] at hb ⊢; omega))) rfl
  · rename ((Txt.slice src (some pos) (some (pos + hl))).length : Int) = hl => hA
    rename List.all _ _ = false => hB
    refine Stop.go ?_
    · refine suffixed_err_ctr w src _ (pos) _ _ _ ?a1 ?a2 hsz ?a3 _ _ _ _ _ _ _ _ _ _ _ _ _ _ _ _ _ _ _ _ news tl _ _ _ (fun h => nomatch h) hN5 (by assumption) (by assumption) (by assumption) (by assumption) TL (by assumption) rfl XB TB (by assumption) KtsTurn.refl FS ?c4 ?c5 ?c6 ?c7
      case a1 => omega
      case a2 => omega
      case a3 => decide +kernel
      case c4 => ktr_room
      case c5 => ktr_units
      case c7 => exact fun _ _ _ _ _ _ _ _ _ hX => hX.elim
      case c6 =>
        intro v new tl2 g2 h2 tk2 hV TL2 T2 F2 N2 B2 X2 P2 D2
        obtain ⟨e, t4, tok, rfl, rfl, het, hne⟩ := hV
        obtain ⟨nm, q, bs, hdct, sn, sub, ab, col, dd, k0, k1, k2, k3, k5, mN, hC, _, _⟩ := tde_at (X2.keeps F2.keep)
        refine ⟨e, t4, rfl, ⟨_, _, _, _, _, _, _, _, _, _, _, _, _, _, _, _, _, hC, rfl⟩, (N2 _ (.head _)).1, ?_⟩
        exact leave_ctr hx B FG' D T0 T2 B2 F2 N2 rfl rfl rfl rfl hne TL2 (by unfold ResX hexChar; dsimp only; rw [if_pos (.inr (by rw [← hS1]; exact hB))]) rfl
theorem z8 : S1 c9 := by
  with_unfolding_all exact (fun hp0 hp1 hsz hl0 hl1 => ctr_all (z9 hp0 hp1 hsz hl0 hl1) : (0 ≤ pos) → (pos ≤ src.length + 1) → ((src.length : Int) < 1000000) → (1 ≤ hl) → (hl ≤ 8) → CtrK w true 4 60 503 [.str src t1, .int pos t2, .int hl t3] [] (ResV (hexChar src pos hl)) (ResX (hexChar src pos hl)))
end Nparsehexcharctr
theorem parse_hex_char_ctr (w : World) (src : Str) (t1 : Tok) (pos : Int) (t2 : Tok) (hl : Int) (t3 : Tok) (hp0 : 0 ≤ pos) (hp1 : pos ≤ src.length + 1) (hsz : (src.length : Int) < 1000000) (hl0 : 1 ≤ hl) (hl1 : hl ≤ 8) :
    Ctr w true 4 60 503 [.str src t1, .int pos t2, .int hl t3] (ResV (hexChar src pos hl)) (ResX (hexChar src pos hl)) := by
  have h := eps_all (ne := Nparsehexcharctr.ne_AV) (S := Nparsehexcharctr.S1) (by with_unfolding_all exact Nparsehexcharctr.z8) ⟨w, src, t1, pos, t2, hl, t3⟩
  exact h hp0 hp1 hsz hl0 hl1
end
noncomputable section
open PySem.Spec PySem.Calls PySem.Builtin.Str
def RelV (R : Int → Str → Prop) (v : Value) (new _rest : List (Addr × Obj)) : Prop := ∃ a i x t1 t2, R i x ∧ v = .ref a ∧ new = [(a, tupObj [.int i t1, .str x t2])]
abbrev aps : Str := Str.ofString "'"
theorem repr_aps : (reprText aps).length < 1000 := by decide +kernel
namespace Nparseliteralstrctr
abbrev AV : Type := World × Str × Tok × Int × Tok
theorem ne_AV : Nonempty AV := ne_world.elim fun w => ⟨⟨w, default, 0, 0, 0⟩⟩
def S1 (v : AV) : Prop :=
  (fun (w : World) (src : Str) (t1 : Tok) (pos : Int) (t2 : Tok) => (0 ≤ pos) → (pos < src.length) → ((src.length : Int) < 1000000) → (∀ c ∈ src.cps.toList, c < 1114112) → CtrK w true 5 80 510 [.str src t1, .int pos t2] [] (RelV fun i x => ∃ n, SkipOk src aps (pos + 1) true (Sign lowP) n ∧ i = n + 1 ∧ x = Txt.slice src (some (pos + 1)) (some n)) (SkipBad src aps (pos + 1) true (Sign lowP))) v.1 v.2.1 v.2.2.1 v.2.2.2.1 v.2.2.2.2
@[irreducible] def c9 : AV := eps ne_AV S1
@[irreducible] def w : World := c9.1
@[irreducible] def src : Str := c9.2.1
@[irreducible] def t1 : Tok := c9.2.2.1
@[irreducible] def pos : Int := c9.2.2.2.1
@[irreducible] def t2 : Tok := c9.2.2.2.2
@[irreducible] def k9 : CV := eps ne_CV (CtrAt w true 5 80 510 [.str src t1, .int pos t2] [] (RelV fun i x => ∃ n, SkipOk src aps (pos + 1) true (Sign lowP) n ∧ i = n + 1 ∧ x = Txt.slice src (some (pos + 1)) (some n)) (SkipBad src aps (pos + 1) true (Sign lowP)))
theorem z9 (hp0 : 0 ≤ pos) (hp1 : pos < src.length) (hsz : (src.length : Int) < 1000000) (hcs : ∀ c ∈ src.cps.toList, c < 1114112) : CtrAt w true 5 80 510 [.str src t1, .int pos t2] [] (RelV fun i x => ∃ n, SkipOk src aps (pos + 1) true (Sign lowP) n ∧ i = n + 1 ∧ x = Txt.slice src (some (pos + 1)) (some n)) (SkipBad src aps (pos + 1) true (Sign lowP)) k9 := by
  intro hnd news tl hn0 hN5 B F X N TL T hk XB TB D T0 FS hd hu hret hx
  cases hn0 rfl
  revert X XB; unfold prog; k_fill; intro X XB
  k_go
  rename_i g' L' h' FG' F' N' B' X' T' D'
  k_steps
  refine Stop.go ?_
  · refine skip_until_ctr w src _ (pos + 1) _ aps _ 281 true (Sign lowP) 32 (fun _ f => fs281 f) (by decide) ?a1 ?a2 hsz hcs repr_aps _ _ _ _ _ _ _ _ _ _ _ _ _ _ _ _ _ _ _ _ news tl _ _ _ (fun _ => rfl) hN5 (by assumption) (by assumption) (by assumption) (by assumption) TL (by assumption) rfl XB TB (by assumption) KtsTurn.refl FS ?c4 ?c5 ?c6 ?c7
    case a1 => omega
    case a2 => omega
    case c4 => ktr_room
    case c5 => ktr_units
    case c7 => intro msg e t tok tlE hE' GE hhE tkE hX TLE TE FE BE DE RE UE; exact pass_ctr hx B FG' D T0 TE BE FE RE UE TLE (hX)
    case c6 =>
      intro v new tl1 g1 h1 tk1 hV TL1 T1 F1 N1 B1 X1 P1 D1
      obtain ⟨rfl, n, t, rfl, hok⟩ := hV
      have N1 : News g1 L' h1 (tl1 ++ news) := N1
      have hn := endAt_le hok.1
      k_steps
      rename_i kg kT kF kN kB _ kP kD kX
      exact hret _ [_] tl1 _ _ _ ⟨_, _, _, _, _, ⟨n, hok, rfl, rfl⟩, rfl, rfl⟩ TL1 kT kF kN kB kX kP kD
theorem z8 : S1 c9 := by
  with_unfolding_all exact (fun hp0 hp1 hsz hcs => ctr_all (z9 hp0 hp1 hsz hcs) : (0 ≤ pos) → (pos < src.length) → ((src.length : Int) < 1000000) → (∀ c ∈ src.cps.toList, c < 1114112) → CtrK w true 5 80 510 [.str src t1, .int pos t2] [] (RelV fun i x => ∃ n, SkipOk src aps (pos + 1) true (Sign lowP) n ∧ i = n + 1 ∧ x = Txt.slice src (some (pos + 1)) (some n)) (SkipBad src aps (pos + 1) true (Sign lowP)))
end Nparseliteralstrctr
theorem parse_literal_str_ctr (w : World) (src : Str) (t1 : Tok) (pos : Int) (t2 : Tok) (hp0 : 0 ≤ pos) (hp1 : pos < src.length) (hsz : (src.length : Int) < 1000000) (hcs : ∀ c ∈ src.cps.toList, c < 1114112) :
    Ctr w true 5 80 510 [.str src t1, .int pos t2] (RelV fun i x => ∃ n, SkipOk src aps (pos + 1) true (Sign lowP) n ∧ i = n + 1 ∧ x = Txt.slice src (some (pos + 1)) (some n)) (SkipBad src aps (pos + 1) true (Sign lowP)) := by
  have h := eps_all (ne := Nparseliteralstrctr.ne_AV) (S := Nparseliteralstrctr.S1) (by with_unfolding_all exact Nparseliteralstrctr.z8) ⟨w, src, t1, pos, t2⟩
  exact h hp0 hp1 hsz hcs
end
noncomputable section
open PySem.Spec PySem.Calls PySem.Builtin.Str
noncomputable def escChar (src : Str) (pos : Int) : Except Str (Int × Str) :=
  let id2 := Txt.slice src (some pos) (some (pos + 2))
  if id2 = Str.ofString "\\u" then hexChar src (pos + 2) 4 else if id2 = Str.ofString "\\U" then hexChar src (pos + 2) 8 else
  match escOf id2 with
  | some c => .ok (pos + 2, ⟨#[c]⟩)
  | none => .error (sfxT src (pos + 2) (Str.ofString "Unescaped '\\' in a string"))
namespace Nparsebasicstrescapectr
abbrev AV : Type := World × Str × Tok × Int × Tok
theorem ne_AV : Nonempty AV := ne_world.elim fun w => ⟨⟨w, default, 0, 0, 0⟩⟩
def S1 (v : AV) : Prop :=
  (fun (w : World) (src : Str) (t1 : Tok) (pos : Int) (t2 : Tok) => (0 ≤ pos) → (pos < src.length) → ((src.length : Int) < 1000000) → CtrK w true 5 80 489 [.str src t1, .int pos t2] [] (ResV (escChar src pos)) (ResX (escChar src pos))) v.1 v.2.1 v.2.2.1 v.2.2.2.1 v.2.2.2.2
@[irreducible] def c9 : AV := eps ne_AV S1
@[irreducible] def w : World := c9.1
@[irreducible] def src : Str := c9.2.1
@[irreducible] def t1 : Tok := c9.2.2.1
@[irreducible] def pos : Int := c9.2.2.2.1
@[irreducible] def t2 : Tok := c9.2.2.2.2
@[irreducible] def k9 : CV := eps ne_CV (CtrAt w true 5 80 489 [.str src t1, .int pos t2] [] (ResV (escChar src pos)) (ResX (escChar src pos)))
abbrev p := k9.p
theorem z9 (hp0 : 0 ≤ pos) (hp1 : pos < src.length) (hsz : (src.length : Int) < 1000000) : CtrAt w true 5 80 489 [.str src t1, .int pos t2] [] (ResV (escChar src pos)) (ResX (escChar src pos)) k9 := by
  intro hnd news tl hn0 hN5 B F X N TL T hk XB TB D T0 FS hd hu hret hx
  cases hn0 rfl
  obtain ⟨mgD, hD, hmD⟩ := ml_ns (X.keeps F.keep)
  revert X XB; unfold prog; k_fill; intro X XB
  k_go
  rename_i g' L' h' FG' F' N' B' X' T' D'
  k_steps
  · rename (Txt.slice src (some pos) (some (pos + 2)) == Str.ofString "\\u") = true => hA
    have hE : escChar src pos = hexChar src (pos + 2) 4 := if_pos (eq_of_beq hA)
    rw [hE] at hret hx
    refine Stop.go ?_
    · refine parse_hex_char_ctr w src _ (pos + 2) _ 4 _ ?a1 ?a2 hsz (by decide) (by decide) _ _ _ _ _ _ _ _ _ _ _ _ _ _ _ _ _ _ _ _ news tl _ _ _ (fun _ => rfl) hN5 (by assumption) (by assumption) (by assumption) (by assumption) TL (by assumption) rfl XB TB (by assumption) KtsTurn.refl FS ?c4 ?c5 ?c6 ?c7
      case a1 => omega
      case a2 => omega
      case c4 => ktr_room
      case c5 => ktr_units
      case c7 => intro msg e t tok tlE hE' GE hhE tkE hX TLE TE FE BE DE RE UE; exact pass_ctr hx B FG' D T0 TE BE FE RE UE TLE (hX)
      case c6 =>
        intro v new tl1 g1 h1 tk1 hV TL1 T1 F1 N1 B1 X1 P1 D1
        obtain ⟨a1, i1, x1, tt1, tt2, hr, rfl, rfl⟩ := hV
        k_steps
        rename_i kg kT kF kN kB _ kP kD kX
        exact hret _ [_] tl1 _ _ _ ⟨_, _, _, _, _, hr, rfl, rfl⟩ TL1 kT kF kN kB kX kP kD
  · rename (Txt.slice src (some pos) (some (pos + 2)) == Str.ofString "\\u") = false => hA
    rename (Txt.slice src (some pos) (some (pos + 2)) == Str.ofString "\\U") = true => hB
    have hE : escChar src pos = hexChar src (pos + 2) 8 := (if_neg (by simpa using hA)).trans (if_pos (eq_of_beq hB))
    rw [hE] at hret hx
    refine Stop.go ?_
    · refine parse_hex_char_ctr w src _ (pos + 2) _ 8 _ ?a1 ?a2 hsz (by decide) (by decide) _ _ _ _ _ _ _ _ _ _ _ _ _ _ _ _ _ _ _ _ news tl _ _ _ (fun _ => rfl) hN5 (by assumption) (by assumption) (by assumption) (by assumption) TL (by assumption) rfl XB TB (by assumption) KtsTurn.refl FS ?c4 ?c5 ?c6 ?c7
      case a1 => omega
      case a2 => omega
      case c4 => ktr_room
      case c5 => ktr_units
      case c7 => intro msg e t tok tlE hE' GE hhE tkE hX TLE TE FE BE DE RE UE; exact pass_ctr hx B FG' D T0 TE BE FE RE UE TLE (hX)
      case c6 =>
        intro v new tl1 g1 h1 tk1 hV TL1 T1 F1 N1 B1 X1 P1 D1
        obtain ⟨a1, i1, x1, tt1, tt2, hr, rfl, rfl⟩ := hV
        k_steps
        rename_i kg kT kF kN kB _ kP kD kX
        exact hret _ [_] tl1 _ _ _ ⟨_, _, _, _, _, hr, rfl, rfl⟩ TL1 kT kF kN kB kX kP kD
  · rename (Txt.slice src (some pos) (some (pos + 2)) == Str.ofString "\\u") = false => hA
    rename (Txt.slice src (some pos) (some (pos + 2)) == Str.ofString "\\U") = false => hB
    rename escOf _ = some _ => hC
    rename_i kF kN _ _
    have hE : escChar src pos = .ok (pos + 2, _) := (if_neg (by simpa using hA)).trans ((if_neg (by simpa using hB)).trans (by rw [hC]))
    exact hret _ [_] tl _ _ _ ⟨_, _, _, _, _, hE, rfl, rfl⟩ TL T0 kF kN B X T D
  · rename (Txt.slice src (some pos) (some (pos + 2)) == Str.ofString "\\u") = false => hA
    rename (Txt.slice src (some pos) (some (pos + 2)) == Str.ofString "\\U") = false => hB
    rename escOf _ = none => hC
    have hE : escChar src pos = .error _ := (if_neg (by simpa using hA)).trans ((if_neg (by simpa using hB)).trans (by rw [hC]))
    rename ∀ (q : Addr × Obj), q ∈ tl ++ news → _ ≠ q.1 => hne9
    rename Obj.data _ = Data.fields _ => hoe9
    rename KtsTurn _ g' _ => T9
    rename News _ L' _ (_ :: (tl ++ news)) => N9
    have N10 := news_swap N9
    refine Stop.go ?_
    · refine suffixed_err_ctr w src _ (pos + 2) _ _ _ ?a1 ?a2 hsz ?a3 _ _ _ _ _ _ _ _ _ _ _ _ _ _ _ _ _ _ _ _ (_ :: news) tl _ _ _ (fun h => nomatch h) (ne_533 TL hne9 hN5) (by assumption) (by assumption) (by assumption) N10 TL (by assumption) rfl XB TB (by assumption) KtsTurn.refl FS ?c4 ?c5 ?c6 ?c7
      case a1 => omega
      case a2 => omega
      case a3 => decide +kernel
      case c4 => ktr_room
      case c5 => ktr_units
      case c7 => exact fun _ _ _ _ _ _ _ _ _ hX => hX.elim
      case c6 =>
        intro v new tl2 g2 h2 tk2 hV TL2 T2 F2 N2 B2 X2 P2 D2
        obtain ⟨e, t4, tok, rfl, rfl, het, hne⟩ := hV
        obtain ⟨nm, q, bs, hdct, sn, sub, ab, col, dd, k0, k1, k2, k3, k5, mN, hC, _, _⟩ := tde_at (X2.keeps F2.keep)
        obtain ⟨hE1, hE2⟩ := hne _ (List.mem_append_right _ (.head _))
        refine ⟨e, t4, rfl, ⟨_, _, _, _, _, _, _, _, _, _, _, _, _, _, _, _, _, hC, rfl⟩, (N2 _ (.head _)).1, hE1, ⟨_, _, (N2 (_, _) (List.mem_append_right _ (List.mem_append_right _ (.head _)))).1, hoe9, rfl⟩, fun h6 hh6 hs6 => ?_⟩
        obtain ⟨F7, N7⟩ := led_from F2 N2 (fun p hp => (hne p hp).1) het hh6 hs6
        exact leave_ctr hx B FG' D T0 (T9.trans T2) B2 F7 (news_mid N7) rfl rfl rfl rfl (fun q hq => hne q (by
          rcases List.mem_append.mp hq with hq | hq
          · exact List.mem_append_left _ hq
          · exact List.mem_append_right _ (.tail _ hq))) TL2 hE rfl
theorem z8 : S1 c9 := by
  with_unfolding_all exact (fun hp0 hp1 hsz => ctr_all (z9 hp0 hp1 hsz) : (0 ≤ pos) → (pos < src.length) → ((src.length : Int) < 1000000) → CtrK w true 5 80 489 [.str src t1, .int pos t2] [] (ResV (escChar src pos)) (ResX (escChar src pos)))
end Nparsebasicstrescapectr
theorem parse_basic_str_escape_ctr (w : World) (src : Str) (t1 : Tok) (pos : Int) (t2 : Tok) (hp0 : 0 ≤ pos) (hp1 : pos < src.length) (hsz : (src.length : Int) < 1000000) :
    Ctr w true 5 80 489 [.str src t1, .int pos t2] (ResV (escChar src pos)) (ResX (escChar src pos)) := by
  have h := eps_all (ne := Nparsebasicstrescapectr.ne_AV) (S := Nparsebasicstrescapectr.S1) (by with_unfolding_all exact Nparsebasicstrescapectr.z8) ⟨w, src, t1, pos, t2⟩
  exact h hp0 hp1 hsz
end
section
open PySem.Spec PySem.Calls PySem.Builtin.Str
theorem slice_len {x : Str} {i j : Int} (hi : 0 ≤ i) (hij : i ≤ j) (hj : j ≤ x.length) : ((Txt.slice x (some i) (some j)).length : Int) = j - i := by
  obtain ⟨a, rfl⟩ := Int.eq_ofNat_of_zero_le hi
  obtain ⟨b, rfl⟩ := Int.eq_ofNat_of_zero_le (Int.le_trans hi hij)
  have hab := Int.ofNat_le.mp hij
  rw [← len_list, slice_ssI x hi (Int.natCast_nonneg b), List.length_take, List.length_drop, len_list]
  exact (congrArg Nat.cast (Nat.min_eq_left (Nat.sub_le_sub_right (Int.ofNat_le.mp hj) a))).trans (Int.ofNat_sub hab)
theorem lookup_two {n c : Nat} {k : List Nat} : ∀ (t : List (List Nat × Nat)), (∀ p ∈ t, p.1.length = n) → t.lookup k = some c → k.length = n
  | [], _, h => by cases h
  | (l, v) :: t, ha, h => by
    rw [List.lookup_cons] at h
    cases e : k == l with
    | true => rw [eq_of_beq e]; exact ha _ (.head _)
    | false => rw [e] at h; exact lookup_two t (fun p hp => ha p (.tail _ hp)) h
theorem escOf_two {x : Str} {c : Nat} (h : escOf x = some c) : x.length = 2 := by
  rw [← len_list]; exact lookup_two escTab (by decide) h
theorem slice_le2 {x : Str} {i n : Int} (hi : 0 ≤ i) (hn : 0 ≤ n) : ((Txt.slice x (some i) (some (i + n))).length : Int) = n → i + n ≤ x.length ∨ n = 0 := by
  obtain ⟨a, rfl⟩ := Int.eq_ofNat_of_zero_le hi
  obtain ⟨k, rfl⟩ := Int.eq_ofNat_of_zero_le hn
  show ((Txt.slice x (some (a : Int)) (some ((a + k : Nat) : Int))).length : Int) = (k : Int) → _
  rw [← len_list, slice_ss, List.length_take, List.length_drop, len_list]
  intro h
  exact (min_le2 (Int.ofNat.inj h)).imp Int.ofNat_le.mpr (congrArg Nat.cast)
theorem hexChar_ok {src : Str} {pos hl i : Int} {x : Str} (hp : 0 ≤ pos) (h0 : 1 ≤ hl) (h : hexChar src pos hl = .ok (i, x)) : i = pos + hl ∧ i ≤ src.length ∧ x.length = 1 := by
  unfold hexChar at h
  dsimp only at h
  split at h
  · cases h
  · rename_i q
    split at h
    · cases h
      refine ⟨rfl, ?_, rfl⟩
      have := not_or.mp q
      have h1 : (((src.cps.toList.drop pos.toNat).take hl.toNat).length : Int) = hl := Decidable.not_not.mp this.1
      rw [List.length_take, List.length_drop, len_list] at h1
      obtain ⟨a, rfl⟩ := Int.eq_ofNat_of_zero_le hp
      obtain ⟨k, rfl⟩ := Int.eq_ofNat_of_zero_le (Int.le_trans (by decide) h0)
      have h3 : min k (src.length - a) = k := Int.ofNat.inj h1
      rcases min_le2 (a := a) (n := k) (l := src.length) (by rw [Nat.add_sub_cancel_left]; exact h3) with h2 | rfl
      · exact Int.ofNat_le.mpr h2
      · exact absurd h0 (by decide)
    · cases h
theorem escChar_ok {src : Str} {pos i : Int} {x : Str} (hp : 0 ≤ pos) (h : escChar src pos = .ok (i, x)) : pos + 2 ≤ i ∧ i ≤ src.length ∧ x.length = 1 := by
  unfold escChar at h
  dsimp only at h
  split at h
  · obtain ⟨h1, h2, h3⟩ := hexChar_ok (Int.le_trans hp (Int.le_add_of_nonneg_right (by decide))) (by decide) h
    exact ⟨h1 ▸ Int.le_add_of_nonneg_right (by decide), h2, h3⟩
  · split at h
    · obtain ⟨h1, h2, h3⟩ := hexChar_ok (Int.le_trans hp (Int.le_add_of_nonneg_right (by decide))) (by decide) h
      exact ⟨h1 ▸ Int.le_add_of_nonneg_right (by decide), h2, h3⟩
    · split at h
      · rename_i c hc
        cases h
        have := escOf_two hc
        have h2 := slice_le2 (x := src) (i := pos) (n := 2) hp (by omega) (by omega)
        refine ⟨Int.le_refl _, ?_, rfl⟩
        omega
      · cases h
inductive Bas (src : Str) : Int → Int → Str → Except Str (Int × Str) → Prop where
  | eof {pos start : Int} {res : Str} : (src.length : Int) ≤ pos → Bas src pos start res (.error (sfxT src pos (Str.ofString "Unterminated string")))
  | quote {pos start : Int} {res : Str} : pos < src.length → Txt.item src pos = Str.ofString "\"" → Bas src pos start res (.ok (pos + 1, res ++ Txt.slice src (some start) (some pos)))
  | escErr {pos start : Int} {res m : Str} : pos < src.length → Txt.item src pos = Str.ofString "\\" → escChar src pos = .error m → Bas src pos start res (.error m)
  | esc {pos start p2 : Int} {res x : Str} {r : Except Str (Int × Str)} : pos < src.length → Txt.item src pos = Str.ofString "\\" → escChar src pos = .ok (p2, x) → Bas src p2 p2 (res ++ Txt.slice src (some start) (some pos) ++ x) r → Bas src pos start res r
  | low {pos start : Int} {res : Str} : pos < src.length → Txt.item src pos ≠ Str.ofString "\"" → Txt.item src pos ≠ Str.ofString "\\" → Sign lowP (Txt.item src pos) = true → Bas src pos start res (.error (sfxT src pos (Str.ofString "Illegal character " ++ reprText (Txt.item src pos))))
  | plain {pos start : Int} {res : Str} {r : Except Str (Int × Str)} : pos < src.length → Txt.item src pos ≠ Str.ofString "\"" → Txt.item src pos ≠ Str.ofString "\\" → Sign lowP (Txt.item src pos) = false → Bas src (pos + 1) start res r → Bas src pos start res r
end
noncomputable section
open PySem.Spec PySem.Calls PySem.Builtin.Str
noncomputable abbrev mapB (src : Str) (t1 : Tok) (i : Int) (tp : Tok) (r : Str) (tr : Tok) (q : Int) (tq : Tok) (c pe : Option Value) : Str → Option Value := fun y =>
  if y = Str.ofString "pos" then some (.int i tp) else if y = Str.ofString "result" then some (.str r tr) else if y = Str.ofString "start_pos" then some (.int q tq) else if y = Str.ofString "char" then c else if y = Str.ofString "parsed_escape" then pe else
  if y = Str.ofString "parse_escapes" then some (.ref 489) else if y = Str.ofString "error_on" then some (.ref 281) else if y = Str.ofString "multiline" then some (.bool false) else if y = Str.ofString "src" then some (.str src t1) else none
theorem lit9 : (Str.ofString "Illegal character ").length = 18 := by kernel_rfl
inductive BsJ (src : Str) (t1 : Tok) (pos : Int) (fr : List Addr) (g' : Heap) (A : Around) (base : Heap) (outer : List Env) (K : Frag) (p : Program) (loose : List Str) (mean : ExcName → Option Value) (mg : Str → Option Value) (mb : Str → Option Value) (L' : Addr) (s : Shared) (news : List (Addr × Obj)) (k : Nat) (s' : Shared) : Prop
  | mk (i q : Int) (r : Str) (tp tr tq : Tok) (c pe : Option Value) (g1 h1 : Heap) (tl1 : List (Addr × Obj)) (tk1 : Nat) (hq0 : s' = { s with heap := h1, toks := tk1 }) (hq1 : TabLed tl1) (hq2 : KtsTurn fr g' g1) (hq3 : Below A base outer g1) (hq4 : K.In g1) (hq5 : Top p loose mean mg mb g1) (hq6 : KtsDicts fr g1) (hq7 : Fr g1 L' h1 (mapB src t1 i tp r tr q tq c pe)) (hq8 : News g1 L' h1 (tl1 ++ news)) (hq9 : 0 ≤ q) (hq10 : q ≤ i) (hq11 : i ≤ src.length) (hq12 : (r.length : Int) ≤ q) (hq13 : src.length + 1 - i < k) (hq14 : (∀ x, Bas src i q r x → Bas src pos pos Str.empty x)) : BsJ src t1 pos fr g' A base outer K p loose mean mg mb L' s news k s'
namespace Nparsebasicstrctr
abbrev AV : Type := World × Str × Tok × Int × Tok
theorem ne_AV : Nonempty AV := ne_world.elim fun w => ⟨⟨w, default, 0, 0, 0⟩⟩
def S1 (v : AV) : Prop :=
  (fun (w : World) (src : Str) (t1 : Tok) (pos : Int) (t2 : Tok) => (0 ≤ pos) → (pos ≤ src.length) → ((src.length : Int) < 1000000) → (∀ c ∈ src.cps.toList, c < 1114112) → CtrK w true 7 120 524 [.str src t1, .int pos t2] [(Str.ofString "multiline", .bool false)] (RelV fun i x => Bas src pos pos Str.empty (.ok (i, x))) (fun msg => Bas src pos pos Str.empty (.error msg))) v.1 v.2.1 v.2.2.1 v.2.2.2.1 v.2.2.2.2
@[irreducible] def c9 : AV := eps ne_AV S1
@[irreducible] def w : World := c9.1
@[irreducible] def src : Str := c9.2.1
@[irreducible] def t1 : Tok := c9.2.2.1
@[irreducible] def pos : Int := c9.2.2.2.1
@[irreducible] def t2 : Tok := c9.2.2.2.2
@[irreducible] def k9 : CV := eps ne_CV (CtrAt w true 7 120 524 [.str src t1, .int pos t2] [(Str.ofString "multiline", .bool false)] (RelV fun i x => Bas src pos pos Str.empty (.ok (i, x))) (fun msg => Bas src pos pos Str.empty (.error msg)))
abbrev p := k9.p
abbrev loose := k9.loose
abbrev mean := k9.mean
abbrev mg := k9.mg
abbrev mb := k9.mb
abbrev dp := k9.dp
noncomputable abbrev un := k9.un
abbrev gd := k9.gd
abbrev cn := k9.cn
abbrev cs := k9.cs
abbrev a := k9.a
abbrev ccd := k9.ccd
abbrev outer := k9.outer
abbrev base := k9.base
noncomputable abbrev L := k9.L
abbrev m := k9.m
abbrev s := k9.s
theorem z9 (hp0 : 0 ≤ pos) (hp1 : pos ≤ src.length) (hsz : (src.length : Int) < 1000000) (hcs : ∀ c ∈ src.cps.toList, c < 1114112) : CtrAt w true 7 120 524 [.str src t1, .int pos t2] [(Str.ofString "multiline", .bool false)] (RelV fun i x => Bas src pos pos Str.empty (.ok (i, x))) (fun msg => Bas src pos pos Str.empty (.error msg)) k9 := by
  intro hnd news tl hn0 hN5 B F X N TL T hk XB TB D T0 FS hd hu hret hx
  cases hn0 rfl
  have H := fs281 FS
  revert X XB H; unfold prog; k_fill; intro X XB H
  k_go
  rename_i g' L' h' FG' F' N' B' X' T' D'
  k_steps
  refine Stop.go ?_
  refine whl_ind (BsJ src t1 pos (frs (envOf cn cs L a ccd :: outer)) g' { handled := none, depth := dp, frames := some (envX cn cs L a ccd [] :: outer), guards := gd, units := un } base (envOf cn cs L a ccd :: outer) (law_top.heap_385 w.params) p loose mean mg mb L' s news) ?_ ?_ _ _ ?_
  · (intro s' hr1; obtain ⟨i, q, r, tp, tr, tq, c, pe, g1, h1, tl1, tk1, rfl, _, _, _, _, _, _, _, _, j1, j2, j3, j4, j5, _⟩ := hr1)
    omega
  · (intro k IH s' hr2; obtain ⟨i, q, r, tp, tr, tq, c, pe, g1, h1, tl1, tk1, rfl, TL1, T1, B1, X1, P1, D1, F1, N1, j1, j2, j3, j4, j5, hK⟩ := hr2)
    refine whl_turn (by passes_own) ?_
    k_steps
    · skip
      rename ∀ (q : Addr × Obj), q ∈ tl1 ++ news → _ ≠ q.1 => hne9
      rename Obj.data _ = Data.fields _ => hoe9
      rename KtsTurn _ g' _ => T9
      rename News _ L' _ (_ :: (tl1 ++ news)) => N9
      have N10 := news_swap N9
      refine Stop.go ?_
      · refine suffixed_err_ctr w src _ (i) _ _ _ ?a1 ?a2 hsz ?a3 _ _ _ _ _ _ _ _ _ _ _ _ _ _ _ _ _ _ _ _ (_ :: news) tl1 _ _ _ (fun h => nomatch h) (ne_533 TL1 hne9 hN5) (by assumption) (by assumption) (by assumption) N10 TL1 (by assumption) rfl XB TB (by assumption) KtsTurn.refl FS ?c4 ?c5 ?c6 ?c7
        case a1 => omega
        case a2 => omega
        case a3 => decide +kernel
        case c4 => ktr_room
        case c5 => ktr_units
        case c7 => exact fun _ _ _ _ _ _ _ _ _ hX => hX.elim
        case c6 =>
          intro v new tl2 g2 h2 tk2 hV TL2 T2 F2 N2 B2 X2 P2 D2
          obtain ⟨e, t4, tok, rfl, rfl, het, hne⟩ := hV
          obtain ⟨nm, q, bs, hdct, sn, sub, ab, col, dd, k0, k1, k2, k3, k5, mN, hC, _, _⟩ := tde_at (X2.keeps F2.keep)
          obtain ⟨hE1, hE2⟩ := hne _ (List.mem_append_right _ (.head _))
          refine ⟨e, t4, rfl, ⟨_, _, _, _, _, _, _, _, _, _, _, _, _, _, _, _, _, hC, rfl⟩, (N2 _ (.head _)).1, hE1, ⟨_, _, (N2 (_, _) (List.mem_append_right _ (List.mem_append_right _ (.head _)))).1, hoe9, rfl⟩, fun h6 hh6 hs6 => ?_⟩
          obtain ⟨F7, N7⟩ := led_from F2 N2 (fun p hp => (hne p hp).1) het hh6 hs6
          exact leave_ctr hx B FG' D T0 (T9.trans T2) B2 F7 (news_mid N7) rfl rfl rfl rfl (fun q hq => hne q (by
            rcases List.mem_append.mp hq with hq | hq
            · exact List.mem_append_left _ hq
            · exact List.mem_append_right _ (.tail _ hq))) TL2 (hK _ (.eof (by omega))) rfl
    · rename (Txt.item src i == Str.ofString "\"") = true => hA
      rename_i kg kT kF kN kB _ kP kD kX
      exact hret _ [_] tl1 _ _ _ ⟨_, _, _, _, _, hK _ (.quote (by omega) (eq_of_beq hA)), rfl, rfl⟩ TL1 kT kF kN kB kX kP kD
    · rename (Txt.item src i == Str.ofString "\"") = false => hA
      rename (Txt.item src i == Str.ofString "\\") = true => hB
      have hsl := slice_len (x := src) j1 j2 j3
      refine Stop.go ?_
      · refine parse_basic_str_escape_ctr w src _ i _ ?a1 ?a2 hsz _ _ _ _ _ _ _ _ _ _ _ _ _ _ _ _ _ _ _ _ news tl1 _ _ _ (fun _ => rfl) hN5 (by assumption) (by assumption) (by assumption) (by assumption) TL1 (by assumption) rfl XB TB (by assumption) KtsTurn.refl FS ?c4 ?c5 ?c6 ?c7
        case a1 => omega
        case a2 => omega
        case c4 => ktr_room
        case c5 => ktr_units
        case c7 => intro msg e t tok tlE hE' GE hhE tkE hX TLE TE FE BE DE RE UE; exact pass_ctr hx B FG' D T0 (T1.trans TE) BE FE RE UE TLE (hK _ (.escErr (by omega) (eq_of_beq hB) hX))
        case c6 =>
          intro v new tl2 g2 h2 tk2 hV TL2 T2 F2 N2 B2 X2 P2 D2
          obtain ⟨a2, i2, x2, ta, tb, hr, rfl, rfl⟩ := hV
          obtain ⟨e1, e2, e3⟩ := escChar_ok (by omega) hr
          k_steps
          rename Fr g2 L' _ _ => F9
          rename News g2 L' _ _ => N9
          exact Stop.go (IH _ ⟨i2, i2, r ++ Txt.slice src (some q) (some i) ++ x2, ta, _, ta, some (.str (Txt.item src i) _), some (.str x2 tb), g2, _, tl2, _, rfl, TL2, T1.trans T2, B2, X2, P2, D2, fr_eq F9 (by
            funext y
            by_cases h0z : y = Str.ofString "pos"
            · subst h0z; rfl
            by_cases h1z : y = Str.ofString "result"
            · subst h1z; rfl
            by_cases h2z : y = Str.ofString "start_pos"
            · subst h2z; rfl
            by_cases h3z : y = Str.ofString "char"
            · subst h3z; rfl
            by_cases h4z : y = Str.ofString "parsed_escape"
            · subst h4z; rfl
            by_cases h5z : y = Str.ofString "parse_escapes"
            · subst h5z; rfl
            by_cases h6z : y = Str.ofString "error_on"
            · subst h6z; rfl
            by_cases h7z : y = Str.ofString "multiline"
            · subst h7z; rfl
            by_cases h8z : y = Str.ofString "src"
            · subst h8z; rfl
            simp only [if_neg h0z, if_neg h1z, if_neg h2z, if_neg h3z, if_neg h4z, if_neg h5z, if_neg h6z, if_neg h7z, if_neg h8z]), news_drop N9, by omega, Int.le_refl _, e2, by omega, by omega, fun x hx => hK _ (.esc (by omega) (eq_of_beq hB) hr hx)⟩)
    · rename (Txt.item src i == Str.ofString "\"") = false => hA
      rename (Txt.item src i == Str.ofString "\\") = false => hB
      rename Sign lowP _ = true => hLow
      refine Stop.go ?_
      · refine suffixed_err_ctr w src _ (i) _ _ _ ?a1 ?a2 hsz ?a3 _ _ _ _ _ _ _ _ _ _ _ _ _ _ _ _ _ _ _ _ news tl1 _ _ _ (fun h => nomatch h) hN5 (by assumption) (by assumption) (by assumption) (by assumption) TL1 (by assumption) rfl XB TB (by assumption) KtsTurn.refl FS ?c4 ?c5 ?c6 ?c7
        case a1 => omega
        case a2 => omega
        case a3 => simp only [PySem.Str.length_append, lit6, lit9]; omega
        case c4 => ktr_room
        case c5 => ktr_units
        case c7 => exact fun _ _ _ _ _ _ _ _ _ hX => hX.elim
        case c6 =>
          intro v new tl2 g2 h2 tk2 hV TL2 T2 F2 N2 B2 X2 P2 D2
          obtain ⟨e, t4, tok, rfl, rfl, het, hne⟩ := hV
          obtain ⟨nm, q, bs, hdct, sn, sub, ab, col, dd, k0, k1, k2, k3, k5, mN, hC, _, _⟩ := tde_at (X2.keeps F2.keep)
          refine ⟨e, t4, rfl, ⟨_, _, _, _, _, _, _, _, _, _, _, _, _, _, _, _, _, hC, rfl⟩, (N2 _ (.head _)).1, ?_⟩
          exact leave_ctr hx B FG' D T0 (T1.trans T2) B2 F2 N2 rfl rfl rfl rfl hne TL2 (hK _ (.low (by omega) (by simpa using hA) (by simpa using hB) hLow)) rfl
    · rename (Txt.item src i == Str.ofString "\"") = false => hA
      rename (Txt.item src i == Str.ofString "\\") = false => hB
      rename Sign lowP _ = false => hC
      rename Fr g1 L' _ _ => F9
      rename News g1 L' _ _ => N9
      exact Stop.go (IH _ ⟨i + 1, q, r, _, tr, tq, some (.str (Txt.item src i) _), pe, g1, _, tl1, _, rfl, TL1, T1, B1, X1, P1, D1, fr_eq F9 (by
        funext y
        by_cases h0z : y = Str.ofString "pos"
        · subst h0z; rfl
        by_cases h1z : y = Str.ofString "result"
        · subst h1z; rfl
        by_cases h2z : y = Str.ofString "start_pos"
        · subst h2z; rfl
        by_cases h3z : y = Str.ofString "char"
        · subst h3z; rfl
        by_cases h4z : y = Str.ofString "parsed_escape"
        · subst h4z; rfl
        by_cases h5z : y = Str.ofString "parse_escapes"
        · subst h5z; rfl
        by_cases h6z : y = Str.ofString "error_on"
        · subst h6z; rfl
        by_cases h7z : y = Str.ofString "multiline"
        · subst h7z; rfl
        by_cases h8z : y = Str.ofString "src"
        · subst h8z; rfl
        simp only [if_neg h0z, if_neg h1z, if_neg h2z, if_neg h3z, if_neg h4z, if_neg h5z, if_neg h6z, if_neg h7z, if_neg h8z]), N9, j1, by omega, by omega, j4, by omega, fun x hx => hK _ (.plain (by omega) (by simpa using hA) (by simpa using hB) hC hx)⟩)
  · rename Fr g' L' _ _ => F9
    rename News g' L' _ _ => N9
    refine ⟨pos, pos, Str.empty, t2, _, t2, none, none, g', _, tl, _, rfl, TL, KtsTurn.refl, B', X', T', D', fr_eq (m := fun y => if y = Str.ofString "start_pos" then some (.int pos t2) else if y = Str.ofString "result" then some (.str Str.empty _) else if y = Str.ofString "parse_escapes" then some (.ref 489) else if y = Str.ofString "error_on" then some (.ref 281) else List.lookup y [(Str.ofString "multiline", .bool false), (Str.ofString "pos", .int pos t2), (Str.ofString "src", .str src t1)]) F9 (by
      funext y
      by_cases h0z : y = Str.ofString "pos"
      · subst h0z; rfl
      by_cases h1z : y = Str.ofString "result"
      · subst h1z; rfl
      by_cases h2z : y = Str.ofString "start_pos"
      · subst h2z; rfl
      by_cases h3z : y = Str.ofString "char"
      · subst h3z; rfl
      by_cases h4z : y = Str.ofString "parsed_escape"
      · subst h4z; rfl
      by_cases h5z : y = Str.ofString "parse_escapes"
      · subst h5z; rfl
      by_cases h6z : y = Str.ofString "error_on"
      · subst h6z; rfl
      by_cases h7z : y = Str.ofString "multiline"
      · subst h7z; rfl
      by_cases h8z : y = Str.ofString "src"
      · subst h8z; rfl
      simp only [if_neg h0z, if_neg h1z, if_neg h2z, if_neg h3z, if_neg h4z, if_neg h5z, if_neg h6z, if_neg h7z, if_neg h8z, List.lookup, beq_eq_false_iff_ne.mpr h0z, beq_eq_false_iff_ne.mpr h7z, beq_eq_false_iff_ne.mpr h8z]), N9, hp0, Int.le_refl _, hp1, ?_, by omega, fun x hx => hx⟩
    show ((0 : Nat) : Int) ≤ pos
    omega
theorem z8 : S1 c9 := by
  with_unfolding_all exact (fun hp0 hp1 hsz hcs => ctr_all (z9 hp0 hp1 hsz hcs) : (0 ≤ pos) → (pos ≤ src.length) → ((src.length : Int) < 1000000) → (∀ c ∈ src.cps.toList, c < 1114112) → CtrK w true 7 120 524 [.str src t1, .int pos t2] [(Str.ofString "multiline", .bool false)] (RelV fun i x => Bas src pos pos Str.empty (.ok (i, x))) (fun msg => Bas src pos pos Str.empty (.error msg)))
end Nparsebasicstrctr
theorem parse_basic_str_ctr (w : World) (src : Str) (t1 : Tok) (pos : Int) (t2 : Tok) (hp0 : 0 ≤ pos) (hp1 : pos ≤ src.length) (hsz : (src.length : Int) < 1000000) (hcs : ∀ c ∈ src.cps.toList, c < 1114112) :
    CtrK w true 7 120 524 [.str src t1, .int pos t2] [(Str.ofString "multiline", .bool false)] (RelV fun i x => Bas src pos pos Str.empty (.ok (i, x))) (fun msg => Bas src pos pos Str.empty (.error msg)) := by
  have h := eps_all (ne := Nparsebasicstrctr.ne_AV) (S := Nparsebasicstrctr.S1) (by with_unfolding_all exact Nparsebasicstrctr.z8) ⟨w, src, t1, pos, t2⟩
  exact h hp0 hp1 hsz hcs
end
noncomputable section
open PySem.Spec PySem.Calls PySem.Builtin.Str
namespace Nparseonelinebasicstrctr
abbrev AV : Type := World × Str × Tok × Int × Tok
theorem ne_AV : Nonempty AV := ne_world.elim fun w => ⟨⟨w, default, 0, 0, 0⟩⟩
def S1 (v : AV) : Prop :=
  (fun (w : World) (src : Str) (t1 : Tok) (pos : Int) (t2 : Tok) => (0 ≤ pos) → (pos < src.length) → ((src.length : Int) < 1000000) → (∀ c ∈ src.cps.toList, c < 1114112) → CtrK w true 8 140 467 [.str src t1, .int pos t2] [] (RelV fun i x => Bas src (pos + 1) (pos + 1) Str.empty (.ok (i, x))) (fun msg => Bas src (pos + 1) (pos + 1) Str.empty (.error msg))) v.1 v.2.1 v.2.2.1 v.2.2.2.1 v.2.2.2.2
@[irreducible] def c9 : AV := eps ne_AV S1
@[irreducible] def w : World := c9.1
@[irreducible] def src : Str := c9.2.1
@[irreducible] def t1 : Tok := c9.2.2.1
@[irreducible] def pos : Int := c9.2.2.2.1
@[irreducible] def t2 : Tok := c9.2.2.2.2
@[irreducible] def k9 : CV := eps ne_CV (CtrAt w true 8 140 467 [.str src t1, .int pos t2] [] (RelV fun i x => Bas src (pos + 1) (pos + 1) Str.empty (.ok (i, x))) (fun msg => Bas src (pos + 1) (pos + 1) Str.empty (.error msg)))
theorem z9 (hp0 : 0 ≤ pos) (hp1 : pos < src.length) (hsz : (src.length : Int) < 1000000) (hcs : ∀ c ∈ src.cps.toList, c < 1114112) : CtrAt w true 8 140 467 [.str src t1, .int pos t2] [] (RelV fun i x => Bas src (pos + 1) (pos + 1) Str.empty (.ok (i, x))) (fun msg => Bas src (pos + 1) (pos + 1) Str.empty (.error msg)) k9 := by
  intro hnd news tl hn0 hN5 B F X N TL T hk XB TB D T0 FS hd hu hret hx
  cases hn0 rfl
  revert X XB; unfold prog; k_fill; intro X XB
  k_go
  rename_i g' L' h' FG' F' N' B' X' T' D'
  k_steps
  refine Stop.go ?_
  · refine parse_basic_str_ctr w src _ (pos + 1) _ ?a1 ?a2 hsz hcs _ _ _ _ _ _ _ _ _ _ _ _ _ _ _ _ _ _ _ _ news tl _ _ _ (fun _ => rfl) hN5 (by assumption) (by assumption) (by assumption) (by assumption) TL (by assumption) rfl XB TB (by assumption) KtsTurn.refl FS ?c4 ?c5 ?c6 ?c7
    case a1 => omega
    case a2 => omega
    case c4 => ktr_room
    case c5 => ktr_units
    case c7 => intro msg e t tok tlE hE' GE hhE tkE hX TLE TE FE BE DE RE UE; exact pass_ctr hx B FG' D T0 TE BE FE RE UE TLE (hX)
    case c6 =>
      intro v new tl1 g1 h1 tk1 hV TL1 T1 F1 N1 B1 X1 P1 D1
      obtain ⟨a1, i1, x1, ta, tb, hr, rfl, rfl⟩ := hV
      k_steps
      rename_i kg kT kF kN kB _ kP kD kX
      exact hret _ [_] tl1 _ _ _ ⟨_, _, _, _, _, hr, rfl, rfl⟩ TL1 kT kF kN kB kX kP kD
theorem z8 : S1 c9 := by
  with_unfolding_all exact (fun hp0 hp1 hsz hcs => ctr_all (z9 hp0 hp1 hsz hcs) : (0 ≤ pos) → (pos < src.length) → ((src.length : Int) < 1000000) → (∀ c ∈ src.cps.toList, c < 1114112) → CtrK w true 8 140 467 [.str src t1, .int pos t2] [] (RelV fun i x => Bas src (pos + 1) (pos + 1) Str.empty (.ok (i, x))) (fun msg => Bas src (pos + 1) (pos + 1) Str.empty (.error msg)))
end Nparseonelinebasicstrctr
theorem parse_one_line_basic_str_ctr (w : World) (src : Str) (t1 : Tok) (pos : Int) (t2 : Tok) (hp0 : 0 ≤ pos) (hp1 : pos < src.length) (hsz : (src.length : Int) < 1000000) (hcs : ∀ c ∈ src.cps.toList, c < 1114112) :
    Ctr w true 8 140 467 [.str src t1, .int pos t2] (RelV fun i x => Bas src (pos + 1) (pos + 1) Str.empty (.ok (i, x))) (fun msg => Bas src (pos + 1) (pos + 1) Str.empty (.error msg)) := by
  have h := eps_all (ne := Nparseonelinebasicstrctr.ne_AV) (S := Nparseonelinebasicstrctr.S1) (by with_unfolding_all exact Nparseonelinebasicstrctr.z8) ⟨w, src, t1, pos, t2⟩
  exact h hp0 hp1 hsz hcs
inductive Key (src : Str) (pos : Int) : Except Str (Int × Str) → Prop where
  | bare {i : Int} : pos < src.length → Sign bareP (Txt.item src pos) = true → pos ≤ i → i ≤ src.length → (∀ j, pos ≤ j → j < i → Sign bareP (Txt.item src j) = true) → (i = src.length ∨ Sign bareP (Txt.item src i) = false) → Key src pos (.ok (i, Txt.slice src (some pos) (some i)))
  | lit {n : Int} : pos < src.length → Txt.item src pos = aps → SkipOk src aps (pos + 1) true (Sign lowP) n → Key src pos (.ok (n + 1, Txt.slice src (some (pos + 1)) (some n)))
  | litBad {msg : Str} : pos < src.length → Txt.item src pos = aps → SkipBad src aps (pos + 1) true (Sign lowP) msg → Key src pos (.error msg)
  | quote {r : Except Str (Int × Str)} : pos < src.length → Txt.item src pos = Str.ofString "\"" → Bas src (pos + 1) (pos + 1) Str.empty r → Key src pos r
  | other : ((src.length : Int) ≤ pos ∨ (pos < src.length ∧ Sign bareP (Txt.item src pos) = false ∧ Txt.item src pos ≠ aps ∧ Txt.item src pos ≠ Str.ofString "\"")) → Key src pos (.error (sfxT src pos (Str.ofString "Invalid initial character for a key part")))
namespace Nparsekeypartctr
abbrev AV : Type := World × Str × Tok × Int × Tok
theorem ne_AV : Nonempty AV := ne_world.elim fun w => ⟨⟨w, default, 0, 0, 0⟩⟩
def S1 (v : AV) : Prop :=
  (fun (w : World) (src : Str) (t1 : Tok) (pos : Int) (t2 : Tok) => (0 ≤ pos) → (pos ≤ src.length + 1) → ((src.length : Int) < 1000000) → (∀ c ∈ src.cps.toList, c < 1114112) → CtrK w true 9 160 460 [.str src t1, .int pos t2] [] (RelV fun i x => Key src pos (.ok (i, x))) (fun msg => Key src pos (.error msg))) v.1 v.2.1 v.2.2.1 v.2.2.2.1 v.2.2.2.2
@[irreducible] def c9 : AV := eps ne_AV S1
@[irreducible] def w : World := c9.1
@[irreducible] def src : Str := c9.2.1
@[irreducible] def t1 : Tok := c9.2.2.1
@[irreducible] def pos : Int := c9.2.2.2.1
@[irreducible] def t2 : Tok := c9.2.2.2.2
@[irreducible] def k9 : CV := eps ne_CV (CtrAt w true 9 160 460 [.str src t1, .int pos t2] [] (RelV fun i x => Key src pos (.ok (i, x))) (fun msg => Key src pos (.error msg)))
theorem z9 (hp0 : 0 ≤ pos) (hp1 : pos ≤ src.length + 1) (hsz : (src.length : Int) < 1000000) (hcs : ∀ c ∈ src.cps.toList, c < 1114112) : CtrAt w true 9 160 460 [.str src t1, .int pos t2] [] (RelV fun i x => Key src pos (.ok (i, x))) (fun msg => Key src pos (.error msg)) k9 := by
  intro hnd news tl hn0 hN5 B F X N TL T hk XB TB D T0 FS hd hu hret hx
  cases hn0 rfl
  have H := fs296 FS
  revert X XB H; unfold prog; k_fill; intro X XB H
  k_go
  rename_i g' L' h' FG' F' N' B' X' T' D'
  k_steps
  · skip
    rename ∀ (q : Addr × Obj), q ∈ tl ++ news → _ ≠ q.1 => hne9
    rename Obj.data _ = Data.fields _ => hoe9
    rename KtsTurn _ g' _ => T9
    rename News _ L' _ (_ :: (tl ++ news)) => N9
    have N10 := news_drop N9
    refine Stop.go ?_
    · refine suffixed_err_ctr w src _ (pos) _ _ _ ?a1 ?a2 hsz ?a3 _ _ _ _ _ _ _ _ _ _ _ _ _ _ _ _ _ _ _ _ news tl _ _ _ (fun h => nomatch h) hN5 (by assumption) (by assumption) (by assumption) N10 TL (by assumption) rfl XB TB (by assumption) KtsTurn.refl FS ?c4 ?c5 ?c6 ?c7
      case a1 => omega
      case a2 => omega
      case a3 => decide +kernel
      case c4 => ktr_room
      case c5 => ktr_units
      case c7 => exact fun _ _ _ _ _ _ _ _ _ hX => hX.elim
      case c6 =>
        intro v new tl2 g2 h2 tk2 hV TL2 T2 F2 N2 B2 X2 P2 D2
        obtain ⟨e, t4, tok, rfl, rfl, het, hne⟩ := hV
        obtain ⟨nm, q, bs, hdct, sn, sub, ab, col, dd, k0, k1, k2, k3, k5, mN, hC, _, _⟩ := tde_at (X2.keeps F2.keep)
        refine ⟨e, t4, rfl, ⟨_, _, _, _, _, _, _, _, _, _, _, _, _, _, _, _, _, hC, rfl⟩, (N2 _ (.head _)).1, ?_⟩
        exact leave_ctr hx B FG' D T0 (T9.trans T2) B2 F2 N2 rfl rfl rfl rfl hne TL2 (.other (.inl (by omega))) rfl
  · rename Sign bareP _ = true => hA
    refine Stop.go ?_
    · refine skip_chars_ctr w src _ pos _ 296 (Sign bareP) 64 (fun _ f => fs296 f) (by decide) ?a1 ?a2 hsz _ _ _ _ _ _ _ _ _ _ _ _ _ _ _ _ _ _ _ _ news tl _ _ _ (fun _ => rfl) hN5 (by assumption) (by assumption) (by assumption) (by assumption) TL (by assumption) rfl XB TB (by assumption) KtsTurn.refl FS ?c4 ?c5 ?c6 ?c7
      case a1 => omega
      case a2 => omega
      case c4 => ktr_room
      case c5 => ktr_units
      case c7 => intro msg e t tok tlE hE' GE hhE tkE hX TLE TE FE BE DE RE UE; exact pass_ctr hx B FG' D T0 TE BE FE RE UE TLE (hX.elim)
      case c6 =>
        intro v new tl1 g1 h1 tk1 hV TL1 T1 F1 N1 B1 X1 P1 D1
        obtain ⟨rfl, i1, ti, rfl, e1, e2, e3, e4⟩ := hV
        have N1 : News g1 L' h1 (tl1 ++ news) := N1
        k_steps
        rename_i kg kT kF kN kB _ kP kD kX
        exact hret _ [_] tl1 _ _ _ ⟨_, _, _, _, _, .bare (by omega) hA e1 e2 e3 e4, rfl, rfl⟩ TL1 kT kF kN kB kX kP kD
  · rename (Txt.item src pos == Str.ofString "'") = true => hA
    refine Stop.go ?_
    · refine parse_literal_str_ctr w src _ pos _ ?a1 ?a2 hsz hcs _ _ _ _ _ _ _ _ _ _ _ _ _ _ _ _ _ _ _ _ news tl _ _ _ (fun _ => rfl) hN5 (by assumption) (by assumption) (by assumption) (by assumption) TL (by assumption) rfl XB TB (by assumption) KtsTurn.refl FS ?c4 ?c5 ?c6 ?c7
      case a1 => omega
      case a2 => omega
      case c4 => ktr_room
      case c5 => ktr_units
      case c7 => intro msg e t tok tlE hE' GE hhE tkE hX TLE TE FE BE DE RE UE; exact pass_ctr hx B FG' D T0 TE BE FE RE UE TLE ((.litBad (by omega) (eq_of_beq hA) hX))
      case c6 =>
        intro v new tl1 g1 h1 tk1 hV TL1 T1 F1 N1 B1 X1 P1 D1
        obtain ⟨a1, i1, x1, ta, tb, ⟨n1, hr, rfl, rfl⟩, rfl, rfl⟩ := hV
        k_steps
        rename_i kg kT kF kN kB _ kP kD kX
        exact hret _ [_] tl1 _ _ _ ⟨_, _, _, _, _, .lit (by omega) (eq_of_beq hA) hr, rfl, rfl⟩ TL1 kT kF kN kB kX kP kD
  · rename (Txt.item src pos == Str.ofString "\"") = true => hA
    refine Stop.go ?_
    · refine parse_one_line_basic_str_ctr w src _ pos _ ?a1 ?a2 hsz hcs _ _ _ _ _ _ _ _ _ _ _ _ _ _ _ _ _ _ _ _ news tl _ _ _ (fun _ => rfl) hN5 (by assumption) (by assumption) (by assumption) (by assumption) TL (by assumption) rfl XB TB (by assumption) KtsTurn.refl FS ?c4 ?c5 ?c6 ?c7
      case a1 => omega
      case a2 => omega
      case c4 => ktr_room
      case c5 => ktr_units
      case c7 => intro msg e t tok tlE hE' GE hhE tkE hX TLE TE FE BE DE RE UE; exact pass_ctr hx B FG' D T0 TE BE FE RE UE TLE ((.quote (by omega) (eq_of_beq hA) hX))
      case c6 =>
        intro v new tl1 g1 h1 tk1 hV TL1 T1 F1 N1 B1 X1 P1 D1
        obtain ⟨a1, i1, x1, ta, tb, hr, rfl, rfl⟩ := hV
        k_steps
        rename_i kg kT kF kN kB _ kP kD kX
        exact hret _ [_] tl1 _ _ _ ⟨_, _, _, _, _, .quote (by omega) (eq_of_beq hA) hr, rfl, rfl⟩ TL1 kT kF kN kB kX kP kD
  · rename Sign bareP _ = false => hA
    rename (Txt.item src pos == Str.ofString "'") = false => hB
    rename (Txt.item src pos == Str.ofString "\"") = false => hQ
    refine Stop.go ?_
    · refine suffixed_err_ctr w src _ (pos) _ _ _ ?a1 ?a2 hsz ?a3 _ _ _ _ _ _ _ _ _ _ _ _ _ _ _ _ _ _ _ _ news tl _ _ _ (fun h => nomatch h) hN5 (by assumption) (by assumption) (by assumption) (by assumption) TL (by assumption) rfl XB TB (by assumption) KtsTurn.refl FS ?c4 ?c5 ?c6 ?c7
      case a1 => omega
      case a2 => omega
      case a3 => decide +kernel
      case c4 => ktr_room
      case c5 => ktr_units
      case c7 => exact fun _ _ _ _ _ _ _ _ _ hX => hX.elim
      case c6 =>
        intro v new tl2 g2 h2 tk2 hV TL2 T2 F2 N2 B2 X2 P2 D2
        obtain ⟨e, t4, tok, rfl, rfl, het, hne⟩ := hV
        obtain ⟨nm, q, bs, hdct, sn, sub, ab, col, dd, k0, k1, k2, k3, k5, mN, hC, _, _⟩ := tde_at (X2.keeps F2.keep)
        refine ⟨e, t4, rfl, ⟨_, _, _, _, _, _, _, _, _, _, _, _, _, _, _, _, _, hC, rfl⟩, (N2 _ (.head _)).1, ?_⟩
        exact leave_ctr hx B FG' D T0 T2 B2 F2 N2 rfl rfl rfl rfl hne TL2 (.other (.inr ⟨by omega, hA, by simpa using hB, by simpa using hQ⟩)) rfl
theorem z8 : S1 c9 := by
  with_unfolding_all exact (fun hp0 hp1 hsz hcs => ctr_all (z9 hp0 hp1 hsz hcs) : (0 ≤ pos) → (pos ≤ src.length + 1) → ((src.length : Int) < 1000000) → (∀ c ∈ src.cps.toList, c < 1114112) → CtrK w true 9 160 460 [.str src t1, .int pos t2] [] (RelV fun i x => Key src pos (.ok (i, x))) (fun msg => Key src pos (.error msg)))
end Nparsekeypartctr
theorem parse_key_part_ctr (w : World) (src : Str) (t1 : Tok) (pos : Int) (t2 : Tok) (hp0 : 0 ≤ pos) (hp1 : pos ≤ src.length + 1) (hsz : (src.length : Int) < 1000000) (hcs : ∀ c ∈ src.cps.toList, c < 1114112) :
    Ctr w true 9 160 460 [.str src t1, .int pos t2] (RelV fun i x => Key src pos (.ok (i, x))) (fun msg => Key src pos (.error msg)) := by
  have h := eps_all (ne := Nparsekeypartctr.ne_AV) (S := Nparsekeypartctr.S1) (by with_unfolding_all exact Nparsekeypartctr.z8) ⟨w, src, t1, pos, t2⟩
  exact h hp0 hp1 hsz hcs
end
section
open PySem.Spec PySem.Calls PySem.Builtin.Str
section
variable {prog : Program} {w : World} {A : Around} {E : Value → Shared → Prop} {s : Shared} {x y : Str} {t u v : Tok} {i : Int} {b : Bool} {Q : Value → Shared → Prop}
theorem eq_str_known (hb : (x == y) = b) (h : Q (.bool b) s) : wpAny (model prog w) A (compareOp .Eq (.str x t) (.str y u)) Q E s := eq_str (by rw [hb]; exact h)
theorem startswith3_known (hb : Txt.startswith3 x y i = b) (h : Q (.bool b) s) : wpAny (model prog w) A (call (.builtin "str.startswith") [.str x t, .str y u, .int i v]) Q E s := SC.startswith3 (by rw [hb]; exact h)
end
end
noncomputable section
open PySem.Spec PySem.Calls PySem.Builtin.Str
set_option hygiene false
local macro_rules | `(tactic| walk_at "compareOp Eq str str") => `(tactic| refine eq_str_known (by assumption) ?_)
local macro_rules | `(tactic| walk_at "call builtin:str.startswith") => `(tactic| refine startswith3_known (by assumption) ?_)
set_option hygiene true
namespace Nparsevaluectr
abbrev AV : Type := World × Str × Tok × Int × Tok × Value
theorem ne_AV : Nonempty AV := ne_world.elim fun w => ⟨⟨w, default, 0, 0, 0, .none⟩⟩
def S1 (v : AV) : Prop :=
  (fun (w : World) (src : Str) (t1 : Tok) (pos : Int) (t2 : Tok) (pf : Value) => (0 ≤ pos) → (pos < src.length) → ((src.length : Int) < 1000000) → (∀ c ∈ src.cps.toList, c < 1114112) → ((Txt.item src pos = Str.ofString "\"" ∧ Txt.startswith3 src (Str.ofString "\"\"\"") pos = false) ∨ (Txt.item src pos = aps ∧ Txt.startswith3 src (Str.ofString "'''") pos = false)) → CtrK w true 9 160 531 [.str src t1, .int pos t2, pf] [] (RelV fun i x => Key src pos (.ok (i, x))) (fun msg => Key src pos (.error msg))) v.1 v.2.1 v.2.2.1 v.2.2.2.1 v.2.2.2.2.1 v.2.2.2.2.2
@[irreducible] def c9 : AV := eps ne_AV S1
@[irreducible] def w : World := c9.1
@[irreducible] def src : Str := c9.2.1
@[irreducible] def t1 : Tok := c9.2.2.1
@[irreducible] def pos : Int := c9.2.2.2.1
@[irreducible] def t2 : Tok := c9.2.2.2.2.1
@[irreducible] def pf : Value := c9.2.2.2.2.2
@[irreducible] def k9 : CV := eps ne_CV (CtrAt w true 9 160 531 [.str src t1, .int pos t2, pf] [] (RelV fun i x => Key src pos (.ok (i, x))) (fun msg => Key src pos (.error msg)))
theorem z9 (hp0 : 0 ≤ pos) (hp1 : pos < src.length) (hsz : (src.length : Int) < 1000000) (hcs : ∀ c ∈ src.cps.toList, c < 1114112) (hm : (Txt.item src pos = Str.ofString "\"" ∧ Txt.startswith3 src (Str.ofString "\"\"\"") pos = false) ∨ (Txt.item src pos = aps ∧ Txt.startswith3 src (Str.ofString "'''") pos = false)) : CtrAt w true 9 160 531 [.str src t1, .int pos t2, pf] [] (RelV fun i x => Key src pos (.ok (i, x))) (fun msg => Key src pos (.error msg)) k9 := by
  intro hnd news tl hn0 hN5 B F X N TL T hk XB TB D T0 FS hd hu hret hx
  cases hn0 rfl
  rcases hm with ⟨hi, hs⟩ | ⟨hi, hs⟩
  · have hA : (Txt.item src pos == Str.ofString "\"") = true := by rw [hi]; exact beq_self_eq_true _
    revert X XB; unfold prog; k_fill; intro X XB
    k_go
    rename_i g' L' h' FG' F' N' B' X' T' D'
    k_steps
    refine Stop.go ?_
    · refine parse_one_line_basic_str_ctr w src _ pos _ ?a1 ?a2 hsz hcs _ _ _ _ _ _ _ _ _ _ _ _ _ _ _ _ _ _ _ _ news tl _ _ _ (fun _ => rfl) hN5 (by assumption) (by assumption) (by assumption) (by assumption) TL (by assumption) rfl XB TB (by assumption) KtsTurn.refl FS ?c4 ?c5 ?c6 ?c7
      case a1 => omega
      case a2 => omega
      case c4 => ktr_room
      case c5 => ktr_units
      case c7 => intro msg e t tok tlE hE' GE hhE tkE hX TLE TE FE BE DE RE UE; exact pass_ctr hx B FG' D T0 TE BE FE RE UE TLE ((.quote hp1 hi hX))
      case c6 =>
        intro v new tl1 g1 h1 tk1 hV TL1 T1 F1 N1 B1 X1 P1 D1
        obtain ⟨a1, i1, x1, ta, tb, hr, rfl, rfl⟩ := hV
        k_steps
        rename_i kg kT kF kN kB _ kP kD kX
        exact hret _ [_] tl1 _ _ _ ⟨_, _, _, _, _, .quote hp1 hi hr, rfl, rfl⟩ TL1 kT kF kN kB kX kP kD
  · have hA : (Txt.item src pos == Str.ofString "\"") = false := by rw [hi]; decide +kernel
    have hB : (Txt.item src pos == Str.ofString "'") = true := by rw [hi]; exact beq_self_eq_true _
    revert X XB; unfold prog; k_fill; intro X XB
    k_go
    rename_i g' L' h' FG' F' N' B' X' T' D'
    k_steps
    refine Stop.go ?_
    · refine parse_literal_str_ctr w src _ pos _ ?a1 ?a2 hsz hcs _ _ _ _ _ _ _ _ _ _ _ _ _ _ _ _ _ _ _ _ news tl _ _ _ (fun _ => rfl) hN5 (by assumption) (by assumption) (by assumption) (by assumption) TL (by assumption) rfl XB TB (by assumption) KtsTurn.refl FS ?c4 ?c5 ?c6 ?c7
      case a1 => omega
      case a2 => omega
      case c4 => ktr_room
      case c5 => ktr_units
      case c7 => intro msg e t tok tlE hE' GE hhE tkE hX TLE TE FE BE DE RE UE; exact pass_ctr hx B FG' D T0 TE BE FE RE UE TLE ((.litBad hp1 hi hX))
      case c6 =>
        intro v new tl1 g1 h1 tk1 hV TL1 T1 F1 N1 B1 X1 P1 D1
        obtain ⟨a1, i1, x1, ta, tb, ⟨n1, hr, rfl, rfl⟩, rfl, rfl⟩ := hV
        k_steps
        rename_i kg kT kF kN kB _ kP kD kX
        exact hret _ [_] tl1 _ _ _ ⟨_, _, _, _, _, .lit hp1 hi hr, rfl, rfl⟩ TL1 kT kF kN kB kX kP kD
theorem z8 : S1 c9 := by
  with_unfolding_all exact (fun hp0 hp1 hsz hcs hm => ctr_all (z9 hp0 hp1 hsz hcs hm) : (0 ≤ pos) → (pos < src.length) → ((src.length : Int) < 1000000) → (∀ c ∈ src.cps.toList, c < 1114112) → ((Txt.item src pos = Str.ofString "\"" ∧ Txt.startswith3 src (Str.ofString "\"\"\"") pos = false) ∨ (Txt.item src pos = aps ∧ Txt.startswith3 src (Str.ofString "'''") pos = false)) → CtrK w true 9 160 531 [.str src t1, .int pos t2, pf] [] (RelV fun i x => Key src pos (.ok (i, x))) (fun msg => Key src pos (.error msg)))
end Nparsevaluectr
theorem parse_value_ctr (w : World) (src : Str) (t1 : Tok) (pos : Int) (t2 : Tok) (pf : Value) (hp0 : 0 ≤ pos) (hp1 : pos < src.length) (hsz : (src.length : Int) < 1000000) (hcs : ∀ c ∈ src.cps.toList, c < 1114112)
    (hm : (Txt.item src pos = Str.ofString "\"" ∧ Txt.startswith3 src (Str.ofString "\"\"\"") pos = false) ∨ (Txt.item src pos = aps ∧ Txt.startswith3 src (Str.ofString "'''") pos = false)) :
    Ctr w true 9 160 531 [.str src t1, .int pos t2, pf] (RelV fun i x => Key src pos (.ok (i, x))) (fun msg => Key src pos (.error msg)) := by
  have h := eps_all (ne := Nparsevaluectr.ne_AV) (S := Nparsevaluectr.S1) (by with_unfolding_all exact Nparsevaluectr.z8) ⟨w, src, t1, pos, t2, pf⟩
  exact h hp0 hp1 hsz hcs hm
end
section
open PySem.Spec PySem.Calls PySem.Builtin.Str
theorem plain_sz {x : Str} (h : (x.length : Int) ≤ 1000000) : x.length + 2 ≤ sizeLine := by
  rw [PySem.sizeLine_eq]; omega
theorem sl_line {x : Str} {i j : Option Int} (h : (x.length : Int) < 1000000) : (Txt.slice x i j).length ≤ sizeLine := by
  have := PyProof.Txt.length_slice_le x i j
  rw [PySem.sizeLine_eq]; omega
theorem litD : (Str.ofString "(at line ").length = 9 := by kernel_rfl
theorem split_sz {x : Str} {i j : Option Int} (h : (x.length : Int) < 1000000) : (Txt.slice x i j).length + 2 ≤ sizeLine := by
  have := PyProof.Txt.length_slice_le x i j
  rw [PySem.sizeLine_eq]; omega
theorem sl_sz {x : Str} {i j : Option Int} (h : (x.length : Int) < 1000000) : ((Txt.slice x i j).length : Int) < 1000000 := by
  have := PyProof.Txt.length_slice_le x i j
  omega
theorem len_part {prog : Program} {w : World} {A : Around} {E : Value → Shared → Prop} {s : Shared} {Q : Value → Shared → Prop} {x y : Str} {l : List (Str × Tok)} {i : Nat} {t : Tok} (h : ((l.map (·.1)).getD i Str.empty).length ≤ 1000000 → Q (.int ((l.map (·.1)).getD i Str.empty).length (s.toks + 1)) { s with toks := s.toks + 1 + 1 }) (e : l.map (·.1) = Txt.split x y := by assumption) (hsz : (x.length : Int) < 1000000 := by k_dflt first | exact sl_sz (by omega) | omega) : wpAny (model prog w) A (call (.builtin "len") [.str ((l.map (·.1)).getD i Str.empty) t]) Q E s := by
  have hle : ((l.map (·.1)).getD i Str.empty).length ≤ 1000000 := by
    rw [e, List.getD_eq_getElem?_getD]
    cases hg : (Txt.split x y)[i]? with
    | none => exact Nat.zero_le _
    | some a =>
      have := part_short (List.mem_of_getElem? hg)
      show a.length ≤ _
      omega
  exact len_str (by omega) (h hle)
theorem split_le_sl {l : List (Str × Tok)} {x : Str} {i j : Option Int} {y : Str} (e : l.map (·.1) = Txt.split (Txt.slice x i j) y) : l.length ≤ x.length + 2 :=
  Nat.le_trans (len_le_of_split e) (Nat.add_le_add_right (PyProof.Txt.length_slice_le x i j) 2)
theorem splitZ {prog : Program} {w : World} {A : Around} {E : Value → Shared → Prop} {s : Shared} {h₀ : Heap} {L : Addr} {m : Str → Option Value} {news : List (Addr × Obj)} {x y : Str} {t u : Tok} {B : Nat} {Q : Value → Shared → Prop}
    (h : ∀ D l h' k, l.map (·.1) = Txt.split x y → StrsAre (strValues l) (l.map (·.1)) → Fr h₀ L h' m → News h₀ L h' ((D, W.listOf (strValues l).toArray 0) :: news) → (∀ p ∈ news, p.1 < D) → 1 ≤ l.length → l.length ≤ B → Q (.ref D) { s with heap := h', toks := k })
    (hF : Fr h₀ L s.heap m := by k_asm) (hN : News h₀ L s.heap news := by k_asm) (hy : (y.length == 0) = false := by exact rfl) (hsz : x.length + 2 ≤ sizeLine := by first | exact split_sz (by omega) | exact plain_sz (by omega) | size_fits)
    (hb : ∀ l : List (Str × Tok), l.map (·.1) = Txt.split x y → l.length ≤ B := by first | exact fun _ e => split_le_sl e | exact fun _ e => len_le_of_split e) : wpAny (model prog w) A (call (.builtin "str.split") [.str x t, .str y u]) Q E s :=
  KSpl.split1 hF hN hy (fun D l h' k e a F N o => h D l h' k e a F N o (len_of_split e) (hb l e)) hsz
end
open PySem.Spec PySem.Calls PySem.Builtin.Str
set_option hygiene false
local macro_rules | `(tactic| size_fits) => `(tactic| first | with_reducible exact sl_line (by assumption) | (simp only [PySem.Str.length_append, lits, litD, PySem.sizeLine_eq]; first | (apply Nat.le_trans; walk_at "zb"; decide) | omega))
local macro_rules | `(tactic| walk_at "call builtin:str.split") => `(tactic| (k_here; k_dflt refine splitZ ?_; intro _ _ _ _ _ _ _ _ _ _ _; (try dsimp only)))
local macro_rules | `(tactic| walk_at "call builtin:str.strip") => `(tactic| (refine SC.stripChars ?_; intro _ _))
local macro_rules | `(tactic| walk_at "call builtin:str.lstrip") => `(tactic| (refine SC.lstripChars ?_; intro _ _))
local macro_rules | `(tactic| walk_at "call builtin:str.rstrip") => `(tactic| (refine SC.rstripChars ?_; intro _ _))
local macro_rules | `(tactic| walk_at "call builtin:len") => `(tactic| (k_here; with_reducible refine len_part (fun _ => ?_)))
set_option hygiene true
section
open PySem.Spec PySem.Calls PySem.Builtin.Str
theorem tab_eq (c : Nat) : (({ cps := #[c] } : PySem.Str) != Str.ofString "\t") = (c != 9) := by
  have : Str.ofString "\t" = ⟨#[9]⟩ := by kernel_rfl
  rw [this]
  simp [bne, BEq.beq]
theorem int_127 (c : Nat) : ((c : Int) == 127) = (c == 127) := by
  by_cases h : c = 127
  · subst h; rfl
  · have h2 : ¬ (c : Int) = 127 := by omega
    rw [beq_eq_false_iff_ne.mpr h, beq_eq_false_iff_ne.mpr h2]
theorem low_a {c : Nat} (h : (c : Int) < 32) (h2 : (({ cps := #[c] } : PySem.Str) != Str.ofString "\t") = true) : (({ cps := #[c] } : PySem.Str) != Str.ofString "\t") = lowP c := by
  have h3 : c < 32 := by omega
  rw [tab_eq] at h2 ⊢
  simp [lowP, h2, h3]
theorem low_b {c : Nat} (h : (c : Int) < 32) (h2 : (({ cps := #[c] } : PySem.Str) != Str.ofString "\t") = false) : ((c : Int) == 127) = lowP c := by
  rw [tab_eq] at h2
  rw [int_127]
  simp [lowP, h2]
theorem low_c {c : Nat} (h : ¬ (c : Int) < 32) : ((c : Int) == 127) = lowP c := by
  have h3 : ¬ c < 32 := by omega
  rw [int_127]
  simp [lowP, h3]
theorem law_low_ctr (w : World) (c : Nat) (t1 : Tok) :
    Ctr w true 1 8 552 [.str ⟨#[c]⟩ t1] (fun v new _ => new = [] ∧ v = .bool (lowP c)) (fun _ => False) := by
  intro hnd p loose mean mg mb dp un gd cn cs a ccd outer A₀ base h₀ g₀ L m news tl s Q E hn0 hN5 B F X N TL T hk XB TB D T0 FS hd hu hret hx
  cases hn0 rfl
  clear hx FS
  revert X XB; unfold prog; k_fill; intro X XB
  k_go
  k_steps
  all_goals (
    refine hret _ [] tl _ _ _ ⟨rfl, ?_⟩ TL (by assumption) (by assumption) (by assumption) (by assumption) (by assumption) (by assumption) (by assumption)
    congr 1
    clear hret
    first
      | exact low_a (by assumption) (by assumption)
      | exact low_b (by assumption) (by assumption)
      | exact low_c (by assumption))
noncomputable def spotL (src : Str) (pos : Int) : Str := if pos < src.length then Str.ofString "(at line " ++ Str.ofString (toString ((Txt.split (Txt.slice src none (some pos)) (Str.ofString "\n")).length : Int)) ++ Str.ofString ", column " ++ Str.ofString (toString ((((Txt.split (Txt.slice src none (some pos)) (Str.ofString "\n")).getLastD Str.empty).length : Int) + 1)) ++ Str.ofString ")" else Str.ofString "(at end of document)"
theorem str_t {a b : Str} {t : Tok} (e : a = b) : ∃ t', Value.str a t = .str b t' := ⟨t, by rw [e]⟩
theorem spot_in {src : Str} {pos : Int} {l : List (Str × Tok)} (e : l.map (·.1) = Txt.split (Txt.slice src none (some pos)) (Str.ofString "\n")) (h1 : 1 ≤ l.length) (h : pos < src.length) :
    Str.empty ++ Str.ofString "(at line " ++ Str.ofString (toString (l.length : Int)) ++ Str.ofString ", column " ++ Str.ofString (toString ((((l.map (·.1)).getD (-1 + ((l.map (·.1)).length : Int)).toNat Str.empty).length : Int) + 1)) ++ Str.ofString ")" = spotL src pos := by
  have e2 : (l.length : Int) = ((l.map (·.1)).length : Int) := by rw [List.length_map]
  have e3 : (l.map (·.1)).getD (-1 + ((l.map (·.1)).length : Int)).toNat Str.empty = (l.map (·.1)).getLastD Str.empty := by
    have : (-1 + ((l.map (·.1)).length : Int)).toNat = (l.map (·.1)).length - 1 := by
      rw [List.length_map, show (-1 : Int) + (l.length : Int) = ((l.length - 1 : Nat) : Int) by rw [Int.ofNat_sub h1]; exact Int.add_comm _ _]; rfl
    rw [this, List.getD_eq_getElem?_getD, List.getLastD_eq_getLast?, List.getLast?_eq_getElem?]
  rw [e3, e2, e, spotL, if_pos h, PySem.Str.empty_append]
theorem spot_out {src : Str} {pos : Int} (h : ¬ pos < src.length) : Str.ofString "(at end of document)" = spotL src pos := by
  rw [spotL, if_neg h]
end
section
open PySem.Spec PySem.Calls
theorem iter_stop {prog : Program} {w : World} {A : Around} {E : Value → Shared → Prop} {v : Value} {Q : Value → Shared → Prop} {s : Shared} (h : Stop (wpAny (model prog w) A (pyIter v) Q E s)) : wpAny (model prog w) A (pyIter v) Q E s := h
theorem map_two {u : Str → Option Value} {x y : Str} {a b : Value} (h1 : u x = some a) (h2 : u y = some b) : u = fun z => if z = x then some a else if z = y then some b else u z := by
  funext z
  by_cases q : z = x
  · rw [if_pos q, q, h1]
  · by_cases q2 : z = y
    · rw [if_neg q, if_pos q2, q2, h2]
    · rw [if_neg q, if_neg q2]
noncomputable def pick (x : Str) (a b c : Int) : Int := if Str.ofString "u" = x then a else if Str.ofString "U" = x then b else c
theorem get_size {x : Str} {v : Value} {t1 t2 t3 t4 : Tok} {a b c : Int} (h : PyProof.V.Flat v ((Spec.lookup (.str x) (strData [(.str (Str.ofString "u") t1, .int a t2), (.str (Str.ofString "U") t3, .int b t4)])).getD (.int c))) (ha : 0 ≤ a ∧ a ≤ 10) (hb : 0 ≤ b ∧ b ≤ 10) (hc : 0 ≤ c ∧ c ≤ 10) : ∃ t, v = .int (pick x a b c) t ∧ 0 ≤ pick x a b c ∧ pick x a b c ≤ 10 := by
  have e : (Spec.lookup (.str x) (strData [(.str (Str.ofString "u") t1, .int a t2), (.str (Str.ofString "U") t3, .int b t4)])).getD (.int c) = .int (pick x a b c) := by
    simp only [strData, datumOf, Option.getD_some, Spec.lookup, PyProof.V.same_str, pick, decide_eq_true_eq]
    by_cases h1 : Str.ofString "u" = x
    · rw [if_pos h1, if_pos h1, Option.getD_some]
    · rw [if_neg h1, if_neg h1]
      by_cases h2 : Str.ofString "U" = x
      · rw [if_pos h2, if_pos h2, Option.getD_some]
      · rw [if_neg h2, if_neg h2, Option.getD_none]
  rw [e] at h
  obtain ⟨t, rfl⟩ := h.int_inv
  refine ⟨t, rfl, ?_⟩
  unfold pick
  split
  · exact ha
  · split
    · exact hb
    · exact hc
theorem rstrip_le {x y : Str} {i j : Option Int} (h : (x.length : Int) < 1000000) : (Txt.rstripChars (Txt.slice x i j) y).length ≤ 1000000 := by
  have h1 := len_stripBy y.cps.contains false true (Txt.slice x i j)
  have h2 := PyProof.Txt.length_slice_le x i j
  show (Txt.stripBy y.cps.contains false true (Txt.slice x i j)).length ≤ _
  omega
theorem get2Z {prog : Program} {w : World} {A : Around} {E : Value → Shared → Prop} {s : Shared} {Q : Value → Shared → Prop} {d : Addr} {D : List (PyData × PyData)} {x : Str} {t : Tok} {dflt : Value} {dd : PyData} {z : Int} (h : ∀ tS, 0 ≤ z → z ≤ 10 → Q (.int z tS) { s with toks := s.toks + 1 }) (T : StrTab prog w s.heap d D := by k_tabat) (hx : PyProof.V.Flat dflt dd := by k_flat)
    (hz : ∀ v, PyProof.V.Flat v ((Spec.lookup (.str x) D).getD dd) → ∃ t, v = .int z t ∧ 0 ≤ z ∧ z ≤ 10 := by exact fun _ h => get_size h (by decide) (by decide) (by decide)) : wpAny (model prog w) A (call (.builtin "dict.get") [.ref d, .str x t, dflt]) Q E s :=
  call_get2_strTab T hx fun v hv => by obtain ⟨t, rfl, a, b⟩ := hz v hv; exact h t a b
theorem tupZ {M : Model} {A : Around} {E : Value → Shared → Prop} {s : Shared} {h₀ : Heap} {L : Addr} {m : Str → Option Value} {news : List (Addr × Obj)} {vs : List Value} {Q : Value → Shared → Prop}
    (h : ∀ D h', Fr h₀ L h' m → News h₀ L h' ((D, tupObj vs) :: news) → (∀ p ∈ news, p.1 < D) → Q (.ref D) { s with heap := h' }) (F : Fr h₀ L s.heap m := by k_asm) (N : News h₀ L s.heap news := by k_asm) (hz : vs.length ≤ sizeLine := by kmk_size) : wpAny M A (newTuple vs) Q E s := kup_newTuple F N h hz
theorem len_rs {prog : Program} {w : World} {A : Around} {E : Value → Shared → Prop} {s : Shared} {Q : Value → Shared → Prop} {x y : Str} {i j : Option Int} {t : Tok} (h : (Txt.rstripChars (Txt.slice x i j) y).length ≤ 1000000 → Q (.int (Txt.rstripChars (Txt.slice x i j) y).length (s.toks + 1)) { s with toks := s.toks + 1 + 1 }) (hsz : (x.length : Int) < 1000000 := by assumption) : wpAny (model prog w) A (call (.builtin "len") [.str (Txt.rstripChars (Txt.slice x i j) y) t]) Q E s := by
  have := rstrip_le (y := y) (i := i) (j := j) hsz
  exact len_str (by omega) (h this)
abbrev hexes : Str := Str.ofString "0123456789abcdefABCDEF"
theorem hexes_ok : ∀ c, hexes.cps.contains c = true → hexOk c = true := by
  intro c h
  have e : hexes.cps = #[48, 49, 50, 51, 52, 53, 54, 55, 56, 57, 97, 98, 99, 100, 101, 102, 65, 66, 67, 68, 69, 70] := by kernel_rfl
  rw [e] at h
  simp only [Array.contains_iff_mem, List.mem_toArray, List.mem_cons, List.not_mem_nil, or_false] at h
  rcases h with rfl | rfl | rfl | rfl | rfl | rfl | rfl | rfl | rfl | rfl | rfl | rfl | rfl | rfl | rfl | rfl | rfl | rfl | rfl | rfl | rfl | rfl <;> rfl
theorem call_digs {prog : Program} {w : World} {A : Around} {E : Value → Shared → Prop} {s : Shared} {Q : Value → Shared → Prop} {d : Str} {z : Int} {u v : Tok} (h : Q (.int (hexVal d.cps.toList) s.toks) { s with toks := s.toks + 1 }) (hs : (Txt.stripChars d hexes != Str.ofString "") = false := by assumption) (hl : ¬ (d.length : Int) < z := by assumption) (hz : ¬ z = 0 := by assumption) (h0 : 0 ≤ z := by assumption) (hd : (d.length : Int) ≤ 640 := by exact dig_len (by assumption) (by omega)) : wpAny (model prog w) A (call (.type "int") [.str d u, .int 16 v]) Q E s := by
  refine call_hex (by omega) ?_ ?_ h
  · intro e
    have := len_list d
    rw [e] at this
    simp only [List.length_nil] at this
    omega
  · have e : Txt.stripChars d hexes = Str.ofString "" := by simpa using hs
    have e0 : Str.ofString "" = Str.empty := rfl
    rw [e0] at e
    exact fun c hc => hexes_ok c (strip_all e c hc)
noncomputable abbrev aft (src : Str) (k : Int) : Str := Txt.slice src (some (k + 1)) (some (k + 2))
noncomputable abbrev siz (src : Str) (k : Int) : Int := pick (Txt.slice src (some (k + 1)) (some (k + 2))) 4 8 0
noncomputable abbrev dig (src : Str) (k : Int) : Str := Txt.slice src (some (k + 2)) (some (k + 2 + pick (Txt.slice src (some (k + 1)) (some (k + 2))) 4 8 0))
abbrev oddB (src : Str) (k : Int) : Prop := (k - ((Txt.rstripChars (Txt.slice src none (some k)) (Str.ofString "\\")).length : Int)).fmod 2 = 1
noncomputable abbrev lets : List Str := [Str.ofString "b", Str.ofString "t", Str.ofString "n", Str.ofString "f", Str.ofString "r", Str.ofString "\"", Str.ofString "\\"]
inductive Ev1 (src : Str) (k : Int) : Option (Int × Int × Str) → Prop
  | odd : oddB src k → Ev1 src k none
  | quote : ¬ oddB src k → (Txt.item src k == Str.ofString "\"") = true → Ev1 src k (some (k, k, Str.ofString ""))
  | low : ¬ oddB src k → (Txt.item src k == Str.ofString "\"") = false → (Txt.item src k != Str.ofString "\\") = true → Sign lowP (Txt.item src k) = true → Ev1 src k (some (k, k, Str.empty ++ Str.ofString "Illegal character " ++ reprText (Txt.item src k) ++ Str.ofString " "))
  | plain : ¬ oddB src k → (Txt.item src k == Str.ofString "\"") = false → (Txt.item src k != Str.ofString "\\") = true → Sign lowP (Txt.item src k) = false → Ev1 src k none
  | badEsc : ¬ oddB src k → (Txt.item src k != Str.ofString "\\") = false → siz src k = 0 → (lets.any fun x => x == aft src k) = false → Ev1 src k (some (k, k + 2, Str.ofString "Unescaped '\\' in a string "))
  | goodEsc : ¬ oddB src k → (Txt.item src k != Str.ofString "\\") = false → siz src k = 0 → (lets.any fun x => x == aft src k) = true → Ev1 src k none
  | badHex : ¬ oddB src k → (Txt.item src k != Str.ofString "\\") = false → ¬ siz src k = 0 → (((dig src k).length : Int) < siz src k ∨ (Txt.stripChars (dig src k) hexes != Str.ofString "") = true) → Ev1 src k (some (k, k + 2, Str.ofString "Invalid hex value "))
  | noSign : ¬ oddB src k → (Txt.item src k != Str.ofString "\\") = false → ¬ siz src k = 0 → ¬ ((dig src k).length : Int) < siz src k → (Txt.stripChars (dig src k) hexes != Str.ofString "") = false → (1114111 < (hexVal (dig src k).cps.toList : Int) ∨ (55296 ≤ (hexVal (dig src k).cps.toList : Int) ∧ (hexVal (dig src k).cps.toList : Int) ≤ 57343)) → Ev1 src k (some (k, k + 2 + siz src k, Str.ofString "Escaped character is not a Unicode scalar value "))
  | fine : ¬ oddB src k → (Txt.item src k != Str.ofString "\\") = false → ¬ siz src k = 0 → ¬ ((dig src k).length : Int) < siz src k → (Txt.stripChars (dig src k) hexes != Str.ofString "") = false → ¬ (1114111 < (hexVal (dig src k).cps.toList : Int) ∨ (55296 ≤ (hexVal (dig src k).cps.toList : Int) ∧ (hexVal (dig src k).cps.toList : Int) ≤ 57343)) → Ev1 src k none
inductive EvsUpto (src : Str) : Nat → List (Int × Int × Str) → Prop
  | nil : EvsUpto src 0 []
  | more {k : Nat} {evs : List (Int × Int × Str)} {r : Option (Int × Int × Str)} : EvsUpto src k evs → Ev1 src k r → EvsUpto src (k + 1) (evs ++ r.toList)
def EvAt (led : List (Addr × Obj)) (v : Value) (e : Int × Int × Str) : Prop := ∃ T t1 t2 t3, v = .ref T ∧ (T, tupObj [.int e.1 t1, .int e.2.1 t2, .str e.2.2 t3]) ∈ led
inductive EvsAre (led : List (Addr × Obj)) : List Value → List (Int × Int × Str) → Prop
  | nil : EvsAre led [] []
  | cons {v : Value} {e : Int × Int × Str} {vs : List Value} {es : List (Int × Int × Str)} : EvAt led v e → EvsAre led vs es → EvsAre led (v :: vs) (e :: es)
theorem EvsAre.mono {l l' : List (Addr × Obj)} (h : ∀ q ∈ l, q ∈ l') {vs : List Value} {es : List (Int × Int × Str)} (H : EvsAre l vs es) : EvsAre l' vs es := by
  induction H with
  | nil => exact .nil
  | cons a _ ih => obtain ⟨T, t1, t2, t3, e, m⟩ := a; exact .cons ⟨T, t1, t2, t3, e, h _ m⟩ ih
theorem EvsAre.snoc {l : List (Addr × Obj)} {vs : List Value} {es : List (Int × Int × Str)} {v : Value} {e : Int × Int × Str} (H : EvsAre l vs es) (h : EvAt l v e) : EvsAre l (vs ++ [v]) (es ++ [e]) := by
  induction H with
  | nil => exact .cons h .nil
  | cons a _ ih => exact .cons a ih
inductive EvJ (P : Heap → Prop) (src : Str) (t1 : Tok) (Ev : Addr) (news : List (Addr × Obj)) (i : Nat) (g : Heap) (m : Str → Option Value) (led : List (Addr × Obj)) : Prop
  | mk (vs : Array Value) (n : Nat) (tups tl1 : List (Addr × Obj)) (u : Str → Option Value) (evs : List (Int × Int × Str)) (hq0 : led = (Ev, W.listOf vs n) :: (tups ++ (tl1 ++ news))) (hq1 : vs.size ≤ i) (hq2 : TabLed tl1) (hq3 : (∀ p ∈ tups ++ (tl1 ++ news), p.1 ≠ Ev)) (hq4 : (∀ p ∈ tups, p.1 ≠ 533)) (hq5 : m = (fun y => if y = Str.ofString "text" then some (.str src t1) else if y = Str.ofString "events" then some (.ref Ev) else u y)) (hq6 : EvsUpto src i evs) (hq7 : EvsAre tups vs.toList evs) (hq8 : P g) : EvJ P src t1 Ev news i g m led
section
variable {P : Heap → Prop} {src : Str} {t1 : Tok} {Ev L I T : Addr} {oI ot : Obj} {news tups tl1 X : List (Addr × Obj)} {k n tk' : Nat} {g h h' : Heap} {m' : Str → Option Value} {s : Shared} {vs : Array Value} {evs : List (Int × Int × Str)}
theorem ev_none (hs : vs.size ≤ k) (TL1 : TabLed tl1) (hnE : ∀ p ∈ tups ++ (tl1 ++ news), p.1 ≠ Ev) (hn5 : ∀ p ∈ tups, p.1 ≠ 533) (hE : EvsUpto src k evs) (hF : EvsAre tups vs.toList evs) (hP : P g) (hIE : I ≠ Ev) (hnI : ∀ p ∈ tups ++ (tl1 ++ news), p.1 ≠ I)
    (he : Ev1 src k none) (F : Fr g L h' m') (N : News g L h' X) (hI : (I, oI) ∈ X) (hX : ∀ q ∈ (Ev, W.listOf vs n) :: (tups ++ (tl1 ++ news)), q ∈ X) (hm1 : m' (Str.ofString "text") = some (.str src t1)) (hm2 : m' (Str.ofString "events") = some (.ref Ev)) :
    TurnTo L I oI [I] h s (EvJ P src t1 Ev news (k + 1)) { s with heap := h', toks := tk' } := by
  refine ⟨g, h', tk', m', _, rfl, F, fun p hp => by rw [List.mem_singleton.mp hp]; exact N _ hI, fun p hp => N p (hX p hp), ?_, fun b hb hne => absurd (List.mem_singleton.mp hb) hne, vs, n, tups, tl1, m', evs, rfl, by omega, TL1, hnE, hn5, map_two hm1 hm2, ?_, hF, hP⟩
  · intro p hp
    rcases List.mem_cons.mp hp with rfl | hp
    · exact hIE.symm
    · exact hnI p hp
  · have := EvsUpto.more hE he
    rwa [Option.toList_none, List.append_nil] at this
theorem ev_some {e : Int × Int × Str} {x1 x2 x3 : Tok} (hs : vs.size ≤ k) (TL1 : TabLed tl1) (hnE : ∀ p ∈ tups ++ (tl1 ++ news), p.1 ≠ Ev) (hn5 : ∀ p ∈ tups, p.1 ≠ 533) (hE : EvsUpto src k evs) (hF : EvsAre tups vs.toList evs) (hP : P g) (hIE : I ≠ Ev) (hnI : ∀ p ∈ tups ++ (tl1 ++ news), p.1 ≠ I)
    (he : Ev1 src k (some e)) (F : Fr g L h' m') (N : News g L h' X) (hI : (I, oI) ∈ X) (hT : (T, tupObj [.int e.1 x1, .int e.2.1 x2, .str e.2.2 x3]) ∈ X) (hTE : Ev < T) (hTI : I < T) (hT5 : 533 < T) (hX : ∀ q ∈ (Ev, W.listOf (vs.push (.ref T)) (n + 1)) :: (tups ++ (tl1 ++ news)), q ∈ X) (hm1 : m' (Str.ofString "text") = some (.str src t1)) (hm2 : m' (Str.ofString "events") = some (.ref Ev)) :
    TurnTo L I oI [I] h s (EvJ P src t1 Ev news (k + 1)) { s with heap := h', toks := tk' } := by
  refine ⟨g, h', tk', m', (Ev, W.listOf (vs.push (.ref T)) (n + 1)) :: (((T, tupObj [.int e.1 x1, .int e.2.1 x2, .str e.2.2 x3]) :: tups) ++ (tl1 ++ news)), rfl, F, fun p hp => by rw [List.mem_singleton.mp hp]; exact N _ hI, fun p hp => N p ?_, ?_, fun b hb hne => absurd (List.mem_singleton.mp hb) hne, _, _, _, tl1, m', _, rfl, ?_, TL1, ?_, ?_, map_two hm1 hm2, EvsUpto.more hE he, ?_, hP⟩
  · rcases List.mem_cons.mp hp with rfl | hp
    · exact hX _ (.head _)
    · rcases List.mem_cons.mp hp with rfl | hp
      · exact hT
      · exact hX _ (.tail _ hp)
  · intro p hp
    rcases List.mem_cons.mp hp with rfl | hp
    · exact hIE.symm
    · rcases List.mem_cons.mp hp with rfl | hp
      · exact Nat.ne_of_gt hTI
      · exact hnI p hp
  · rw [Array.size_push]; omega
  · intro p hp
    rcases List.mem_cons.mp hp with rfl | hp
    · exact Nat.ne_of_gt hTE
    · exact hnE p hp
  · intro p hp
    rcases List.mem_cons.mp hp with rfl | hp
    · exact Nat.ne_of_gt hT5
    · exact hn5 p hp
  · rw [Array.toList_push]
    exact (hF.mono fun q hq => .tail _ hq).snoc ⟨T, x1, x2, x3, rfl, .head _⟩
end
theorem mid_ne {x : Addr} {tups tl0 tl1 news : List (Addr × Obj)} (h : ∀ p ∈ tups ++ (tl0 ++ news), p.1 ≠ x) (h1 : ∀ p ∈ tl1, p.1 ≠ x) : ∀ p ∈ tups ++ (tl1 ++ news), p.1 ≠ x := by
  intro p hp
  rcases List.mem_append.mp hp with hp | hp
  · exact h p (List.mem_append_left _ hp)
  · rcases List.mem_append.mp hp with hp | hp
    · exact h1 p hp
    · exact h p (List.mem_append_right _ (List.mem_append_right _ hp))
theorem ne_533' {x : Addr} {tups tl news : List (Addr × Obj)} (TL : TabLed tl) (h : ∀ p ∈ tups ++ (tl ++ news), p.1 ≠ x) : x ≠ 533 := by
  obtain ⟨o, ho⟩ := tabled_mem TL
  exact fun e => h (533, o) (List.mem_append_right _ (List.mem_append_left _ ho)) e.symm
theorem lt_533 {D : Addr} {a c tl : List (Addr × Obj)} (TL : TabLed tl) (h : AllLt D (a ++ (tl ++ c))) : 533 < D := by
  obtain ⟨o, ho⟩ := tabled_mem TL
  exact ktn_ltOf h (533, o) (List.mem_append_right _ (List.mem_append_left _ ho))
theorem tab_ne {g h : Heap} {L x : Addr} {o : Obj} {X tl : List (Addr × Obj)} (N : News g L h X) (hx : (x, o) ∈ X) (ht : ∀ p ∈ tl, p ∈ X) (TL : TabLed tl) (h5 : x ≠ 533) (ho : ∀ vs t, o.data = .fields vs → vs[1]? ≠ some (.str (Str.ofString "suffixed_err.<locals>.coord_repr") t)) : ∀ p ∈ tl, p.1 ≠ x := by
  intro p hp e
  rcases TL with rfl | ⟨c', oc, vs, t, rfl, h1, h2, h3⟩
  · rw [List.mem_singleton.mp hp] at e
    exact h5 e.symm
  · rcases List.mem_cons.mp hp with rfl | hp
    · exact h5 e.symm
    · rw [List.mem_singleton.mp hp] at e
      have a1 := (N _ hx).1
      have a2 := (N _ (ht (c', oc) (.tail _ (.head _)))).1
      have e' : c' = x := e
      dsimp only at a1 a2
      rw [e', a1] at a2
      have := Option.some.inj a2
      subst this
      exact ho vs t h1 h2
theorem list_no {its : Array Value} {n : Nat} : ∀ vs t, (W.listOf its n).data = .fields vs → vs[1]? ≠ some (.str (Str.ofString "suffixed_err.<locals>.coord_repr") t) := fun _ _ h => nomatch h
theorem range_no {o : Obj} (h : ∃ a b c, o.data = .fields #[rawInt a, rawInt b, rawInt c]) : ∀ vs t, o.data = .fields vs → vs[1]? ≠ some (.str (Str.ofString "suffixed_err.<locals>.coord_repr") t) := fun vs t e => by
  obtain ⟨a, b, c, h⟩ := h
  rw [h] at e
  cases e
  exact fun q => nomatch q
theorem five {I Ev : Addr} {oI oE : Obj} {tups tl news : List (Addr × Obj)} (TL : TabLed tl) (hI : ∀ p ∈ tups ++ (tl ++ news), p.1 ≠ I) (hE : ∀ p ∈ tups ++ (tl ++ news), p.1 ≠ Ev) (h1 : ∀ p ∈ tups, p.1 ≠ 533) (h2 : ∀ q ∈ news, q.1 ≠ 533) : ∀ q ∈ (I, oI) :: (Ev, oE) :: (tups ++ news), q.1 ≠ 533 := by
  obtain ⟨o, ho⟩ := tabled_mem TL
  have hm : (533, o) ∈ tups ++ (tl ++ news) := List.mem_append_right _ (List.mem_append_left _ ho)
  intro q hq
  rcases List.mem_cons.mp hq with rfl | hq
  · exact fun e => hI _ hm e.symm
  · rcases List.mem_cons.mp hq with rfl | hq
    · exact fun e => hE _ hm e.symm
    · rcases List.mem_append.mp hq with hq | hq
      · exact h1 q hq
      · exact h2 q hq
theorem news_pick {g h : Heap} {L : Addr} {d i e : Addr × Obj} {tups tl news : List (Addr × Obj)} (N : News g L h (d :: i :: e :: (tups ++ (tl ++ news)))) : News g L h (tl ++ (i :: e :: (tups ++ news))) := fun q hq => N q (by
  simp only [List.mem_append, List.mem_cons] at hq ⊢
  rcases hq with h | h | h | h | h <;> simp [h])
theorem news_back {g h : Heap} {L : Addr} {i e : Addr × Obj} {tups tl news : List (Addr × Obj)} (N : News g L h (tl ++ (i :: e :: (tups ++ news)))) : News g L h (i :: e :: (tups ++ (tl ++ news))) := fun q hq => N q (by
  simp only [List.mem_append, List.mem_cons] at hq ⊢
  rcases hq with h | h | h | h | h <;> simp [h])
theorem dig_len {x : Str} {i z : Int} (h : z ≤ 10) (h0 : 0 ≤ i ∧ 0 ≤ z) : ((Txt.slice x (some i) (some (i + z))).length : Int) ≤ 640 := by
  obtain ⟨h0, h1⟩ := h0
  obtain ⟨a, rfl⟩ := Int.eq_ofNat_of_zero_le h0
  obtain ⟨k, rfl⟩ := Int.eq_ofNat_of_zero_le h1
  show ((Txt.slice x (some (a : Int)) (some ((a + k : Nat) : Int))).length : Int) ≤ 640
  rw [← len_list, slice_ss, List.length_take, Nat.add_sub_cancel_left]
  exact Int.le_trans (Int.ofNat_le.mpr (Nat.min_le_left ..)) (Int.le_trans h (by decide))
end
section
open PySem.Spec PySem.Calls
theorem str_append_empty (x : Str) : x ++ Str.empty = x := by
  obtain ⟨⟨l⟩⟩ := x
  show (⟨(⟨l⟩ : Array Nat) ++ #[]⟩ : Str) = _
  simp
def bs1 : Str := Str.ofString "\\"
noncomputable def bs2 : Str := Str.ofString "\\\\"
noncomputable def shortOf (x : Str) : Option Str :=
  if Str.ofString "b" = x then some (Str.ofString "\x08") else if Str.ofString "t" = x then some (Str.ofString "\t") else if Str.ofString "n" = x then some (Str.ofString "\n")
  else if Str.ofString "f" = x then some (Str.ofString "\x0c") else if Str.ofString "r" = x then some (Str.ofString "\r") else if Str.ofString "\"" = x then some (Str.ofString "\"") else none
noncomputable abbrev readZ (p : Str) : Int := pick (Txt.item p 0) 5 9 1
def PieceOk (p : Str) : Prop := 1 ≤ p.length ∧ ((1 < readZ p ∧ (Txt.slice p (some 1) (some (readZ p))).cps.toList ≠ [] ∧ (∀ c ∈ (Txt.slice p (some 1) (some (readZ p))).cps.toList, hexOk c = true) ∧ hexVal (Txt.slice p (some 1) (some (readZ p))).cps.toList ≤ 1114111) ∨ (¬ 1 < readZ p ∧ ∃ y, shortOf (Txt.item p 0) = some y))
noncomputable def readPiece (p : Str) : Str := (if 1 < readZ p then ⟨#[hexVal (Txt.slice p (some 1) (some (readZ p))).cps.toList]⟩ else (shortOf (Txt.item p 0)).getD Str.empty) ++ Txt.slice p (some (readZ p)) none
noncomputable def readRest : List Str → Str
  | [] => Str.empty
  | p :: r => readPiece p ++ readRest r
noncomputable def readPart (x : Str) : Str := match Txt.split x bs1 with
  | [] => Str.empty
  | p :: r => p ++ readRest r
noncomputable def readT (x : Str) : Str := Str.join bs1 ((Txt.split x bs2).map readPart)
theorem readZ_bd (p : Str) : 1 ≤ readZ p ∧ readZ p ≤ 9 := by
  unfold readZ pick
  split
  · decide
  · split <;> decide
theorem short_look {x y : Str} {t1 t2 t3 t4 t5 t6 t7 t8 t9 t10 t11 t12 : Tok} (h : shortOf x = some y) :
    Spec.lookup (.str x) (strData [(.str (Str.ofString "b") t1, .str (Str.ofString "\x08") t2), (.str (Str.ofString "t") t3, .str (Str.ofString "\t") t4), (.str (Str.ofString "n") t5, .str (Str.ofString "\n") t6), (.str (Str.ofString "f") t7, .str (Str.ofString "\x0c") t8), (.str (Str.ofString "r") t9, .str (Str.ofString "\r") t10), (.str (Str.ofString "\"") t11, .str (Str.ofString "\"") t12)]) = some (.str y) := by
  simp only [strData, datumOf, Option.getD_some, Spec.lookup, PyProof.V.same_str, decide_eq_true_eq]
  unfold shortOf at h
  by_cases q0 : Str.ofString "b" = x
  · rw [if_pos q0] at h ⊢; rw [← Option.some.inj h]
  rw [if_neg q0] at h ⊢
  by_cases q1 : Str.ofString "t" = x
  · rw [if_pos q1] at h ⊢; rw [← Option.some.inj h]
  rw [if_neg q1] at h ⊢
  by_cases q2 : Str.ofString "n" = x
  · rw [if_pos q2] at h ⊢; rw [← Option.some.inj h]
  rw [if_neg q2] at h ⊢
  by_cases q3 : Str.ofString "f" = x
  · rw [if_pos q3] at h ⊢; rw [← Option.some.inj h]
  rw [if_neg q3] at h ⊢
  by_cases q4 : Str.ofString "r" = x
  · rw [if_pos q4] at h ⊢; rw [← Option.some.inj h]
  rw [if_neg q4] at h ⊢
  by_cases q5 : Str.ofString "\"" = x
  · rw [if_pos q5] at h ⊢; rw [← Option.some.inj h]
  rw [if_neg q5] at h ⊢
  cases h
theorem piece_len {p : Str} (h : PieceOk p) : (readPiece p).length ≤ p.length := by
  obtain ⟨h1, h2⟩ := h
  have hz := readZ_bd p
  have hr : (Txt.slice p (some (readZ p)) none).length ≤ p.length - 1 := by
    obtain ⟨z, hz'⟩ := Int.eq_ofNat_of_zero_le (show 0 ≤ readZ p by omega)
    rw [hz', ← len_list, slice_sn, List.length_drop, len_list]
    omega
  unfold readPiece
  rw [PySem.Str.length_append]
  have h3 : (if 1 < readZ p then (⟨#[hexVal (Txt.slice p (some 1) (some (readZ p))).cps.toList]⟩ : Str) else (shortOf (Txt.item p 0)).getD Str.empty).length ≤ 1 := by
    split
    · exact Nat.le_refl _
    · unfold shortOf
      repeat' (split; · exact Nat.le_of_ble_eq_true (by kernel_rfl))
      exact Nat.zero_le _
  omega
theorem rest_len : ∀ {l : List Str}, (∀ p ∈ l, PieceOk p) → (readRest l).length ≤ (l.map (·.length)).sum
  | [], _ => Nat.le_refl _
  | p :: r, h => by
    show (readPiece p ++ readRest r).length ≤ _
    rw [PySem.Str.length_append, List.map_cons, List.sum_cons]
    have a := piece_len (h p (List.mem_cons_self ..))
    have b := rest_len (l := r) (fun q hq => h q (List.mem_cons_of_mem _ hq))
    omega
theorem rest_snoc : ∀ (l : List Str) (p : Str), readRest (l ++ [p]) = readRest l ++ readPiece p
  | [], p => by
    show readPiece p ++ Str.empty = Str.empty ++ readPiece p
    rw [PySem.Str.empty_append, str_append_empty]
  | q :: r, p => by
    show readPiece q ++ readRest (r ++ [p]) = (readPiece q ++ readRest r) ++ readPiece p
    rw [rest_snoc r p, PySem.Str.append_assoc]
end
section
open PySem.Spec PySem.Calls
theorem piece_short {q : Str} (h : PieceOk q) (hz : ¬ 1 < pick (Txt.item q 0) 5 9 1) : shortOf (Txt.item q 0) = some ((shortOf (Txt.item q 0)).getD Str.empty) := by
  rcases h.2 with ⟨h1, _⟩ | ⟨_, y, hy⟩
  · exact absurd h1 hz
  · rw [hy]; rfl
theorem short_le {x : Str} {t : Tok} {d : PyData} (_ : PyProof.V.Flat (.str ((shortOf x).getD Str.empty) t) d) : ((shortOf x).getD Str.empty).length ≤ 1 := by
  unfold shortOf
  repeat' (split; · exact Nat.le_of_ble_eq_true (by kernel_rfl))
  exact Nat.zero_le _
theorem sum_take_le : ∀ (l : List Str) (i : Nat), ((l.take i).map (·.length)).sum ≤ (l.map (·.length)).sum
  | [], i => by simp
  | a :: l, 0 => by simp
  | a :: l, i + 1 => by
    have := sum_take_le l i
    simp only [List.take_succ_cons, List.map_cons, List.sum_cons]
    omega
def RdI (g0 : Heap) (P : Str) (S : List Str) (Rd : Addr) (led0 : List (Addr × Obj)) (i : Nat) (g : Heap) (m : Str → Option Value) (led : List (Addr × Obj)) : Prop :=
  g = g0 ∧ led = led0 ∧ ∃ (t : Tok) (u : Str → Option Value), (P ++ readRest (S.take i)).length ≤ 1000000 ∧ m = fun y => if y = Str.ofString "out" then some (.str (P ++ readRest (S.take i)) t) else if y = Str.ofString "read" then some (.ref Rd) else u y
theorem rest_bd {P : Str} {S : List Str} (hS : ∀ q ∈ S, PieceOk q) (hW : P.length + (S.map (·.length)).sum ≤ 1000000) (i : Nat) : (P ++ readRest (S.take i)).length ≤ 1000000 := by
  rw [PySem.Str.length_append]
  have h1 := rest_len (l := S.take i) (fun q hq => hS q (List.mem_of_mem_take hq))
  have h2 := sum_take_le S i
  omega
theorem take_one {S : List Str} {j : Nat} {q : Str} (h : S[j]? = some q) : readRest (S.take (j + 1)) = readRest (S.take j) ++ readPiece q := by
  rw [List.take_add_one, h, Option.toList_some, rest_snoc]
theorem rd_turn {g0 : Heap} {P : Str} {S : List Str} {Rd L I D : Addr} {oI oD : Obj} {led0 X : List (Addr × Obj)} {j tk' : Nat} {q X' : Str} {t : Tok} {h h' : Heap} {m' : Str → Option Value} {s : Shared} (hS : ∀ q ∈ S, PieceOk q) (hW : P.length + (S.map (·.length)).sum ≤ 1000000) (hq : S[j]? = some q) (hX' : X' = readPiece q)
    (F : Fr g0 L h' m') (N : News g0 L h' X) (N0 : News g0 L h led0) (hI : (I, oI) ∈ X) (hX : ∀ p ∈ led0, p ∈ X) (hD : (D, oD) ∈ led0) (hne : ∀ p ∈ led0, p.1 ≠ I) (hm1 : m' (Str.ofString "out") = some (.str (P ++ readRest (S.take j) ++ X') t)) (hm2 : m' (Str.ofString "read") = some (.ref Rd)) :
    TurnTo L I oI [I, D] h s (RdI g0 P S Rd led0 (j + 1)) { s with heap := h', toks := tk' } := by
  subst hX'
  rw [PySem.Str.append_assoc, ← take_one hq] at hm1
  refine ⟨g0, h', tk', m', led0, rfl, F, fun p hp => by rw [List.mem_singleton.mp hp]; exact N _ hI, fun p hp => N p (hX p hp), hne, ?_, rfl, rfl, t, m', rest_bd hS hW _, map_two hm1 hm2⟩
  intro b hb hbI o ho
  rcases List.mem_cons.mp hb with rfl | hb
  · exact absurd rfl hbI
  · rw [List.mem_singleton.mp hb] at ho ⊢
    have a1 := (N0 _ hD).1
    have a2 := (N _ (hX _ hD)).1
    dsimp only at a1 a2
    rw [a1] at ho
    rw [a2, ← ho]
theorem pick_tail (l : List (Str × Tok)) (h : 1 ≤ l.length) : slicePick (strValues l).toArray (some 1) none none = (strValues l.tail).toArray := by
  have hl : (strValues l).toArray.size = l.length := by simp [strValues]
  have e : sliceBounds (some 1) none none (strValues l).toArray.size = (((1 : Nat) : Int), ((l.length : Nat) : Int), 1) := by
    rw [hl]
    unfold sliceBounds
    simp
    rw [Int.min_eq_left (show (1 : Int) ≤ (l.length : Int) from Int.ofNat_le.mpr h)]; rfl
  rw [kmk_pick_nat _ e]
  congr 1
  cases l with
  | nil => simp at h
  | cons a r =>
    simp only [strValues, List.map_cons, List.length_cons, List.drop_succ_cons, List.drop_zero, List.tail_cons, Nat.add_sub_cancel]
    exact List.take_of_length_le (by simp)
end
section
open PySem.Spec PySem.Calls
theorem strs_item {l : List (Str × Tok)} {j : Nat} {v : Value} (h : (strValues l).toArray[j]? = some v) : ∃ q t, v = .str q t ∧ (l.map (·.1))[j]? = some q := by
  simp only [strValues, List.getElem?_toArray, List.getElem?_map] at h
  cases hl : l[j]? with
  | none => rw [hl] at h; cases h
  | some p =>
    rw [hl] at h
    refine ⟨p.1, p.2, (Option.some.inj h).symm, ?_⟩
    rw [List.getElem?_map, hl]; rfl
theorem part_weight {x : Str} {y0 : Str} (h : (Txt.split x bs1)[0]? = some y0) (hx : (x.length : Int) ≤ 999999) : y0.length + ((Txt.split x bs1).tail.map (·.length)).sum ≤ 1000000 := by
  have hw := split_weight x bs1 (by decide)
  cases hs : Txt.split x bs1 with
  | nil => rw [hs] at h; cases h
  | cons a r =>
    rw [hs] at h hw
    have : a = y0 := by simpa using h
    subst this
    simp only [List.map_cons, List.sum_cons, List.tail_cons] at hw ⊢
    omega
end
section
open PySem.Spec PySem.Calls
theorem strs_snoc {y : Str} {t : Tok} : ∀ {vs : List Value} {ys : List Str}, StrsAre vs ys → StrsAre (vs ++ [.str y t]) (ys ++ [y])
  | _, _, .nil => .cons y t .nil
  | _, _, .cons z u r => .cons z u (strs_snoc r)
theorem news_sw2 {g h : Heap} {L : Addr} {a b : Addr × Obj} {l : List (Addr × Obj)} (N : News g L h (a :: b :: l)) : News g L h (b :: a :: l) := fun q hq => N q (by
  simp only [List.mem_cons] at hq ⊢
  rcases hq with h | h | h <;> simp [h])
def RdO (g0 : Heap) (ps : List Str) (Rd : Addr) (rest : List (Addr × Obj)) (i : Nat) (g : Heap) (m : Str → Option Value) (led : List (Addr × Obj)) : Prop :=
  g = g0 ∧ ∃ (rs : Array Value) (n : Nat) (u : Str → Option Value), led = (Rd, W.listOf rs n) :: rest ∧ (∀ p ∈ rest, p.1 ≠ Rd) ∧ rs.size ≤ i ∧ StrsAre rs.toList ((ps.take i).map readPart) ∧ m = (fun y => if y = Str.ofString "read" then some (.ref Rd) else u y)
theorem rd_outer {g0 : Heap} {ps : List Str} {Rd L I D : Addr} {oI oD oR : Obj} {rest X : List (Addr × Obj)} {i n tk' : Nat} {x Y : Str} {t : Tok} {rs : Array Value} {h h' : Heap} {m' : Str → Option Value} {s : Shared}
    (hRd : ∀ p ∈ (D, oD) :: rest, p.1 ≠ Rd) (hrs : rs.size ≤ i) (hS : StrsAre rs.toList ((ps.take i).map readPart)) (hx : ps[i]? = some x) (hY : Y = readPart x)
    (F : Fr g0 L h' m') (N : News g0 L h' X) (hD : h.get? D = some oD) (hI : (I, oI) ∈ X) (hR : (Rd, W.listOf (rs.push (.str Y t)) (n + 1)) ∈ X) (hX : ∀ p ∈ (D, oD) :: rest, p ∈ X) (hne : ∀ p ∈ (Rd, oR) :: (D, oD) :: rest, p.1 ≠ I) (hm : m' (Str.ofString "read") = some (.ref Rd)) :
    TurnTo L I oI [I, D] h s (RdO g0 ps Rd ((D, oD) :: rest) (i + 1)) { s with heap := h', toks := tk' } := by
  subst hY
  refine ⟨g0, h', tk', m', (Rd, W.listOf (rs.push (.str (readPart x) t)) (n + 1)) :: (D, oD) :: rest, rfl, F, fun p hp => by rw [List.mem_singleton.mp hp]; exact N _ hI, fun p hp => N p ?_, ?_, ?_, rfl, _, _, m', rfl, hRd, ?_, ?_, ?_⟩
  · rcases List.mem_cons.mp hp with rfl | hp
    · exact hR
    · exact hX p hp
  · intro p hp
    rcases List.mem_cons.mp hp with rfl | hp
    · exact hne (Rd, oR) (.head _)
    · exact hne p (.tail _ hp)
  · intro b hb hbI o ho
    rcases List.mem_cons.mp hb with rfl | hb
    · exact absurd rfl hbI
    · rw [List.mem_singleton.mp hb] at ho ⊢
      have a2 := (N _ (hX _ (.head _))).1
      dsimp only at a2 ho
      rw [hD] at ho
      rw [a2, ← ho]
  · rw [Array.size_push]; omega
  · rw [Array.toList_push, List.take_add_one, hx, Option.toList_some, List.map_append]
    exact strs_snoc hS
  · funext y
    by_cases q : y = Str.ofString "read"
    · rw [if_pos q, q, hm]
    · rw [if_neg q]
theorem read_whole {x y0 : Str} (h : (Txt.split x bs1)[0]? = some y0) {n : Nat} (hn : (Txt.split x bs1).tail.length ≤ n) : y0 ++ readRest ((Txt.split x bs1).tail.take n) = readPart x := by
  unfold readPart
  rw [List.take_of_length_le hn]
  cases hs : Txt.split x bs1 with
  | nil => rw [hs] at h; cases h
  | cons a r =>
    rw [hs] at h
    have : a = y0 := by simpa using h
    subst this
    rfl
theorem part_len {x : Str} (hok : ∀ q ∈ (Txt.split x bs1).tail, PieceOk q) : (readPart x).length ≤ x.length := by
  have hw := split_weight x bs1 (by decide)
  unfold readPart
  cases hs : Txt.split x bs1 with
  | nil => exact Nat.zero_le _
  | cons a r =>
    rw [hs] at hw hok
    dsimp only
    rw [PySem.Str.length_append]
    have := rest_len (l := r) (fun q hq => hok q hq)
    simp only [List.map_cons, List.sum_cons, List.length_cons] at hw
    omega
theorem parts_sum : ∀ {l : List Str}, (∀ x ∈ l, (readPart x).length ≤ x.length) → ((l.map readPart).map (·.length)).sum ≤ (l.map (·.length)).sum
  | [], _ => Nat.le_refl _
  | a :: l, h => by
    have h1 := h a (List.mem_cons_self ..)
    have h2 := parts_sum (l := l) (fun x hx => h x (List.mem_cons_of_mem _ hx))
    simp only [List.map_cons, List.sum_cons]
    omega
theorem join_fits {src : Str} (hsz : (src.length : Int) < 1000000) (hok : ∀ x ∈ Txt.split src bs2, ∀ q ∈ (Txt.split x bs1).tail, PieceOk q) : (((Txt.split src bs2).map readPart).map (·.length)).sum + ((Txt.split src bs2).map readPart).length * bs1.length ≤ 16777216 := by
  have hw := split_weight src bs2 (by decide)
  have h1 := parts_sum (l := Txt.split src bs2) (fun x hx => part_len (hok x hx))
  rw [List.length_map, show bs1.length = 1 from rfl]
  omega
end
section
open PySem.Spec PySem.Calls
def tx (l : List Nat) : Str := ⟨l.toArray⟩
theorem tx_list (x : Str) : tx x.cps.toList = x := by
  obtain ⟨⟨l⟩⟩ := x; rfl
theorem list_tx (l : List Nat) : (tx l).cps.toList = l := rfl
theorem tx_app (a b : List Nat) : tx (a ++ b) = tx a ++ tx b := by
  show (⟨(a ++ b).toArray⟩ : Str) = ⟨a.toArray ++ b.toArray⟩
  rw [List.append_toArray]
theorem tx_inj {a b : List Nat} (h : tx a = tx b) : a = b := by
  have := congrArg (fun x : Str => x.cps.toList) h
  exact this
theorem str_of_list {x : Str} {l : List Nat} (h : x.cps.toList = l) : x = tx l := by rw [← h, tx_list]
theorem split_tx (l : List Nat) (y : Str) (hy : 1 ≤ y.length) (hk : PySem.Builtin.Str.strKind y = 1) : Txt.split (tx l) y = (spl y.cps.toList 0 [] l).map tx := by
  rw [← list_tx l, ← split_spl _ y hy hk, list_tx, List.map_map]
  conv => lhs; rw [← List.map_id (Txt.split (tx l) y)]
  exact List.map_congr_left fun x _ => (tx_list x).symm
def TokOk (t : List Nat) (v : Nat) : Prop := t ≠ [] ∧ (∀ d ∈ t, d ≠ 92) ∧ ∀ p, PieceOk (tx (t ++ p)) ∧ readPiece (tx (t ++ p)) = tx (v :: p)
inductive Dec : List Nat → List Nat → Prop
  | nil : Dec [] []
  | plain {c : Nat} {l o : List Nat} : c ≠ 92 → Dec l o → Dec (c :: l) (c :: o)
  | back {l o : List Nat} : Dec l o → Dec (92 :: 92 :: l) (92 :: o)
  | esc {t : List Nat} {v : Nat} {l o : List Nat} : TokOk t v → Dec l o → Dec (92 :: (t ++ l)) (v :: o)
noncomputable abbrev sp1 (l : List Nat) : List (List Nat) := spl [92] 0 [] l
noncomputable abbrev sp2 (l : List Nat) : List (List Nat) := spl [92, 92] 0 [] l
theorem spl_ne (y : List Nat) : ∀ (l : List Nat) (k : Nat) (cur : List Nat), spl y k cur l ≠ []
  | [], k, cur => by rw [spl_nil]; simp
  | c :: l, 0, cur => by
    rw [spl]; split
    · simp
    · exact spl_ne y l 0 _
  | c :: l, k + 1, cur => by rw [spl]; exact spl_ne y l k cur
theorem spl_plain {y : List Nat} (hy : y.head? = some 92) {c : Nat} (hc : c ≠ 92) (l : List Nat) : spl y 0 [] (c :: l) = hdApp [c] (spl y 0 [] l) := by
  have : ¬ (y.isPrefixOf (c :: l) = true) := by
    cases y with
    | nil => cases hy
    | cons b y' =>
      simp only [List.head?_cons, Option.some.injEq] at hy
      subst hy
      simp only [List.isPrefixOf, Bool.and_eq_true, beq_iff_eq]
      exact fun h => hc h.1.symm
  rw [spl, if_neg this, spl_cur, List.nil_append]
theorem spl_free {y : List Nat} (hy : y.head? = some 92) (l : List Nat) : ∀ t : List Nat, (∀ d ∈ t, d ≠ 92) → spl y 0 [] (t ++ l) = hdApp t (spl y 0 [] l)
  | [], _ => by
    obtain ⟨a, r, e⟩ := List.exists_cons_of_ne_nil (spl_ne y l 0 [])
    rw [List.nil_append, e]; rfl
  | c :: t, h => by
    rw [List.cons_append, spl_plain hy (h c (List.mem_cons_self ..)), spl_free hy l t (fun d hd => h d (List.mem_cons_of_mem _ hd)), hdApp_app]; rfl
theorem sp1_back (l : List Nat) : sp1 (92 :: l) = [] :: sp1 l := by
  show spl [92] 0 [] (92 :: l) = _
  rw [spl, if_pos (by simp [List.isPrefixOf])]; rfl
theorem sp2_back (l : List Nat) : sp2 (92 :: 92 :: l) = [] :: sp2 l := by
  show spl [92, 92] 0 [] (92 :: 92 :: l) = _
  rw [spl, if_pos (by simp [List.isPrefixOf])]
  rfl
theorem sp2_one {t : List Nat} (h : ∀ d ∈ t, d ≠ 92) (h0 : t ≠ []) (l : List Nat) : sp2 (92 :: (t ++ l)) = hdApp (92 :: t) (sp2 l) := by
  obtain ⟨e, t', rfl⟩ := List.exists_cons_of_ne_nil h0
  have he := h e (List.mem_cons_self ..)
  show spl [92, 92] 0 [] (92 :: (e :: t' ++ l)) = _
  rw [spl, if_neg (by simp [List.isPrefixOf]; exact fun q => he q.symm), spl_cur, spl_free rfl l (e :: t') h, hdApp_app]
  rfl
theorem readPart_tx (l : List Nat) : readPart (tx l) = match (sp1 l).map tx with
  | [] => Str.empty
  | p :: r => p ++ readRest r := by
  rw [readPart, split_tx l bs1 (by decide) (by decide +kernel)]
  rfl
theorem readPart_nil : readPart (tx []) = tx [] := by
  rw [readPart_tx]; rfl
theorem readPart_plain {c : Nat} (hc : c ≠ 92) (l : List Nat) : readPart (tx (c :: l)) = tx [c] ++ readPart (tx l) := by
  rw [readPart_tx, readPart_tx, sp1, spl_plain rfl hc]
  obtain ⟨a, r, e⟩ := List.exists_cons_of_ne_nil (spl_ne [92] l 0 [])
  rw [sp1, e]
  show tx ([c] ++ a) ++ readRest _ = tx [c] ++ (tx a ++ readRest _)
  rw [tx_app, PySem.Str.append_assoc]
theorem readPart_esc {t : List Nat} {v : Nat} (h : TokOk t v) (l : List Nat) : readPart (tx (92 :: (t ++ l))) = tx [v] ++ readPart (tx l) := by
  rw [readPart_tx, readPart_tx, sp1_back]
  show tx [] ++ readRest ((spl [92] 0 [] (t ++ l)).map tx) = _
  rw [spl_free rfl l t h.2.1]
  obtain ⟨a, r, e⟩ := List.exists_cons_of_ne_nil (spl_ne [92] l 0 [])
  rw [sp1, e]
  show tx [] ++ (readPiece (tx (t ++ a)) ++ readRest (r.map tx)) = tx [v] ++ (tx a ++ readRest (r.map tx))
  rw [(h.2.2 a).2, show tx (v :: a) = tx [v] ++ tx a from tx_app [v] a, PySem.Str.append_assoc]
  exact PySem.Str.empty_append _
theorem join_app (sep p a : Str) (r : List Str) : Str.join sep ((p ++ a) :: r) = p ++ Str.join sep (a :: r) := by
  cases r with
  | nil => rfl
  | cons b r =>
    show p ++ a ++ sep ++ Str.join sep (b :: r) = p ++ (a ++ sep ++ Str.join sep (b :: r))
    rw [PySem.Str.append_assoc, PySem.Str.append_assoc, PySem.Str.append_assoc]
noncomputable abbrev jn (P : List (List Nat)) : Str := Str.join bs1 (P.map fun l => readPart (tx l))
theorem dec_join {l o : List Nat} (h : Dec l o) : jn (sp2 l) = tx o := by
  induction h with
  | nil => exact readPart_nil
  | @plain c l o hc _ ih =>
    rw [sp2, spl_plain rfl hc]
    obtain ⟨a, r, e⟩ := List.exists_cons_of_ne_nil (spl_ne [92, 92] l 0 [])
    rw [sp2, e] at ih
    rw [e]
    show Str.join bs1 (readPart (tx (c :: a)) :: r.map _) = _
    rw [readPart_plain hc, join_app]
    exact (congrArg _ ih).trans (tx_app [c] o).symm
  | @back l o _ ih =>
    rw [sp2_back]
    obtain ⟨a, r, e⟩ := List.exists_cons_of_ne_nil (spl_ne [92, 92] l 0 [])
    rw [sp2, e] at ih ⊢
    show readPart (tx []) ++ bs1 ++ Str.join bs1 (readPart (tx a) :: r.map _) = _
    rw [readPart_nil]
    exact (congrArg (fun z => tx [] ++ bs1 ++ z) ih).trans (tx_app [92] o).symm
  | @esc t v l o ht _ ih =>
    rw [sp2_one ht.2.1 ht.1]
    obtain ⟨a, r, e⟩ := List.exists_cons_of_ne_nil (spl_ne [92, 92] l 0 [])
    rw [sp2, e] at ih ⊢
    show Str.join bs1 (readPart (tx (92 :: (t ++ a))) :: r.map _) = _
    rw [readPart_esc ht, join_app]
    exact (congrArg _ ih).trans (tx_app [v] o).symm
theorem dec_read {l o : List Nat} (h : Dec l o) : readT (tx l) = tx o := by
  rw [readT, split_tx l bs2 (by decide) (by decide +kernel), List.map_map]
  exact dec_join h
theorem tl_hd (p : List Nat) (l : List (List Nat)) : (hdApp p l).tail = l.tail := by cases l <;> rfl
theorem dec_ok {l o : List Nat} (h : Dec l o) : ∀ a ∈ sp2 l, ∀ q ∈ (sp1 a).tail, PieceOk (tx q) := by
  induction h with
  | nil =>
    intro a ha q hq
    rw [sp2, spl_nil] at ha
    rw [List.mem_singleton.mp ha, sp1, spl_nil] at hq
    cases hq
  | @plain c l o hc _ ih =>
    rw [sp2, spl_plain rfl hc]
    obtain ⟨a, r, e⟩ := List.exists_cons_of_ne_nil (spl_ne [92, 92] l 0 [])
    rw [sp2, e] at ih
    rw [e]
    intro b hb q hq
    rcases List.mem_cons.mp hb with rfl | hb
    · rw [sp1, List.singleton_append, spl_plain rfl hc, tl_hd] at hq
      exact ih a (List.mem_cons_self ..) q hq
    · exact ih b (List.mem_cons_of_mem _ hb) q hq
  | @back l o _ ih =>
    rw [sp2_back]
    intro b hb q hq
    rcases List.mem_cons.mp hb with rfl | hb
    · rw [sp1, spl_nil] at hq
      cases hq
    · exact ih b hb q hq
  | @esc t v l o ht _ ih =>
    rw [sp2_one ht.2.1 ht.1]
    obtain ⟨a, r, e⟩ := List.exists_cons_of_ne_nil (spl_ne [92, 92] l 0 [])
    rw [sp2, e] at ih
    rw [sp2, e]
    intro b hb q hq
    rcases List.mem_cons.mp hb with rfl | hb
    · rw [List.cons_append, sp1_back, List.tail_cons, sp1, spl_free rfl a t ht.2.1] at hq
      obtain ⟨p, ps, e2⟩ := List.exists_cons_of_ne_nil (spl_ne [92] a 0 [])
      rw [e2] at hq
      rcases List.mem_cons.mp hq with rfl | hq
      · exact (ht.2.2 p).1
      · exact ih a (List.mem_cons_self ..) q (by rw [sp1, e2]; exact hq)
    · exact ih b (List.mem_cons_of_mem _ hb) q hq
theorem dec_pieces {l o : List Nat} (h : Dec l o) : ∀ x ∈ Txt.split (tx l) bs2, ∀ q ∈ (Txt.split x bs1).tail, PieceOk q := by
  rw [split_tx l bs2 (by decide) (by decide +kernel)]
  intro x hx q hq
  obtain ⟨a, ha, rfl⟩ := List.mem_map.mp hx
  rw [split_tx a bs1 (by decide) (by decide +kernel), ← List.map_tail] at hq
  obtain ⟨b, hb, rfl⟩ := List.mem_map.mp hq
  exact dec_ok h a ha b hb
end
section
open PySem.Spec PySem.Calls PySem.StrLaws PySem.Builtin.Str
theorem nl_step (c : Nat) (l cur : List Nat) : spl [10] 0 cur (c :: l) = if c = 10 then cur :: spl [10] 0 [] l else spl [10] 0 (cur ++ [c]) l := by
  rw [spl]
  by_cases h : c = 10
  · subst h; rw [if_pos (by simp [List.isPrefixOf]), if_pos rfl]; rfl
  · rw [if_neg (by simp [List.isPrefixOf]; exact fun q => h q.symm), if_neg h]
theorem nl_len : ∀ (l cur : List Nat), (spl [10] 0 cur l).length = l.count 10 + 1
  | [], cur => by rw [spl_nil]; rfl
  | c :: l, cur => by
    rw [nl_step, List.count_cons]
    by_cases h : c = 10
    · rw [if_pos h, List.length_cons, nl_len l []]; simp [h]
    · rw [if_neg h, nl_len l _]; simp [h]
theorem nl_none : ∀ (l cur : List Nat), 10 ∉ l → spl [10] 0 cur l = [cur ++ l]
  | [], cur, _ => by rw [spl_nil]; simp
  | c :: l, cur, h => by
    rw [nl_step, if_neg (fun e => h (by simp [e])), nl_none l _ (fun m => h (List.mem_cons_of_mem _ m))]
    simp
theorem nl_last : ∀ (a cur l : List Nat), 10 ∉ l → (spl [10] 0 cur (a ++ 10 :: l)).getLastD [] = l
  | [], cur, l, h => by
    rw [List.nil_append, nl_step, if_pos rfl, nl_none l [] h]; rfl
  | c :: a, cur, l, h => by
    rw [List.cons_append, nl_step]
    split
    · have := nl_last a [] l h
      obtain ⟨b, r, e⟩ := List.exists_cons_of_ne_nil (spl_ne [10] (a ++ 10 :: l) 0 [])
      rw [e] at this ⊢
      simpa using this
    · exact nl_last a _ l h
theorem getLastD_map (f : List Nat → Str) (l : List (List Nat)) (h : l ≠ []) (d : Str) : (l.map f).getLastD d = f (l.getLastD []) := by
  obtain ⟨a, r, rfl⟩ := List.exists_cons_of_ne_nil h
  simp [List.getLastD_eq_getLast?, List.getLast?_map, List.getLast?_cons]
theorem tx_len (l : List Nat) : (tx l).length = l.length := rfl
theorem spot_eq {src M : Str} {pos : Int} (h0 : 0 ≤ pos) : M ++ Str.ofString " " ++ spotL src pos = sfxT src pos M := by
  obtain ⟨n, rfl⟩ := Int.eq_ofNat_of_zero_le h0
  unfold sfxT spotW spotL
  by_cases h : (n : Int) < src.length
  · have hnl := Int.ofNat_lt.mp h
    rw [if_pos h, if_neg (Int.not_le.mpr h)]
    have e1 : Txt.slice src none (some (n : Int)) = tx (src.cps.toList.take n) := str_of_list (slice_ns src n)
    rw [e1, split_tx _ _ (by decide) (by decide +kernel)]
    have e2 : (Str.ofString "\n").cps.toList = [10] := by kernel_rfl
    rw [e2, getLastD_map tx _ (spl_ne _ _ _ _), tx_len, List.length_map, nl_len]
    have hl : ((((spl [10] 0 [] (src.cps.toList.take n)).getLastD []).length : Int) + 1) = colW src n := by
      unfold colW
      rw [Int.toNat_natCast]
      cases hk : lastNl src n with
      | none =>
        have hno : 10 ∉ src.cps.toList.take n := by
          intro hm
          obtain ⟨i, hi, e⟩ := List.getElem_of_mem hm
          rw [List.length_take, len_list] at hi
          refine last_none (x := src) (y := ⟨#[10]⟩) (lo := 0) (hi := min n src.length) hk i (Nat.zero_le _) ((at_one (Nat.min_le_right ..)).mpr ⟨hi, ?_⟩)
          rw [List.getElem_take] at e
          rw [List.getElem?_eq_getElem (by rw [len_list]; exact Nat.lt_of_lt_of_le hi (Nat.min_le_right ..)), e]
        rw [nl_none _ _ hno, List.nil_append]
        show (((src.cps.toList.take n).length : Nat) : Int) + 1 = _
        rw [List.length_take, len_list, Nat.min_eq_left (Nat.le_of_lt hnl)]
      | some k =>
        obtain ⟨hA, _, hn⟩ := last_some hk
        obtain ⟨hk1, hk2⟩ := (at_one (Nat.min_le_right ..)).mp hA
        have hkl : k < (src.cps.toList.take n).length := by rw [List.length_take, len_list]; exact hk1
        have hkv : (src.cps.toList.take n)[k] = 10 := by
          rw [List.getElem_take]
          rw [List.getElem?_eq_getElem (by rw [len_list]; exact Nat.lt_of_lt_of_le hk1 (Nat.min_le_right ..))] at hk2
          exact Option.some.inj hk2
        have hT : src.cps.toList.take n = (src.cps.toList.take n).take k ++ 10 :: (src.cps.toList.take n).drop (k + 1) := by
          conv => lhs; rw [← List.take_append_drop k (src.cps.toList.take n), List.drop_eq_getElem_cons hkl, hkv]
        have hno : 10 ∉ (src.cps.toList.take n).drop (k + 1) := by
          intro hm
          obtain ⟨i, hi, e⟩ := List.getElem_of_mem hm
          rw [List.length_drop, List.length_take, len_list] at hi
          rw [List.getElem_drop, List.getElem_take] at e
          have hki := Nat.add_lt_of_lt_sub' hi
          refine hn (k + 1 + i) (Nat.le_add_right (k + 1) i) ((at_one (Nat.min_le_right ..)).mpr ⟨hki, ?_⟩)
          rw [List.getElem?_eq_getElem (by rw [len_list]; exact Nat.lt_of_lt_of_le hki (Nat.min_le_right ..)), e]
        rw [hT, nl_last _ _ _ hno, List.length_drop, List.length_take, len_list]
        dsimp only
        have hkn : k < n := Nat.lt_of_lt_of_le hk1 (Nat.min_le_left ..)
        rw [Nat.min_eq_left (Nat.le_of_lt hnl), ← Int.ofNat_sub (Nat.le_of_lt hkn)]
        exact congrArg Nat.cast (Nat.sub_add_cancel (Nat.sub_pos_of_lt hkn))
    rw [hl]
    have el : (((src.cps.toList.take n).count 10 + 1 : Nat) : Int) = lineW src n := by
      unfold lineW; rw [Int.toNat_natCast]; push_cast; rfl
    rw [el]
    simp only [PySem.Str.append_assoc]
    congr 1
    have q1 : Str.ofString " " ++ (Str.ofString "(at line " : Str) = Str.ofString " (at " ++ Str.ofString "line " := by decide +kernel
    rw [← PySem.Str.append_assoc, q1, PySem.Str.append_assoc]
  · rw [if_neg h, if_pos (Int.not_lt.mp h), PySem.Str.append_assoc, PySem.Str.append_assoc, PySem.Str.append_assoc]
    congr 1
end
section
open PySem.Spec PySem.Calls PySem.StrLaws PySem.Builtin.Str
noncomputable def bsl (l : List Nat) (k : Nat) : Nat := ((l.take k).reverse.takeWhile (· == 92)).length
theorem bsl_step {l : List Nat} {k c : Nat} (h : l[k]? = some c) : bsl l (k + 1) = if c = 92 then bsl l k + 1 else 0 := by
  unfold bsl
  rw [List.take_add_one, h, Option.toList_some, List.reverse_append, List.reverse_singleton, List.singleton_append, List.takeWhile_cons]
  by_cases e : c = 92
  · subst e; simp
  · rw [if_neg e]; simp [e]
theorem bsl_le (l : List Nat) (k : Nat) : bsl l k ≤ k := by
  unfold bsl
  have h1 := (List.takeWhile_prefix (l := (l.take k).reverse) (fun x => x == 92)).length_le
  rw [List.length_reverse, List.length_take] at h1
  omega
theorem bs_one : Str.ofString "\\" = ⟨#[92]⟩ := by kernel_rfl
theorem bs_contains : (Str.ofString "\\").cps.contains = fun c => c == 92 := by
  rw [bs_one]
  funext c
  show (#[92] : Array Nat).contains c = (c == 92)
  rw [Bool.eq_iff_iff]
  simp [Array.contains_iff_mem]
theorem odd_iff {src : Str} {k : Nat} (h : k ≤ src.length) : oddB src (k : Int) ↔ bsl src.cps.toList k % 2 = 1 := by
  have e : (Txt.rstripChars (Txt.slice src none (some (k : Int))) (Str.ofString "\\")).length = k - bsl src.cps.toList k := by
    show (Txt.stripBy (Str.ofString "\\").cps.contains false true _).length = _
    rw [rstrip_len, bs_contains, slice_ns, ← len_list, slice_ns, List.length_take, len_list, Nat.min_eq_left h]
    rfl
  unfold oddB
  rw [e]
  have hb := bsl_le src.cps.toList k
  rw [show (k : Int) - ((k - bsl src.cps.toList k : Nat) : Int) = (bsl src.cps.toList k : Int) by omega, Int.fmod_eq_emod_of_nonneg _ (by decide)]
  omega
section
variable {src : Str} {k : Int} {r : Option (Int × Int × Str)}
theorem ev_odd (ho : oddB src k) (h : Ev1 src k r) : r = none := by
  cases h with
  | odd => rfl
  | plain => rfl
  | goodEsc => rfl
  | fine => rfl
  | quote h => exact absurd ho h
  | low h => exact absurd ho h
  | badEsc h => exact absurd ho h
  | badHex h => exact absurd ho h
  | noSign h => exact absurd ho h
theorem tt {b : Bool} (h1 : b = true) (h2 : b = false) : False := by rw [h1] at h2; cases h2
theorem ev_plain (e1 : (Txt.item src k == Str.ofString "\"") = false) (e2 : (Txt.item src k != Str.ofString "\\") = true) (e3 : Sign lowP (Txt.item src k) = false) (h : Ev1 src k r) : r = none := by
  cases h with
  | odd => rfl
  | plain => rfl
  | goodEsc => rfl
  | fine => rfl
  | quote _ h => exact (tt h e1).elim
  | low _ _ _ h => exact (tt h e3).elim
  | badEsc _ h => exact (tt e2 h).elim
  | badHex _ h => exact (tt e2 h).elim
  | noSign _ h => exact (tt e2 h).elim
theorem ev_quote (ho : ¬ oddB src k) (e1 : (Txt.item src k == Str.ofString "\"") = true) (e2 : (Txt.item src k != Str.ofString "\\") = true) (h : Ev1 src k r) : r = some (k, k, Str.ofString "") := by
  cases h with
  | odd h => exact absurd h ho
  | plain _ h => exact (tt e1 h).elim
  | goodEsc _ h => exact (tt e2 h).elim
  | fine _ h => exact (tt e2 h).elim
  | quote => rfl
  | low _ h => exact (tt e1 h).elim
  | badEsc _ h => exact (tt e2 h).elim
  | badHex _ h => exact (tt e2 h).elim
  | noSign _ h => exact (tt e2 h).elim
theorem ev_low (ho : ¬ oddB src k) (e1 : (Txt.item src k == Str.ofString "\"") = false) (e2 : (Txt.item src k != Str.ofString "\\") = true) (e3 : Sign lowP (Txt.item src k) = true) (h : Ev1 src k r) : r = some (k, k, Str.empty ++ Str.ofString "Illegal character " ++ reprText (Txt.item src k) ++ Str.ofString " ") := by
  cases h with
  | odd h => exact absurd h ho
  | plain _ _ _ h => exact (tt e3 h).elim
  | goodEsc _ h => exact (tt e2 h).elim
  | fine _ h => exact (tt e2 h).elim
  | quote _ h => exact (tt h e1).elim
  | low => rfl
  | badEsc _ h => exact (tt e2 h).elim
  | badHex _ h => exact (tt e2 h).elim
  | noSign _ h => exact (tt e2 h).elim
variable (ho : ¬ oddB src k) (e1 : (Txt.item src k == Str.ofString "\"") = false) (e2 : (Txt.item src k != Str.ofString "\\") = false)
include ho e1 e2
theorem ev_badEsc (z : siz src k = 0) (a : (lets.any fun x => x == aft src k) = false) (h : Ev1 src k r) : r = some (k, k + 2, Str.ofString "Unescaped '\\' in a string ") := by
  cases h with
  | odd h => exact absurd h ho
  | plain _ _ h => exact (tt h e2).elim
  | goodEsc _ _ _ h => exact (tt h a).elim
  | fine _ _ h => exact absurd z h
  | quote _ h => exact (tt h e1).elim
  | low _ _ h => exact (tt h e2).elim
  | badEsc => rfl
  | badHex _ _ h => exact absurd z h
  | noSign _ _ h => exact absurd z h
theorem ev_goodEsc (z : siz src k = 0) (a : (lets.any fun x => x == aft src k) = true) (h : Ev1 src k r) : r = none := by
  cases h with
  | odd h => exact absurd h ho
  | plain _ _ h => exact (tt h e2).elim
  | goodEsc => rfl
  | fine => rfl
  | quote _ h => exact (tt h e1).elim
  | low _ _ h => exact (tt h e2).elim
  | badEsc _ _ _ h => exact (tt a h).elim
  | badHex _ _ h => exact absurd z h
  | noSign _ _ h => exact absurd z h
theorem ev_badHex (z : ¬ siz src k = 0) (a : ((dig src k).length : Int) < siz src k ∨ (Txt.stripChars (dig src k) hexes != Str.ofString "") = true) (h : Ev1 src k r) : r = some (k, k + 2, Str.ofString "Invalid hex value ") := by
  cases h with
  | odd h => exact absurd h ho
  | plain _ _ h => exact (tt h e2).elim
  | goodEsc _ _ h => exact absurd h z
  | fine _ _ _ h h' => exact (a.elim h fun q => tt q h').elim
  | quote _ h => exact (tt h e1).elim
  | low _ _ h => exact (tt h e2).elim
  | badEsc _ _ h => exact absurd h z
  | badHex => rfl
  | noSign _ _ _ h h' => exact (a.elim h fun q => tt q h').elim
theorem ev_noSign (z : ¬ siz src k = 0) (a : ¬ ((dig src k).length : Int) < siz src k) (b : (Txt.stripChars (dig src k) hexes != Str.ofString "") = false) (c : 1114111 < (hexVal (dig src k).cps.toList : Int) ∨ (55296 ≤ (hexVal (dig src k).cps.toList : Int) ∧ (hexVal (dig src k).cps.toList : Int) ≤ 57343)) (h : Ev1 src k r) : r = some (k, k + 2 + siz src k, Str.ofString "Escaped character is not a Unicode scalar value ") := by
  cases h with
  | odd h => exact absurd h ho
  | plain _ _ h => exact (tt h e2).elim
  | goodEsc _ _ h => exact absurd h z
  | fine _ _ _ _ _ h => exact absurd c h
  | quote _ h => exact (tt h e1).elim
  | low _ _ h => exact (tt h e2).elim
  | badEsc _ _ h => exact absurd h z
  | badHex _ _ _ h => exact (h.elim a fun q => tt q b).elim
  | noSign => rfl
theorem ev_fine (z : ¬ siz src k = 0) (a : ¬ ((dig src k).length : Int) < siz src k) (b : (Txt.stripChars (dig src k) hexes != Str.ofString "") = false) (c : ¬ (1114111 < (hexVal (dig src k).cps.toList : Int) ∨ (55296 ≤ (hexVal (dig src k).cps.toList : Int) ∧ (hexVal (dig src k).cps.toList : Int) ≤ 57343))) (h : Ev1 src k r) : r = none := by
  cases h with
  | odd h => exact absurd h ho
  | plain _ _ h => exact (tt h e2).elim
  | goodEsc => rfl
  | fine => rfl
  | quote _ h => exact (tt h e1).elim
  | low _ _ h => exact (tt h e2).elim
  | badEsc _ _ h => exact absurd h z
  | badHex _ _ _ h => exact (h.elim a fun q => tt q b).elim
  | noSign _ _ _ _ _ h => exact absurd h c
end
theorem hexes_eq : ∀ c, hexes.cps.contains c = hexOk c := fun c => (Array.contains_toList (xs := hexes.cps)).symm.trans (set_p (L := hexes.cps.toList) (p := hexOk) (by decide +kernel) (by decide +kernel) (fun c h => by
  simp only [hexOk, Bool.or_eq_false_iff, Bool.and_eq_false_iff, decide_eq_false_iff_not]
  exact ⟨⟨.inr (by omega), .inr (by omega)⟩, .inr (by omega)⟩) c)
theorem strip_none {x : Str} {g : Nat → Bool} (h : ∀ c ∈ x.cps.toList, g c = true) : Txt.stripBy g true true x = Str.empty := by
  have e : x.cps.toList.takeWhile g = x.cps.toList := tw_all _ h
  refine str_of_list (l := []) ?_
  rw [W.stripBy_eq]
  unfold W.stripped
  rw [sub_list]
  simp only [if_true]
  rw [e, List.drop_length, List.take_nil]
end
section
open PySem.Spec PySem.Calls PySem.StrLaws PySem.Builtin.Str
theorem slI {src : Str} {i a b : Nat} : Txt.slice src (some ((i : Int) + (a : Nat))) (some ((i : Int) + (b : Nat))) = tx ((src.cps.toList.drop (i + a)).take (b - a)) := by
  refine str_of_list ((slice_ss src (i + a) (i + b)).trans ?_)
  rw [Nat.add_sub_add_left]
theorem tx_ne {a b : List Nat} (h : a ≠ b) : tx a ≠ tx b := fun e => h (tx_inj e)
theorem tx_beq (a b : List Nat) : (tx a == tx b) = (a == b) := by
  rw [Bool.eq_iff_iff, beq_iff_eq, beq_iff_eq]
  exact ⟨tx_inj, fun h => by rw [h]⟩
theorem st_u : Str.ofString "u" = tx [117] := by kernel_rfl
theorem st_U : Str.ofString "U" = tx [85] := by kernel_rfl
theorem st_bu : Str.ofString "\\u" = tx [92, 117] := by kernel_rfl
theorem st_bU : Str.ofString "\\U" = tx [92, 85] := by kernel_rfl
theorem st_q : Str.ofString "\"" = tx [34] := by kernel_rfl
theorem st_b : Str.ofString "\\" = tx [92] := by kernel_rfl
theorem st_lets : lets = [tx [98], tx [116], tx [110], tx [102], tx [114], tx [34], tx [92]] := by
  have h1 : Str.ofString "b" = tx [98] := by kernel_rfl
  have h2 : Str.ofString "t" = tx [116] := by kernel_rfl
  have h3 : Str.ofString "n" = tx [110] := by kernel_rfl
  have h4 : Str.ofString "f" = tx [102] := by kernel_rfl
  have h5 : Str.ofString "r" = tx [114] := by kernel_rfl
  show [_, _, _, _, _, _, _] = _
  rw [h1, h2, h3, h4, h5, st_q, st_b]
theorem pick_tx (l : List Nat) (a b c : Int) : pick (tx l) a b c = if l = [117] then a else if l = [85] then b else c := by
  unfold pick
  rw [st_u, st_U]
  by_cases h : l = [117]
  · rw [if_pos h, if_pos (by rw [h])]
  · rw [if_neg h, if_neg (tx_ne fun e => h e.symm)]
    by_cases h2 : l = [85]
    · rw [if_pos h2, if_pos (by rw [h2])]
    · rw [if_neg h2, if_neg (tx_ne fun e => h2 e.symm)]
def EscBad (src : Str) (i : Nat) : Prop := ∃ (pl : Int) (M : Str), 0 ≤ pl ∧ escChar src i = .error (sfxT src pl M) ∧ (∀ r, Ev1 src i r → r = some ((i : Int), pl, M ++ Str.ofString " ")) ∧ 1 ≤ M.length
def EscGood (src : Str) (i : Nat) (R : List Nat) : Prop := ∃ (t R' : List Nat) (v : Nat), R = t ++ R' ∧ escChar src i = .ok ((i : Int) + 1 + t.length, tx [v]) ∧ (∀ r, Ev1 src i r → r = none) ∧ ((t = [92] ∧ v = 92) ∨ (TokOk t v ∧ ∃ e ds, t = e :: ds ∧ e ≠ 92 ∧ ∀ d ∈ ds, hexOk d = true))
theorem hexOk_ne {d : Nat} (h : hexOk d = true) : d ≠ 92 ∧ d ≠ 34 ∧ lowP d = false := by
  have key : ∀ d, d < 128 → hexOk d = true → d ≠ 92 ∧ d ≠ 34 ∧ lowP d = false := by decide +kernel
  by_cases q : d < 128
  · exact key d q h
  · unfold hexOk at h; simp at h; omega
theorem scalar_iff {v : Nat} : scalarP v = true ↔ ¬ (1114111 < (v : Int) ∨ (55296 ≤ (v : Int) ∧ (v : Int) ≤ 57343)) := by
  unfold scalarP; simp; omega
theorem strip_hex (D : List Nat) : (Txt.stripChars (tx D) hexes != Str.ofString "") = !(D.all hexOk) := by
  have h0 : Str.ofString "" = Str.empty := rfl
  have hc : hexes.cps.contains = hexOk := funext hexes_eq
  show (Txt.stripBy hexes.cps.contains true true (tx D) != Str.ofString "") = _
  rw [hc, h0]
  cases ha : D.all hexOk with
  | true =>
    rw [strip_none (x := tx D) (fun c hm => List.all_eq_true.mp ha c hm)]
    simp
  | false =>
    by_cases hz : Txt.stripBy hexOk true true (tx D) = Str.empty
    · have := strip_all hz
      rw [List.all_eq_true.mpr (show ∀ c ∈ D, hexOk c = true from this)] at ha
      cases ha
    · simp [hz]
theorem tok_hex {e : Nat} {ds : List Nat} {z : Nat} (he : (e = 117 ∧ z = 4) ∨ (e = 85 ∧ z = 8)) (hl : ds.length = z) (hx : ∀ d ∈ ds, hexOk d = true) (hv : hexVal ds ≤ 1114111) : TokOk (e :: ds) (hexVal ds) := by
  refine ⟨by simp, ?_, fun p => ?_⟩
  · intro d hd
    rcases List.mem_cons.mp hd with rfl | hd
    · rcases he with ⟨rfl, _⟩ | ⟨rfl, _⟩ <;> decide
    · exact (hexOk_ne (hx d hd)).1
  · have hi : Txt.item (tx (e :: ds ++ p)) 0 = tx [e] := item_at (i := 0) (by rfl)
    have hz : readZ (tx (e :: ds ++ p)) = (z : Int) + 1 := by
      unfold readZ
      rw [hi, pick_tx]
      rcases he with ⟨rfl, rfl⟩ | ⟨rfl, rfl⟩ <;> simp
    have hz3 : 0 < z := by rcases he with ⟨_, h⟩ | ⟨_, h⟩ <;> (rw [h]; decide)
    have hz4 : (1 : Int) < (z : Int) + 1 := Int.ofNat_lt.mpr (Nat.succ_lt_succ hz3)
    have hs : Txt.slice (tx (e :: ds ++ p)) (some 1) (some (readZ (tx (e :: ds ++ p)))) = tx ds := by
      refine str_of_list ?_
      rw [hz, slice_ssI _ (j := (z : Int) + 1) (by decide) (Int.natCast_nonneg (z + 1)), list_tx, show ((z : Int) + 1).toNat = z + 1 from rfl]
      show (ds ++ p).take z = ds
      rw [← hl, List.take_left']
      rfl
    refine ⟨⟨?_, .inl ⟨by rw [hz]; exact hz4, ?_, ?_, ?_⟩⟩, ?_⟩
    · rw [tx_len]; simp
    · rw [hs, list_tx]; intro q; rw [q] at hl; exact Nat.ne_of_gt hz3 hl.symm
    · rw [hs, list_tx]; exact hx
    · rw [hs, list_tx]; exact hv
    · unfold readPiece
      rw [if_pos (by rw [hz]; exact hz4), hs, hz]
      have ht : Txt.slice (tx (e :: ds ++ p)) (some ((z : Int) + 1)) none = tx p := by
        refine str_of_list ?_
        rw [show (z : Int) + 1 = ((z + 1 : Nat) : Int) by push_cast; rfl, slice_sn, list_tx]
        show (ds ++ p).drop z = p
        rw [← hl, List.drop_left']
        rfl
      rw [ht]
      show tx [hexVal ds] ++ tx p = tx ([hexVal ds] ++ p)
      rw [tx_app]
theorem tok_let {e v : Nat} (h : shortOf (tx [e]) = some (tx [v])) (h1 : e ≠ 117) (h2 : e ≠ 85) (h3 : e ≠ 92) : TokOk [e] v := by
  refine ⟨by simp, ?_, fun p => ?_⟩
  · intro d hd
    rw [List.mem_singleton.mp hd]; exact h3
  · have hi : Txt.item (tx ([e] ++ p)) 0 = tx [e] := item_at (i := 0) (by rfl)
    have hz : readZ (tx ([e] ++ p)) = 1 := by
      unfold readZ
      rw [hi, pick_tx, if_neg (by simpa using h1), if_neg (by simpa using h2)]
    refine ⟨⟨by rw [tx_len]; simp, .inr ⟨by rw [hz]; decide, _, by rw [hi]; exact h⟩⟩, ?_⟩
    unfold readPiece
    rw [if_neg (by rw [hz]; decide), hi, h, hz]
    have ht : Txt.slice (tx ([e] ++ p)) (some 1) none = tx p := str_of_list (slice_sn _ 1)
    rw [ht]
    show tx [v] ++ tx p = tx ([v] ++ p)
    rw [tx_app]
section
variable {src : Str} {i : Nat} {R : List Nat}
theorem drop_more (h : src.cps.toList.drop i = 92 :: R) (k : Nat) : src.cps.toList.drop (i + (k + 1)) = R.drop k := by
  rw [← List.drop_drop, h, List.drop_succ_cons]
theorem at_back (h : src.cps.toList.drop i = 92 :: R) : src.cps.toList[i]? = some 92 := by
  have := congrArg (fun l => l[0]?) h
  simpa using this
theorem aft_tx (h : src.cps.toList.drop i = 92 :: R) : aft src (i : Int) = tx (R.take 1) := by
  have := slI (src := src) (i := i) (a := 1) (b := 2)
  rw [drop_more h 0] at this
  exact this
theorem id2_tx (h : src.cps.toList.drop i = 92 :: R) : Txt.slice src (some (i : Int)) (some ((i : Int) + 2)) = tx (92 :: R.take 1) := by
  have := slI (src := src) (i := i) (a := 0) (b := 2)
  rw [Nat.add_zero, h] at this
  simpa using this
theorem dig_tx (h : src.cps.toList.drop i = 92 :: R) (z : Nat) (hz : siz src (i : Int) = z) : dig src (i : Int) = tx ((R.drop 1).take z) := by
  show Txt.slice src (some ((i : Int) + 2)) (some ((i : Int) + 2 + siz src (i : Int))) = _
  rw [hz]
  have := slI (src := src) (i := i) (a := 2) (b := 2 + z)
  rw [drop_more h 1, Nat.add_sub_cancel_left] at this
  rw [← this, show (i : Int) + 2 + (z : Int) = (i : Int) + ((2 + z : Nat) : Int) from Int.add_assoc _ _ _]
  rfl
theorem esc_all (hd : src.cps.toList.drop i = 92 :: R) (ho : ¬ oddB src (i : Int)) : EscBad src i ∨ EscGood src i R := by
  have hit := item_at (at_back hd)
  have e1 : (Txt.item src (i : Int) == Str.ofString "\"") = false := by rw [hit, st_q]; exact tx_beq [92] [34]
  have e2 : (Txt.item src (i : Int) != Str.ofString "\\") = false := by rw [hit, st_b]; show (!(tx [92] == tx [92])) = false; rw [tx_beq]; rfl
  have hs : siz src (i : Int) = if R.take 1 = [117] then 4 else if R.take 1 = [85] then 8 else 0 := by
    show pick (aft src (i : Int)) 4 8 0 = _
    rw [aft_tx hd, pick_tx]
  have hexpart : ∀ (e z : Nat) (R' : List Nat), R = e :: R' → ((e = 117 ∧ z = 4) ∨ (e = 85 ∧ z = 8)) → siz src (i : Int) = z → escChar src (i : Int) = hexChar src ((i : Int) + 2) z → EscBad src i ∨ EscGood src i R := by
    intro e z R' hR he hz hc
    have hz1 : 1 ≤ z := by rcases he with ⟨_, h⟩ | ⟨_, h⟩ <;> (rw [h]; decide)
    have hdg : dig src (i : Int) = tx (R'.take z) := by rw [dig_tx hd z hz, hR]; rfl
    have hdr : (src.cps.toList.drop ((i : Int) + 2).toNat).take (z : Int).toNat = R'.take z := by
      rw [show ((i : Int) + 2).toNat = i + (1 + 1) from rfl, drop_more hd 1, hR]
      rfl
    have hle : (R'.take z).length ≤ z := List.length_take_le z R'
    have hz0 : ¬ siz src (i : Int) = 0 := by rw [hz]; exact fun q => Nat.ne_of_gt hz1 (Int.natCast_eq_zero.mp q)
    by_cases hb : (R'.take z).length < z ∨ (R'.take z).all hexOk = false
    · refine .inl ⟨(i : Int) + 2, Str.ofString "Invalid hex value", Int.natCast_nonneg (i + 2), ?_, ?_, by decide +kernel⟩
      · rw [hc]
        unfold hexChar
        dsimp only
        rw [hdr, if_pos]
        rcases hb with hb | hb
        · exact .inl fun q => Nat.ne_of_lt hb (Int.ofNat.inj q)
        · exact .inr hb
      · intro r hr
        refine (ev_badHex ho e1 e2 hz0 ?_ hr).trans ?_
        · rw [hdg, hz, tx_len, strip_hex]
          rcases hb with hb | hb
          · exact .inl (Int.ofNat_lt.mpr hb)
          · exact .inr (by rw [hb]; rfl)
        · congr 3
    · have hb1 : (R'.take z).length = z := Nat.le_antisymm hle (Nat.le_of_not_lt fun q => hb (.inl q))
      have hb2 : (R'.take z).all hexOk = true := by
        cases q : (R'.take z).all hexOk with
        | true => rfl
        | false => exact absurd (.inr q) hb
      have hA : ¬ ((dig src (i : Int)).length : Int) < siz src (i : Int) := by rw [hdg, hz, tx_len]; exact fun q => Nat.not_lt_of_le (Nat.le_of_eq hb1.symm) (Int.ofNat_lt.mp q)
      have hB : (Txt.stripChars (dig src (i : Int)) hexes != Str.ofString "") = false := by rw [hdg, strip_hex, hb2]; rfl
      have hV : (dig src (i : Int)).cps.toList = R'.take z := by rw [hdg]; rfl
      have hnb : ¬ (((R'.take z).length : Int) ≠ (z : Int) ∨ (R'.take z).all hexOk = false) := by
        rw [hb2]; rintro (q | q)
        · exact q (congrArg Nat.cast hb1)
        · cases q
      by_cases hsc : scalarP (hexVal (R'.take z)) = true
      · refine .inr ⟨e :: R'.take z, R'.drop z, hexVal (R'.take z), by rw [hR, List.cons_append, List.take_append_drop], ?_, ?_, .inr ⟨tok_hex he hb1 (fun d hm => List.all_eq_true.mp hb2 d hm) ?_, e, _, rfl, ?_, fun d hm => List.all_eq_true.mp hb2 d hm⟩⟩
        · rw [hc]
          unfold hexChar
          dsimp only
          rw [hdr, if_neg hnb, if_pos hsc]
          rw [List.length_cons, hb1, show (i : Int) + 2 + (z : Int) = (i : Int) + 1 + ((z + 1 : Nat) : Int) from congrArg Nat.cast (Nat.add_right_comm (i + 1) 1 z)]
          rfl
        · intro r hr
          exact ev_fine ho e1 e2 hz0 hA hB (by rw [hV]; exact scalar_iff.mp hsc) hr
        · have := scalar_iff.mp hsc
          exact Nat.le_of_not_lt fun q => this (.inl (Int.ofNat_lt.mpr q))
        · rcases he with ⟨h, _⟩ | ⟨h, _⟩ <;> (rw [h]; decide)
      · refine .inl ⟨(i : Int) + 2 + z, Str.ofString "Escaped character is not a Unicode scalar value", Int.natCast_nonneg (i + 2 + z), ?_, ?_, by decide +kernel⟩
        · rw [hc]
          unfold hexChar
          dsimp only
          rw [hdr, if_neg hnb, if_neg hsc]
        · intro r hr
          refine (ev_noSign ho e1 e2 hz0 hA hB ?_ hr).trans ?_
          · rw [hV]
            rw [scalar_iff] at hsc
            exact Decidable.not_not.mp hsc
          · rw [hz]; congr 3
  have hplain : ∀ v, escOf (Txt.slice src (some (i : Int)) (some ((i : Int) + 2))) = v → ¬ R.take 1 = [117] → ¬ R.take 1 = [85] → escChar src (i : Int) = match v with
      | some c => .ok ((i : Int) + 2, ⟨#[c]⟩)
      | none => .error (sfxT src ((i : Int) + 2) (Str.ofString "Unescaped '\\' in a string")) := by
    intro v hv h1 h2
    unfold escChar
    dsimp only
    rw [hv, id2_tx hd, st_bu, st_bU, if_neg (tx_ne fun q => h1 (List.cons.inj q).2), if_neg (tx_ne fun q => h2 (List.cons.inj q).2)]
    try (cases v <;> rfl)
  have hbadE : (siz src (i : Int) = 0) → (lets.any fun x => x == aft src (i : Int)) = false → escOf (Txt.slice src (some (i : Int)) (some ((i : Int) + 2))) = none → ¬ R.take 1 = [117] → ¬ R.take 1 = [85] → EscBad src i := by
    intro z a v h1 h2
    refine ⟨(i : Int) + 2, Str.ofString "Unescaped '\\' in a string", Int.natCast_nonneg (i + 2), hplain _ v h1 h2, fun r hr => (ev_badEsc ho e1 e2 z a hr).trans ?_, by decide +kernel⟩
    congr 3
  have hgoodE : ∀ (e v : Nat) (R' : List Nat), R = e :: R' → e ≠ 117 → e ≠ 85 → (lets.any fun x => x == tx [e]) = true → escOf (tx [92, e]) = some v → ((e = 92 ∧ v = 92) ∨ (e ≠ 92 ∧ shortOf (tx [e]) = some (tx [v]))) → EscGood src i R := by
    intro e v R' hR h1 h2 ha hv hsh
    have h1' : ¬ R.take 1 = [117] := by rw [hR]; simpa using h1
    have h2' : ¬ R.take 1 = [85] := by rw [hR]; simpa using h2
    have hz : siz src (i : Int) = 0 := by rw [hs, if_neg h1', if_neg h2']
    have hid : Txt.slice src (some (i : Int)) (some ((i : Int) + 2)) = tx [92, e] := by rw [id2_tx hd, hR]; rfl
    refine ⟨[e], R', v, hR, ?_, fun r hr => ev_goodEsc ho e1 e2 hz (by rw [aft_tx hd, hR]; exact ha) hr, ?_⟩
    · rw [hplain (some v) (by rw [hid]; exact hv) h1' h2']
      show Except.ok ((i : Int) + 2, tx [v]) = Except.ok ((i : Int) + 1 + 1, tx [v])
      rfl
    · rcases hsh with ⟨rfl, rfl⟩ | ⟨h3, hsh⟩
      · exact .inl ⟨rfl, rfl⟩
      · exact .inr ⟨tok_let hsh h1 h2 h3, e, [], rfl, h3, fun _ h => nomatch h⟩
  cases hR : R with
  | nil =>
    refine .inl (hbadE (by rw [hs, hR]; rfl) ?_ ?_ (by rw [hR]; simp) (by rw [hR]; simp))
    · rw [aft_tx hd, hR, st_lets]; simp only [List.take_nil, List.any_cons, List.any_nil, tx_beq]; rfl
    · rw [id2_tx hd, hR]; rfl
  | cons e R' =>
    rw [← hR]
    by_cases h1 : e = 117
    · refine hexpart e 4 R' hR (.inl ⟨h1, rfl⟩) (by rw [hs, hR, h1]; rfl) ?_
      unfold escChar
      dsimp only
      rw [id2_tx hd, st_bu, if_pos (by rw [hR, h1]; rfl)]; rfl
    · by_cases h2 : e = 85
      · refine hexpart e 8 R' hR (.inr ⟨h2, rfl⟩) (by rw [hs, hR, h2]; rfl) ?_
        unfold escChar
        dsimp only
        rw [id2_tx hd, st_bu, st_bU, if_neg (by rw [hR, h2]; exact tx_ne (by simp)), if_pos (by rw [hR, h2]; rfl)]; rfl
      · by_cases q1 : e = 98
        · subst q1; exact .inr (hgoodE _ 8 R' hR h1 h2 (by rw [st_lets]; decide +kernel) rfl (.inr ⟨by decide, by decide +kernel⟩))
        by_cases q2 : e = 116
        · subst q2; exact .inr (hgoodE _ 9 R' hR h1 h2 (by rw [st_lets]; decide +kernel) rfl (.inr ⟨by decide, by decide +kernel⟩))
        by_cases q3 : e = 110
        · subst q3; exact .inr (hgoodE _ 10 R' hR h1 h2 (by rw [st_lets]; decide +kernel) rfl (.inr ⟨by decide, by decide +kernel⟩))
        by_cases q4 : e = 102
        · subst q4; exact .inr (hgoodE _ 12 R' hR h1 h2 (by rw [st_lets]; decide +kernel) rfl (.inr ⟨by decide, by decide +kernel⟩))
        by_cases q5 : e = 114
        · subst q5; exact .inr (hgoodE _ 13 R' hR h1 h2 (by rw [st_lets]; decide +kernel) rfl (.inr ⟨by decide, by decide +kernel⟩))
        by_cases q6 : e = 34
        · subst q6; exact .inr (hgoodE _ 34 R' hR h1 h2 (by rw [st_lets]; decide +kernel) rfl (.inr ⟨by decide, by decide +kernel⟩))
        by_cases q7 : e = 92
        · subst q7; exact .inr (hgoodE _ 92 R' hR h1 h2 (by rw [st_lets]; decide +kernel) rfl (.inl ⟨rfl, rfl⟩))
        refine .inl (hbadE (by rw [hs, hR, if_neg (by simpa using h1), if_neg (by simpa using h2)]) ?_ ?_ (by rw [hR]; simpa using h1) (by rw [hR]; simpa using h2))
        · rw [aft_tx hd, hR, st_lets]
          simp only [List.take_succ_cons, List.take_zero, List.any_cons, List.any_nil, tx_beq]
          simp
          exact ⟨fun h => q1 h.symm, fun h => q2 h.symm, fun h => q3 h.symm, fun h => q4 h.symm, fun h => q5 h.symm, fun h => q6 h.symm, fun h => q7 h.symm⟩
        · rw [id2_tx hd, hR]
          show escOf (tx [92, e]) = none
          unfold escOf
          have z : ∀ v, e ≠ v → ([92, e] == [92, v]) = false := fun v h => by simp [h]
          rw [list_tx]
          simp only [escTab, List.lookup, z _ q1, z _ q2, z _ q3, z _ q4, z _ q5, z _ q6, z _ q7]
end
end
section
open PySem.Spec PySem.Calls PySem.StrLaws PySem.Builtin.Str
abbrev Ev := Int × Int × Str
noncomputable def first (f : Nat → Option Ev) (n i : Nat) : Option Ev := ((List.range' i (n - i)).filterMap f).head?
section
variable {f : Nat → Option Ev} {n i : Nat}
theorem sub_one (h : i < n) : n - i = n - (i + 1) + 1 := (Nat.sub_add_cancel (Nat.sub_pos_of_lt h)).symm
theorem first_end (h : n ≤ i) : first f n i = none := by
  unfold first
  rw [Nat.sub_eq_zero_of_le h]; rfl
theorem first_none (h : i < n) (h2 : f i = none) : first f n i = first f n (i + 1) := by
  unfold first
  rw [sub_one h, List.range'_succ, List.filterMap_cons_none h2]
theorem first_some {e : Ev} (h : i < n) (h2 : f i = some e) : first f n i = some e := by
  unfold first
  rw [sub_one h, List.range'_succ, List.filterMap_cons_some h2]; rfl
end
theorem fm_congr {f g : Nat → Option Ev} : ∀ {l : List Nat}, (∀ a ∈ l, f a = g a) → l.filterMap f = l.filterMap g
  | [], _ => rfl
  | a :: l, h => by
    rw [List.filterMap_cons, List.filterMap_cons, h a (List.mem_cons_self ..), fm_congr (l := l) fun b hb => h b (List.mem_cons_of_mem _ hb)]
theorem evs_form {src : Str} {k : Nat} {evs : List Ev} (h : EvsUpto src k evs) : ∃ f : Nat → Option Ev, (∀ j, j < k → Ev1 src (j : Int) (f j)) ∧ evs = (List.range k).filterMap f := by
  induction h with
  | nil => exact ⟨fun _ => none, fun j h => absurd h (Nat.not_lt_zero j), rfl⟩
  | @more k evs r _ he ih =>
    obtain ⟨f, hf, e⟩ := ih
    refine ⟨fun j => if j = k then r else f j, fun j hj => ?_, ?_⟩
    · by_cases q : j = k
      · subst q; dsimp only; rw [if_pos rfl]; exact he
      · dsimp only; rw [if_neg q]; exact hf j (Nat.lt_of_le_of_ne (Nat.le_of_lt_succ hj) q)
    · rw [List.range_succ, List.filterMap_append, e]
      congr 1
      · refine fm_congr fun j hj => ?_
        have := List.mem_range.mp hj
        rw [if_neg (Nat.ne_of_lt this)]
      · cases r with
        | none => simp
        | some a => simp
theorem ev_place {src : Str} {k : Int} {e : Ev} (h : Ev1 src k (some e)) : e.1 = k := by cases h <;> rfl
theorem head_first {f : Nat → Option Ev} {n p : Nat} (hk : ∀ j, j < n → ∀ e, f j = some e → e.1 = (j : Int)) (d : Ev) : (((List.range n).filterMap f).filter (fun e => decide ((p : Int) < e.1))).headD d = (first f n (p + 1)).getD d := by
  rw [List.headD_eq_head?_getD]
  congr 1
  unfold first
  congr 1
  by_cases h : p + 1 ≤ n
  · have e1 : List.range n = List.range' 0 (p + 1) ++ List.range' (p + 1) (n - (p + 1)) := by
      rw [List.range_eq_range']
      have := List.range'_append_1 (s := 0) (m := p + 1) (n := n - (p + 1))
      rw [Nat.zero_add, Nat.add_sub_cancel' h] at this
      exact this.symm
    rw [e1, List.filterMap_append, List.filter_append]
    have a : ((List.range' 0 (p + 1)).filterMap f).filter (fun e => decide ((p : Int) < e.1)) = [] := by
      rw [List.filter_eq_nil_iff]
      intro e he
      obtain ⟨j, hj, hje⟩ := List.mem_filterMap.mp he
      have hj2 := (List.mem_range'_1.mp hj).2
      rw [Nat.zero_add] at hj2
      have := hk j (Nat.lt_of_lt_of_le hj2 h) e hje
      simp
      rw [this]; exact Int.ofNat_le.mpr (Nat.le_of_lt_succ hj2)
    have b : ((List.range' (p + 1) (n - (p + 1))).filterMap f).filter (fun e => decide ((p : Int) < e.1)) = (List.range' (p + 1) (n - (p + 1))).filterMap f := by
      rw [List.filter_eq_self]
      intro e he
      obtain ⟨j, hj, hje⟩ := List.mem_filterMap.mp he
      have hj2 := List.mem_range'_1.mp hj
      rw [Nat.add_sub_cancel' h] at hj2
      have := hk j hj2.2 e hje
      simp
      rw [this]; exact Int.ofNat_lt.mpr hj2.1
    rw [a, b, List.nil_append]
  · have h := Nat.lt_of_not_le h
    rw [Nat.sub_eq_zero_of_le (Nat.le_of_lt h)]
    show _ = []
    rw [List.filter_eq_nil_iff]
    intro e he
    obtain ⟨j, hj, hje⟩ := List.mem_filterMap.mp he
    have hj2 := List.mem_range.mp hj
    have := hk j hj2 e hje
    simp
    rw [this]; exact Int.ofNat_le.mpr (Nat.le_of_lt (Nat.lt_of_lt_of_le hj2 (Nat.le_of_lt_succ h)))
def DueQ (src : Str) (o : Option Ev) (i : Nat) (pre : Str) (r : Except Str (Int × Str)) : Prop := match o with
  | none => r = .error (sfxT src src.length (Str.ofString "Unterminated string"))
  | some (k, pl, w) => (w = Str.ofString "" ∧ ∃ (kn : Nat) (out : List Nat), k = kn ∧ i ≤ kn ∧ kn < src.length ∧ Dec ((src.cps.toList.drop i).take (kn - i)) out ∧ r = .ok ((kn : Int) + 1, pre ++ tx out)) ∨ (∃ M, 1 ≤ M.length ∧ 0 ≤ pl ∧ w = M ++ Str.ofString " " ∧ r = .error (sfxT src pl M))
theorem dueq_step {src pre : Str} {o : Option Ev} {i j v : Nat} {t : List Nat} {r : Except Str (Int × Str)} (hij : j = i + t.length) (ht : src.cps.toList.drop i = t ++ src.cps.toList.drop j) (hD : ∀ l out, Dec l out → Dec (t ++ l) (v :: out)) (h : DueQ src o j (pre ++ tx [v]) r) : DueQ src o i pre r := by
  subst hij
  match o, h with
  | none, h => exact h
  | some (k, pl, w), h =>
    rcases h with ⟨h1, kn, out, h2, h3, h4, h5, h6⟩ | h
    · refine .inl ⟨h1, kn, v :: out, h2, Nat.le_trans (Nat.le_add_right ..) h3, h4, ?_, ?_⟩
      · rw [ht, show kn - i = t.length + (kn - (i + t.length)) by rw [← Nat.sub_sub, Nat.add_sub_cancel' (Nat.le_sub_of_add_le' h3)], List.take_length_add_append]
        exact hD _ _ h5
      · rw [h6, PySem.Str.append_assoc, ← tx_app]; rfl
    · exact .inr h
section
variable {src : Str} {f : Nat → Option Ev}
theorem at_drop {l R : List Nat} {i c : Nat} (h : l.drop i = c :: R) : l[i]? = some c := by
  have := congrArg (fun l => l[0]?) h
  simpa using this
theorem drop_at {l : List Nat} {i c : Nat} (h : l[i]? = some c) : l.drop i = c :: l.drop (i + 1) := by
  obtain ⟨h1, h2⟩ := List.getElem?_eq_some_iff.mp h
  rw [List.drop_eq_getElem_cons h1, h2]
theorem lt_at {src : Str} {i c : Nat} (h : src.cps.toList[i]? = some c) : i < src.length := by
  obtain ⟨h1, _⟩ := List.getElem?_eq_some_iff.mp h
  rw [len_list] at h1; exact h1
theorem it_ne {src : Str} {i c d : Nat} {x : Str} (h : src.cps.toList[i]? = some c) (hx : x = tx [d]) (hcd : c ≠ d) : (Txt.item src (i : Int) == x) = false ∧ (Txt.item src (i : Int) != x) = true := by
  rw [item_at h, hx]
  have : ((⟨#[c]⟩ : Str) == tx [d]) = false := by
    show (tx [c] == tx [d]) = false
    rw [tx_beq]; simpa using hcd
  exact ⟨this, by show (!(_ == _)) = true; rw [this]; rfl⟩
theorem skip_hex (hf : ∀ k, k < src.length → Ev1 src (k : Int) (f k)) : ∀ (ds : List Nat) (j : Nat) (R : List Nat), src.cps.toList.drop j = ds ++ R → bsl src.cps.toList j % 2 = 0 → (∀ d ∈ ds, hexOk d = true) → first f src.length j = first f src.length (j + ds.length) ∧ bsl src.cps.toList (j + ds.length) % 2 = 0
  | [], j, R, _, hb, _ => ⟨rfl, hb⟩
  | d :: ds, j, R, hd, hb, hx => by
    have ha := at_drop hd
    obtain ⟨h1, h2, h3⟩ := hexOk_ne (hx d (List.mem_cons_self ..))
    have hn : f j = none := ev_plain (it_ne ha st_q h2).1 (it_ne ha st_b h1).2 (by rw [item_at ha]; exact h3) (hf j (lt_at ha))
    have hb2 := bsl_step ha
    rw [if_neg h1] at hb2
    have hd2 : src.cps.toList.drop (j + 1) = ds ++ R := by
      rw [← List.drop_drop, hd]; rfl
    obtain ⟨a, b⟩ := skip_hex hf ds (j + 1) R hd2 (by rw [hb2]) (fun d hm => hx d (List.mem_cons_of_mem _ hm))
    rw [List.length_cons, show j + (ds.length + 1) = j + 1 + ds.length from Nat.add_right_comm j ds.length 1]
    exact ⟨(first_none (lt_at ha) hn).trans a, b⟩
theorem even_not_odd {i : Nat} (h : i ≤ src.length) (hb : bsl src.cps.toList i % 2 = 0) : ¬ oddB src (i : Int) := by
  rw [odd_iff h, hb]; decide
theorem slice_snoc {st i c : Nat} (hst : st ≤ i) (h : src.cps.toList[i]? = some c) : Txt.slice src (some (st : Int)) (some ((i : Int) + 1)) = Txt.slice src (some (st : Int)) (some (i : Int)) ++ tx [c] := by
  have e1 : Txt.slice src (some (st : Int)) (some ((i : Int) + 1)) = tx ((src.cps.toList.drop st).take (i + 1 - st)) := str_of_list (slice_ss src st (i + 1))
  have e2 : Txt.slice src (some (st : Int)) (some (i : Int)) = tx ((src.cps.toList.drop st).take (i - st)) := str_of_list (slice_ss src st i)
  rw [e1, e2, ← tx_app, Nat.sub_add_comm hst, List.take_add_one, List.getElem?_drop, Nat.add_sub_cancel' hst, h]
  rfl
theorem mod_odd {n : Nat} (h : n % 2 = 0) : (n + 1) % 2 = 1 := by rw [Nat.add_mod, h]
theorem slice_none (i : Nat) : Txt.slice src (some (i : Int)) (some (i : Int)) = tx [] := by
  refine str_of_list ?_
  rw [slice_ss, Nat.sub_self, List.take_zero]
theorem tx_nil : tx [] = Str.empty := rfl
theorem bas_due (hf : ∀ k, k < src.length → Ev1 src (k : Int) (f k)) {pos start : Int} {res : Str} {r : Except Str (Int × Str)} (h : Bas src pos start res r) :
    ∀ (i st : Nat), pos = i → start = st → st ≤ i → i ≤ src.length → bsl src.cps.toList i % 2 = 0 → DueQ src (first f src.length i) i (res ++ Txt.slice src (some start) (some pos)) r := by
  induction h with
  | eof hp =>
    rintro i st rfl rfl hst hi hb
    have : i = src.length := Nat.le_antisymm hi (Int.ofNat_le.mp hp)
    rw [first_end (Nat.le_of_eq this.symm), this]
    rfl
  | quote hp hq =>
    rintro i st rfl rfl hst hi hb
    obtain ⟨c, hc, hic⟩ := item_ex (x := src) (i := (i : Int)) (Int.natCast_nonneg i) hp
    rw [Int.toNat_natCast] at hc
    have hc34 : c = 34 := by
      rw [hic, st_q] at hq
      have := tx_inj (a := [c]) (b := [34]) hq
      simpa using this
    have he := ev_quote (even_not_odd hi hb) (by rw [hq]; exact beq_self_eq_true _) (it_ne hc st_b (by rw [hc34]; decide)).2 (hf i (lt_at hc))
    rw [first_some (lt_at hc) he]
    refine .inl ⟨rfl, i, [], rfl, Nat.le_refl _, lt_at hc, by rw [Nat.sub_self, List.take_zero]; exact .nil, ?_⟩
    rw [tx_nil, str_append_empty]
  | escErr hp hq hm =>
    rintro i st rfl rfl hst hi hb
    obtain ⟨c, hc, hic⟩ := item_ex (x := src) (i := (i : Int)) (Int.natCast_nonneg i) hp
    rw [Int.toNat_natCast] at hc
    have hc92 : c = 92 := by
      rw [hic, st_b] at hq
      have := tx_inj (a := [c]) (b := [92]) hq
      simpa using this
    subst hc92
    rcases esc_all (drop_at hc) (even_not_odd hi hb) with ⟨pl, M, h0, h1, h2, h3⟩ | ⟨t, R', v, _, h1, _⟩
    · rw [first_some (lt_at hc) (h2 _ (hf i (lt_at hc)))]
      rw [h1] at hm
      exact .inr ⟨M, h3, h0, rfl, by rw [← Except.error.inj hm]⟩
    · rw [h1] at hm; cases hm
  | @esc pos start p2 res x r hp hq hx hB ih =>
    rintro i st rfl rfl hst hi hb
    obtain ⟨c, hc, hic⟩ := item_ex (x := src) (i := (i : Int)) (Int.natCast_nonneg i) hp
    rw [Int.toNat_natCast] at hc
    have hc92 : c = 92 := by
      rw [hic, st_b] at hq
      have := tx_inj (a := [c]) (b := [92]) hq
      simpa using this
    subst hc92
    have hdr := drop_at hc
    rcases esc_all hdr (even_not_odd hi hb) with ⟨pl, M, h0, h1, _⟩ | ⟨t, R', v, hR, h1, h2, h3⟩
    · rw [h1] at hx; cases hx
    · rw [h1] at hx
      have hxx := Prod.mk.inj (Except.ok.inj hx)
      obtain ⟨rfl, rfl⟩ := hxx
      have ht1 : 1 ≤ t.length := by
        rcases h3 with ⟨rfl, _⟩ | ⟨ho, _⟩
        · exact Nat.le_refl _
        · exact List.length_pos_iff.mpr ho.1
      have hlen := congrArg List.length hR
      rw [List.length_drop, List.length_append, len_list] at hlen
      have hil : i + 1 ≤ src.length := lt_at hc
      have hj : i + 1 + t.length ≤ src.length := Nat.add_le_of_le_sub' hil (by rw [hlen]; exact Nat.le_add_right ..)
      have hi2 : i + 1 < src.length := Nat.lt_of_lt_of_le (Nat.lt_add_of_pos_right ht1) hj
      have hodd : oddB src ((i + 1 : Nat) : Int) := by
        rw [odd_iff hil, bsl_step hc, if_pos rfl]; exact mod_odd hb
      have hn1 : f i = none := h2 _ (hf i (lt_at hc))
      have hn2 : f (i + 1) = none := ev_odd hodd (hf (i + 1) hi2)
      have hF : first f src.length i = first f src.length (i + 1 + t.length) ∧ bsl src.cps.toList (i + 1 + t.length) % 2 = 0 := by
        rcases h3 with ⟨rfl, _⟩ | ⟨_, e, ds, rfl, he, hds⟩
        · have ha : src.cps.toList[i + 1]? = some 92 := at_drop hR
          refine ⟨(first_none (lt_at hc) hn1).trans (first_none hi2 hn2), ?_⟩
          show bsl src.cps.toList (i + 1 + 1) % 2 = 0
          rw [bsl_step ha, if_pos rfl, bsl_step hc, if_pos rfl]; exact (Nat.add_mod_right _ 2).trans hb
        · have ha : src.cps.toList[i + 1]? = some e := at_drop hR
          have hb2 : bsl src.cps.toList (i + 1 + 1) = 0 := by rw [bsl_step ha, if_neg he]
          have hd2 : src.cps.toList.drop (i + 1 + 1) = ds ++ R' := by
            rw [← List.drop_drop, hR]; rfl
          obtain ⟨a, b⟩ := skip_hex hf ds (i + 1 + 1) R' hd2 (by rw [hb2]) hds
          rw [List.length_cons, show i + 1 + (ds.length + 1) = i + 1 + 1 + ds.length from Nat.add_right_comm (i + 1) ds.length 1]
          exact ⟨((first_none (lt_at hc) hn1).trans (first_none hi2 hn2)).trans a, b⟩
      have hI := ih (i + 1 + t.length) (i + 1 + t.length) (by push_cast; rfl) (by push_cast; rfl) (Nat.le_refl _) hj hF.2
      rw [show (i : Int) + 1 + (t.length : Int) = ((i + 1 + t.length : Nat) : Int) by push_cast; rfl, slice_none, tx_nil, str_append_empty] at hI
      rw [hF.1]
      refine dueq_step (t := 92 :: t) (v := v) (j := i + 1 + t.length) (Nat.add_right_comm i 1 t.length) ?_ ?_ hI
      · rw [hdr, hR, ← List.drop_drop, hR, List.drop_left']
        · rfl
        · rfl
      · intro l out hl
        rcases h3 with ⟨rfl, rfl⟩ | ⟨ho, _⟩
        · exact .back hl
        · exact .esc ho hl
  | low hp hq1 hq2 hl =>
    rintro i st rfl rfl hst hi hb
    have he := ev_low (even_not_odd hi hb) (beq_eq_false_iff_ne.mpr hq1) (bne_iff_ne.mpr hq2) hl (hf i (Int.ofNat_lt.mp hp))
    rw [first_some (Int.ofNat_lt.mp hp) he]
    refine .inr ⟨Str.ofString "Illegal character " ++ reprText (Txt.item src (i : Int)), ?_, Int.natCast_nonneg i, ?_, rfl⟩
    · rw [PySem.Str.length_append]
      exact Nat.le_trans (by decide +kernel : 1 ≤ (Str.ofString "Illegal character ").length) (Nat.le_add_right ..)
    · rw [PySem.Str.empty_append]
  | plain hp hq1 hq2 hl hB ih =>
    rintro i st rfl rfl hst hi hb
    obtain ⟨c, hc, hic⟩ := item_ex (x := src) (i := (i : Int)) (Int.natCast_nonneg i) hp
    rw [Int.toNat_natCast] at hc
    have hc92 : c ≠ 92 := by
      rintro rfl
      exact hq2 (by rw [hic, st_b]; rfl)
    have hn : f i = none := ev_plain (beq_eq_false_iff_ne.mpr hq1) (bne_iff_ne.mpr hq2) hl (hf i (lt_at hc))
    have hI := ih (i + 1) st (by push_cast; rfl) rfl (Nat.le_succ_of_le hst) (lt_at hc) (by rw [bsl_step hc, if_neg hc92])
    rw [first_none (lt_at hc) hn]
    rw [slice_snoc hst hc, ← PySem.Str.append_assoc] at hI
    exact dueq_step (t := [c]) (v := c) (j := i + 1) rfl (drop_at hc) (fun l out h => .plain hc92 h) hI
end
end
section
open PySem.Spec PySem.Calls PySem.Builtin.Str
set_option maxHeartbeats 8000000
theorem law_low_item (w : World) (src : Str) (k : Int) (h0 : 0 ≤ k) (h1 : k < src.length) (t1 : Tok) :
    Ctr w true 1 8 552 [.str (Txt.item src k) t1] (fun v new _ => new = [] ∧ v = .bool (Sign lowP (Txt.item src k))) (fun _ => False) := by
  obtain ⟨c, _, e⟩ := item_ex h0 h1
  rw [e]
  exact law_low_ctr w c t1
end
set_option hygiene false
local macro_rules | `(tactic| walk_at "pyIter ref") => `(tactic| refine iter_stop ?_)
local macro_rules | `(tactic| walk_at "exec For Name Name cons nil") => `(tactic| (k_here; with_unfolding_all refine For_led ?_))
local macro_rules | `(tactic| walk_at "exec For Name Call cons nil") => `(tactic| walk_at "exec For Name Name cons nil")
local macro_rules | `(tactic| walk_at "exec For Name Subscript cons nil") => `(tactic| walk_at "exec For Name Name cons nil")
local macro_rules | `(tactic| walk_at "call builtin:dict.get") => `(tactic| (k_here; k_dflt refine get2Z ?_; intro _ _ _; try dsimp only))
local macro_rules | `(tactic| walk_at "call builtin:len") => `(tactic| (k_here; with_reducible refine len_rs (fun _ => ?_)))
local macro_rules | `(tactic| walk_at "call type:int") => `(tactic| (k_here; refine call_digs (z := pick _ 4 8 0) ?_))
set_option hygiene true
local macro_rules | `(tactic| walk_at "newTuple") => `(tactic| (k_here; k_dflt refine tupZ ?_; intro _ _ _ _ l1; (try k_lt l1)))
noncomputable section
open PySem.Spec PySem.Calls PySem.Builtin.Str
set_option maxHeartbeats 8000000
namespace Nlaweventsctr
abbrev AV : Type := World × Str × Tok
theorem ne_AV : Nonempty AV := ne_world.elim fun w => ⟨⟨w, default, 0⟩⟩
def S1 (v : AV) : Prop :=
  (fun (w : World) (src : Str) (t1 : Tok) => ((src.length : Int) < 1000000) → (∀ c ∈ src.cps.toList, c < 1114112) → CtrK w true 4 64 566 [.str src t1] [] (fun v new _ => ∃ E vs n evs, v = .ref E ∧ (E, W.listOf vs n) ∈ new ∧ EvsUpto src src.length evs ∧ EvsAre new vs.toList evs) (fun _ => False)) v.1 v.2.1 v.2.2
@[irreducible] def c9 : AV := eps ne_AV S1
@[irreducible] def w : World := c9.1
@[irreducible] def src : Str := c9.2.1
@[irreducible] def t1 : Tok := c9.2.2
@[irreducible] def k9 : CV := eps ne_CV (CtrAt w true 4 64 566 [.str src t1] [] (fun v new _ => ∃ E vs n evs, v = .ref E ∧ (E, W.listOf vs n) ∈ new ∧ EvsUpto src src.length evs ∧ EvsAre new vs.toList evs) (fun _ => False))
abbrev p := k9.p
abbrev loose := k9.loose
abbrev mean := k9.mean
abbrev mg := k9.mg
abbrev mb := k9.mb
abbrev dp := k9.dp
noncomputable abbrev un := k9.un
abbrev gd := k9.gd
abbrev cn := k9.cn
abbrev cs := k9.cs
abbrev a := k9.a
abbrev ccd := k9.ccd
abbrev outer := k9.outer
abbrev base := k9.base
noncomputable abbrev L := k9.L
namespace NTurn
abbrev AV : Type := (Flow → Shared → Prop) × (Value → Shared → Prop) × Heap × Addr × Heap × Nat × Addr × List (Addr × Obj) × Nat × Tok × Heap × Heap × Nat × Addr × Obj × Array Value × Nat × List (Addr × Obj) × List (Addr × Obj) × (Str → Option Value) × List (Int × Int × Str)
theorem ne_AV : Nonempty AV := ne_CV.elim fun v => ne_world.elim fun w => ⟨⟨fun _ _ => True, fun _ _ => True, v.h₀, 0, v.h₀, 0, 0, [], 0, 0, v.h₀, v.h₀, 0, 0, tabObj #[], #[], 0, [], [], v.m, []⟩⟩
def pk : (P : (Flow → Shared → Prop) → (Value → Shared → Prop) → Heap → Addr → Heap → Nat → Addr → List (Addr × Obj) → Nat → Tok → Heap → Heap → Nat → Addr → Obj → Array Value → Nat → List (Addr × Obj) → List (Addr × Obj) → (Str → Option Value) → List (Int × Int × Str) → Prop) ×' (Hid (∀ qk ek g' L' h70 tk70 Ev news k tk0 g1 h1 tk I oI vs n tups tl1 u evs, P qk ek g' L' h70 tk70 Ev news k tk0 g1 h1 tk I oI vs n tups tl1 u evs) → (∀ (hsz : (src.length : Int) < 1000000) (hcs : ∀ c ∈ src.cps.toList, c < 1114112), CtrAt w true 4 64 566 [.str src t1] [] (fun v new _ => ∃ E vs n evs, v = .ref E ∧ (E, W.listOf vs n) ∈ new ∧ EvsUpto src src.length evs ∧ EvsAre new vs.toList evs) (fun _ => False) k9)) := by
  apply PSigma.mk
  case snd =>
    intro HP hsz hcs
    intro hnd news tl hn0 hN5 B F X N TL T hk XB TB D T0 FS hd hu hret hx
    cases hn0 rfl
    revert X XB; unfold prog; k_fill; intro X XB
    k_go
    rename_i g' L' h' FG' F' N' B' X' T' D'
    k_steps
    refine Stop.go ?_
    rename Fr g' L' _ _ => F1
    rename News g' L' _ _ => N1
    rename IsRange _ _ _ _ _ _ _ _ => R1
    rename_i Ev _ lE _ _ _ h70 tk70 _ _ _ _
    obtain ⟨u0, hu1, hu2, F1⟩ : ∃ u0 : Str → Option Value, u0 (Str.ofString "text") = some (.str src t1) ∧ u0 (Str.ofString "events") = some (.ref Ev) ∧ Fr g' L' _ u0 := ⟨_, rfl, rfl, F1⟩
    refine iter_range (g := g') src.length rfl rfl R1 (by omega) F1 N1 (EvJ (GR (frs (envOf cn cs L a ccd :: outer)) g' { handled := none, depth := dp, frames := some (envX cn cs L a ccd [] :: outer), guards := gd, units := un } base (envOf cn cs L a ccd :: outer) (law_top.heap_385 w.params) p loose mean mg mb) src t1 Ev news) ?_ ?_ ?_
    · exact ⟨_, _, [], tl, u0, [], rfl, by simp, TL, fun p hp => Nat.ne_of_lt (lE p hp), (fun _ h => nomatch h), map_two hu1 hu2, .nil, .nil, KtsTurn.refl, B', X', T', D'⟩
    · (intro k tk0 g1 m1 led1 h1 tk I oI hk hr1 F1 N1 hnI hoI; obtain ⟨vs, n, tups, tl1, u, evs, rfl, hvs, TL1, hnE, hn5, rfl, hEv, hFo, T1, B1, X1, TT1, D1⟩ := hr1)
      dsimp only
      clear_value qk ek
      revert hoI; revert hnI; revert N1; revert F1; revert D1; revert TT1; revert X1; revert B1; revert T1; revert hFo; revert hEv; revert hn5; revert hnE; revert TL1; revert hvs; revert hk; revert hu; revert hd; revert FS; revert TB; revert XB; revert hN5; revert hcs; revert hsz
      exact HP.go qk ek g' L' h70 tk70 Ev news k tk0 g1 h1 tk I oI vs n tups tl1 u evs
    · (intro g1 m1 led1 h1 tk hr2 F1 N1; obtain ⟨vs, n, tups, tl1, u, evs, rfl, hvs, TL1, hnE, hn5, rfl, hEv, hFo, T1, B1, X1, TT1, D1⟩ := hr2)
      k_steps
      rename_i kg kT kF kN kB _ kP kD kX
      exact hret _ ((Ev, W.listOf vs n) :: tups) tl1 _ _ _ ⟨Ev, vs, n, evs, rfl, .head _, hEv, hFo.mono fun q hq => .tail _ hq⟩ TL1 kT kF (fun q hq => kN q (by simpa using hq)) kB kX kP kD
@[irreducible] def c9 : AV := eps ne_AV fun v => pk.1 v.1 v.2.1 v.2.2.1 v.2.2.2.1 v.2.2.2.2.1 v.2.2.2.2.2.1 v.2.2.2.2.2.2.1 v.2.2.2.2.2.2.2.1 v.2.2.2.2.2.2.2.2.1 v.2.2.2.2.2.2.2.2.2.1 v.2.2.2.2.2.2.2.2.2.2.1 v.2.2.2.2.2.2.2.2.2.2.2.1 v.2.2.2.2.2.2.2.2.2.2.2.2.1 v.2.2.2.2.2.2.2.2.2.2.2.2.2.1 v.2.2.2.2.2.2.2.2.2.2.2.2.2.2.1 v.2.2.2.2.2.2.2.2.2.2.2.2.2.2.2.1 v.2.2.2.2.2.2.2.2.2.2.2.2.2.2.2.2.1 v.2.2.2.2.2.2.2.2.2.2.2.2.2.2.2.2.2.1 v.2.2.2.2.2.2.2.2.2.2.2.2.2.2.2.2.2.2.1 v.2.2.2.2.2.2.2.2.2.2.2.2.2.2.2.2.2.2.2.1 v.2.2.2.2.2.2.2.2.2.2.2.2.2.2.2.2.2.2.2.2
@[irreducible] def qk : Flow → Shared → Prop := c9.1
@[irreducible] def ek : Value → Shared → Prop := c9.2.1
@[irreducible] def g' : Heap := c9.2.2.1
@[irreducible] def L' : Addr := c9.2.2.2.1
@[irreducible] def h70 : Heap := c9.2.2.2.2.1
@[irreducible] def tk70 : Nat := c9.2.2.2.2.2.1
@[irreducible] def Ev : Addr := c9.2.2.2.2.2.2.1
@[irreducible] def news : List (Addr × Obj) := c9.2.2.2.2.2.2.2.1
@[irreducible] def k : Nat := c9.2.2.2.2.2.2.2.2.1
@[irreducible] def tk0 : Tok := c9.2.2.2.2.2.2.2.2.2.1
@[irreducible] def g1 : Heap := c9.2.2.2.2.2.2.2.2.2.2.1
@[irreducible] def h1 : Heap := c9.2.2.2.2.2.2.2.2.2.2.2.1
@[irreducible] def tk : Nat := c9.2.2.2.2.2.2.2.2.2.2.2.2.1
@[irreducible] def I : Addr := c9.2.2.2.2.2.2.2.2.2.2.2.2.2.1
@[irreducible] def oI : Obj := c9.2.2.2.2.2.2.2.2.2.2.2.2.2.2.1
@[irreducible] def vs : Array Value := c9.2.2.2.2.2.2.2.2.2.2.2.2.2.2.2.1
@[irreducible] def n : Nat := c9.2.2.2.2.2.2.2.2.2.2.2.2.2.2.2.2.1
@[irreducible] def tups : List (Addr × Obj) := c9.2.2.2.2.2.2.2.2.2.2.2.2.2.2.2.2.2.1
@[irreducible] def tl1 : List (Addr × Obj) := c9.2.2.2.2.2.2.2.2.2.2.2.2.2.2.2.2.2.2.1
@[irreducible] def u : Str → Option Value := c9.2.2.2.2.2.2.2.2.2.2.2.2.2.2.2.2.2.2.2.1
@[irreducible] def evs : List (Int × Int × Str) := c9.2.2.2.2.2.2.2.2.2.2.2.2.2.2.2.2.2.2.2.2
theorem body : pk.1 qk ek g' L' h70 tk70 Ev news k tk0 g1 h1 tk I oI vs n tups tl1 u evs := by
  delta pk
  dsimp -zeta only
  intro hsz hcs hN5 XB TB FS hd hu hk hvs TL1 hnE hn5 hEv hFo T1 B1 X1 TT1 D1 F1 N1 hnI hoI
  have hIE : I ≠ Ev := fun e => hnI _ (.head _) e.symm
  have hnI : ∀ p ∈ tups ++ (tl1 ++ news), p.1 ≠ I := fun p hp => hnI p (.tail _ hp)
  have hE5 := ne_533' TL1 hnE
  have hI5 := ne_533' TL1 hnI
  refine gen_Q fun Q9 hQ9 => ?_
  k_steps
  · refine hQ9.go _ _ ?_
    exact ev_none hvs TL1 hnE hn5 hEv hFo ⟨T1, B1, X1, TT1, D1⟩ hIE hnI (.odd (by with_reducible assumption)) (by assumption) (by assumption) (.tail _ (.head _)) (fun q hq => .tail _ (.tail _ (hq))) (by rfl) (by rfl)
  · rename _ ∧ _ ∧ _ ∧ AllLt _ (_ ++ (tl1 ++ _)) => l5
    have h5 := lt_533 TL1 (l5.2.2.2)
    refine hQ9.go _ _ ?_
    exact ev_some hvs TL1 hnE hn5 hEv hFo ⟨T1, B1, X1, TT1, D1⟩ hIE hnI (.quote (by with_reducible assumption) (by with_reducible assumption)) (by assumption) (by assumption) (.tail _ (.tail _ (.head _))) (.head _) (l5.2.2.1) (l5.2.1) h5 (fun q hq => .tail _ (.tail _ (.tail _ (hq)))) (by rfl) (by rfl)
  · refine Stop.go ?_
    refine law_low_item w src (k : Int) (by omega) (by omega) _ _ _ _ _ _ _ _ _ _ _ _ _ _ _ _ _ _ _ _ _ ((I, oI) :: (Ev, W.listOf vs n) :: (tups ++ news)) tl1 _ _ _ (fun _ => rfl) (five TL1 hnI hnE hn5 hN5) (by assumption) (by assumption) (by assumption) (news_pick (by assumption)) TL1 (by assumption) rfl XB TB (by assumption) T1 FS ?c4 ?c5 ?c6 ?c7
    case c4 => ktr_room
    case c5 => ktr_units
    case c7 => exact fun _ _ _ _ _ _ _ _ _ hX => hX.elim
    case c6 =>
      intro v new tl1 g1 h1 tk1 hV TL1 T1 F1 N1 B1 X1 P1 D1
      obtain ⟨rfl, rfl⟩ := hV
      have N2 := news_back (show News g1 L' h1 (tl1 ++ ((I, oI) :: (Ev, W.listOf vs n) :: (tups ++ news))) from N1)
      clear N1
      have hnE := mid_ne hnE (tab_ne N2 (.tail _ (.head _)) (fun p hp => .tail _ (.tail _ (List.mem_append_right _ (List.mem_append_left _ hp)))) TL1 hE5 list_no)
      have hnI := mid_ne hnI (tab_ne N2 (.head _) (fun p hp => .tail _ (.tail _ (List.mem_append_right _ (List.mem_append_left _ hp)))) TL1 hI5 (range_no hoI))
      k_steps
      · rename _ ∧ _ ∧ AllLt _ (_ ++ (tl1 ++ _)) => l5
        have h5 := lt_533 TL1 (l5.2.2)
        refine hQ9.go _ _ ?_
        exact ev_some hvs TL1 hnE hn5 hEv hFo ⟨T1, B1, X1, P1, D1⟩ hIE hnI (.low (by with_reducible assumption) (by with_reducible assumption) (by with_reducible assumption) (by with_reducible assumption)) (by assumption) (by assumption) (.tail _ (.head _)) (.head _) (l5.2.1) (l5.1) h5 (fun q hq => .tail _ (.tail _ (hq))) (by rfl) (by rfl)
      · refine hQ9.go _ _ ?_
        exact ev_none hvs TL1 hnE hn5 hEv hFo ⟨T1, B1, X1, P1, D1⟩ hIE hnI (.plain (by with_reducible assumption) (by with_reducible assumption) (by with_reducible assumption) (by with_reducible assumption)) (by assumption) (by assumption) (.head _) (fun q hq => .tail _ (hq)) (by rfl) (by rfl)
  · refine hQ9.go _ _ ?_
    exact ev_none hvs TL1 hnE hn5 hEv hFo ⟨T1, B1, X1, TT1, D1⟩ hIE hnI (.goodEsc (by with_reducible assumption) (by with_reducible assumption) (by with_reducible assumption) (by with_reducible assumption)) (by assumption) (by assumption) (.tail _ (.tail _ (.head _))) (fun q hq => .tail _ (.tail _ (.tail _ (hq)))) (by rfl) (by rfl)
  · rename _ ∧ _ ∧ _ ∧ _ ∧ AllLt _ (_ ++ (tl1 ++ _)) => l5
    have h5 := lt_533 TL1 (l5.2.2.2.2)
    refine hQ9.go _ _ ?_
    exact ev_some hvs TL1 hnE hn5 hEv hFo ⟨T1, B1, X1, TT1, D1⟩ hIE hnI (.badEsc (by with_reducible assumption) (by with_reducible assumption) (by with_reducible assumption) (by with_reducible assumption)) (by assumption) (by assumption) (.tail _ (.tail _ (.tail _ (.head _)))) (.head _) (l5.2.2.2.1) (l5.2.2.1) h5 (fun q hq => .tail _ (.tail _ (.tail _ (.tail _ (hq))))) (by rfl) (by rfl)
  · rename _ ∧ _ ∧ _ ∧ AllLt _ (_ ++ (tl1 ++ _)) => l5
    have h5 := lt_533 TL1 (l5.2.2.2)
    refine hQ9.go _ _ ?_
    exact ev_some hvs TL1 hnE hn5 hEv hFo ⟨T1, B1, X1, TT1, D1⟩ hIE hnI (.badHex (by with_reducible assumption) (by with_reducible assumption) (by with_reducible assumption) (.inl (by with_reducible assumption))) (by assumption) (by assumption) (.tail _ (.tail _ (.head _))) (.head _) (l5.2.2.1) (l5.2.1) h5 (fun q hq => .tail _ (.tail _ (.tail _ (hq)))) (by rfl) (by rfl)
  · rename _ ∧ _ ∧ _ ∧ AllLt _ (_ ++ (tl1 ++ _)) => l5
    have h5 := lt_533 TL1 (l5.2.2.2)
    refine hQ9.go _ _ ?_
    exact ev_some hvs TL1 hnE hn5 hEv hFo ⟨T1, B1, X1, TT1, D1⟩ hIE hnI (.badHex (by with_reducible assumption) (by with_reducible assumption) (by with_reducible assumption) (.inr (by with_reducible assumption))) (by assumption) (by assumption) (.tail _ (.tail _ (.head _))) (.head _) (l5.2.2.1) (l5.2.1) h5 (fun q hq => .tail _ (.tail _ (.tail _ (hq)))) (by rfl) (by rfl)
  · rename _ ∧ _ ∧ _ ∧ AllLt _ (_ ++ (tl1 ++ _)) => l5
    have h5 := lt_533 TL1 (l5.2.2.2)
    refine hQ9.go _ _ ?_
    exact ev_some hvs TL1 hnE hn5 hEv hFo ⟨T1, B1, X1, TT1, D1⟩ hIE hnI (.noSign (by with_reducible assumption) (by with_reducible assumption) (by with_reducible assumption) (by with_reducible assumption) (by with_reducible assumption) (.inl (by with_reducible assumption))) (by assumption) (by assumption) (.tail _ (.tail _ (.head _))) (.head _) (l5.2.2.1) (l5.2.1) h5 (fun q hq => .tail _ (.tail _ (.tail _ (hq)))) (by rfl) (by rfl)
  · rename _ ∧ _ ∧ _ ∧ AllLt _ (_ ++ (tl1 ++ _)) => l5
    have h5 := lt_533 TL1 (l5.2.2.2)
    refine hQ9.go _ _ ?_
    exact ev_some hvs TL1 hnE hn5 hEv hFo ⟨T1, B1, X1, TT1, D1⟩ hIE hnI (.noSign (by with_reducible assumption) (by with_reducible assumption) (by with_reducible assumption) (by with_reducible assumption) (by with_reducible assumption) (.inr ⟨(by with_reducible assumption), (by with_reducible assumption)⟩)) (by assumption) (by assumption) (.tail _ (.tail _ (.head _))) (.head _) (l5.2.2.1) (l5.2.1) h5 (fun q hq => .tail _ (.tail _ (.tail _ (hq)))) (by rfl) (by rfl)
  · refine hQ9.go _ _ ?_
    exact ev_none hvs TL1 hnE hn5 hEv hFo ⟨T1, B1, X1, TT1, D1⟩ hIE hnI (.fine (by with_reducible assumption) (by with_reducible assumption) (by with_reducible assumption) (by with_reducible assumption) (by with_reducible assumption) (fun h => h.elim (fun a => absurd a (by with_reducible assumption)) (fun b => absurd b.2 (by with_reducible assumption)))) (by assumption) (by assumption) (.tail _ (.head _)) (fun q hq => .tail _ (.tail _ (hq))) (by rfl) (by rfl)
  · refine hQ9.go _ _ ?_
    exact ev_none hvs TL1 hnE hn5 hEv hFo ⟨T1, B1, X1, TT1, D1⟩ hIE hnI (.fine (by with_reducible assumption) (by with_reducible assumption) (by with_reducible assumption) (by with_reducible assumption) (by with_reducible assumption) (fun h => h.elim (fun a => absurd a (by with_reducible assumption)) (fun b => absurd b.1 (by with_reducible assumption)))) (by assumption) (by assumption) (.tail _ (.head _)) (fun q hq => .tail _ (.tail _ (hq))) (by rfl) (by rfl)
end NTurn
theorem z9 (hsz : (src.length : Int) < 1000000) (hcs : ∀ c ∈ src.cps.toList, c < 1114112) : CtrAt w true 4 64 566 [.str src t1] [] (fun v new _ => ∃ E vs n evs, v = .ref E ∧ (E, W.listOf vs n) ∈ new ∧ EvsUpto src src.length evs ∧ EvsAre new vs.toList evs) (fun _ => False) k9 := NTurn.pk.2 (.mk fun qk ek g' L' h70 tk70 Ev news k tk0 g1 h1 tk I oI vs n tups tl1 u evs => eps_all (ne := NTurn.ne_AV) (S := fun v => NTurn.pk.1 v.1 v.2.1 v.2.2.1 v.2.2.2.1 v.2.2.2.2.1 v.2.2.2.2.2.1 v.2.2.2.2.2.2.1 v.2.2.2.2.2.2.2.1 v.2.2.2.2.2.2.2.2.1 v.2.2.2.2.2.2.2.2.2.1 v.2.2.2.2.2.2.2.2.2.2.1 v.2.2.2.2.2.2.2.2.2.2.2.1 v.2.2.2.2.2.2.2.2.2.2.2.2.1 v.2.2.2.2.2.2.2.2.2.2.2.2.2.1 v.2.2.2.2.2.2.2.2.2.2.2.2.2.2.1 v.2.2.2.2.2.2.2.2.2.2.2.2.2.2.2.1 v.2.2.2.2.2.2.2.2.2.2.2.2.2.2.2.2.1 v.2.2.2.2.2.2.2.2.2.2.2.2.2.2.2.2.2.1 v.2.2.2.2.2.2.2.2.2.2.2.2.2.2.2.2.2.2.1 v.2.2.2.2.2.2.2.2.2.2.2.2.2.2.2.2.2.2.2.1 v.2.2.2.2.2.2.2.2.2.2.2.2.2.2.2.2.2.2.2.2) (by with_unfolding_all exact NTurn.body) ⟨qk, ek, g', L', h70, tk70, Ev, news, k, tk0, g1, h1, tk, I, oI, vs, n, tups, tl1, u, evs⟩) hsz hcs
theorem z8 : S1 c9 := by
  with_unfolding_all exact (fun hsz hcs => ctr_all (z9 hsz hcs) : ((src.length : Int) < 1000000) → (∀ c ∈ src.cps.toList, c < 1114112) → CtrK w true 4 64 566 [.str src t1] [] (fun v new _ => ∃ E vs n evs, v = .ref E ∧ (E, W.listOf vs n) ∈ new ∧ EvsUpto src src.length evs ∧ EvsAre new vs.toList evs) (fun _ => False))
end Nlaweventsctr
theorem law_events_ctr (w : World) (src : Str) (t1 : Tok) (hsz : (src.length : Int) < 1000000) (hcs : ∀ c ∈ src.cps.toList, c < 1114112) :
    Ctr w true 4 64 566 [.str src t1] (fun v new _ => ∃ E vs n evs, v = .ref E ∧ (E, W.listOf vs n) ∈ new ∧ EvsUpto src src.length evs ∧ EvsAre new vs.toList evs) (fun _ => False) := by
  have h := eps_all (ne := Nlaweventsctr.ne_AV) (S := Nlaweventsctr.S1) (by with_unfolding_all exact Nlaweventsctr.z8) ⟨w, src, t1⟩
  exact h hsz hcs
end
noncomputable section
open PySem.Spec PySem.Calls
set_option maxHeartbeats 8000000
theorem law_low_pur (w : World) (c : Nat) (t1 : Tok) : Pur w 1 8 552 [.str ⟨#[c]⟩ t1] (fun v => v = .bool (lowP c)) := by
  intro p loose mean mg mb dp un gd cn cs a ccd cl outer A₀ base h₀ L m news s Q E B F X N T hk hd hu hret
  revert X; unfold prog; k_fill; intro X
  refine wpAny_call ?_
  k_dflt ktr_enter
  k_steps
  all_goals (
    rename_i kF kN _ _
    refine hret _ _ _ (congrArg Value.bool ?_) kF kN
    clear hret
    first
      | exact low_a (by assumption) (by assumption)
      | exact low_b (by assumption) (by assumption)
      | exact low_c (by assumption))
theorem law_low_pur_item (w : World) (src : Str) (i : Int) (t1 : Tok) (h0 : 0 ≤ i) (h1 : i < src.length) : Pur w 1 8 552 [.str (Txt.item src i) t1] (fun v => v = .bool (Sign lowP (Txt.item src i))) := by
  obtain ⟨c, _, e⟩ := item_ex h0 h1
  rw [e]
  exact law_low_pur w c t1
namespace Nlawspotpur
abbrev AV : Type := World × Str × Tok × Int × Tok
theorem ne_AV : Nonempty AV := ne_world.elim fun w => ⟨⟨w, default, 0, 0, 0⟩⟩
def S1 (v : AV) : Prop :=
  (fun (w : World) (src : Str) (t1 : Tok) (pos : Int) (t2 : Tok) => (0 ≤ pos) → (pos ≤ src.length + 2) → ((src.length : Int) < 1000000) → Pur w 1 8 559 [.str src t1, .int pos t2] (fun v => ∃ t, v = .str (spotL src pos) t)) v.1 v.2.1 v.2.2.1 v.2.2.2.1 v.2.2.2.2
@[irreducible] def c9 : AV := eps ne_AV S1
@[irreducible] def w : World := c9.1
@[irreducible] def src : Str := c9.2.1
@[irreducible] def t1 : Tok := c9.2.2.1
@[irreducible] def pos : Int := c9.2.2.2.1
@[irreducible] def t2 : Tok := c9.2.2.2.2
@[irreducible] def k9 : PV := eps ne_PV (PurAt w 1 8 559 [.str src t1, .int pos t2] (fun v => ∃ t, v = .str (spotL src pos) t))
theorem z9 (hp0 : 0 ≤ pos) (hp1 : pos ≤ src.length + 2) (hsz : (src.length : Int) < 1000000) : PurAt w 1 8 559 [.str src t1, .int pos t2] (fun v => ∃ t, v = .str (spotL src pos) t) k9 := by
  intro B F X N T hk hd hu hret
  revert X; unfold prog; k_fill; intro X
  refine wpAny_call ?_
  k_dflt ktr_enter
  k_steps
  · rename (List.map _ _ = Txt.split _ _) => e1
    rename 1 ≤ List.length _ => s1
    rename pos < (src.length : Int) => hlt
    rename_i kF kN _ _
    exact hret _ _ _ (str_t (spot_in e1 s1 hlt)) kF (news_drop kN)
  · rename ¬ pos < (src.length : Int) => hlt
    rename_i kF kN _ _
    exact hret _ _ _ (str_t (spot_out hlt)) kF (by first | exact kN | exact news_drop kN)
theorem z8 : S1 c9 := by
  with_unfolding_all exact (fun hp0 hp1 hsz => pur_all (z9 hp0 hp1 hsz) : (0 ≤ pos) → (pos ≤ src.length + 2) → ((src.length : Int) < 1000000) → Pur w 1 8 559 [.str src t1, .int pos t2] (fun v => ∃ t, v = .str (spotL src pos) t))
end Nlawspotpur
theorem law_spot_pur (w : World) (src : Str) (t1 : Tok) (pos : Int) (t2 : Tok) (hp0 : 0 ≤ pos) (hp1 : pos ≤ src.length + 2) (hsz : (src.length : Int) < 1000000) :
    Pur w 1 8 559 [.str src t1, .int pos t2] (fun v => ∃ t, v = .str (spotL src pos) t) := by
  have h := eps_all (ne := Nlawspotpur.ne_AV) (S := Nlawspotpur.S1) (by with_unfolding_all exact Nlawspotpur.z8) ⟨w, src, t1, pos, t2⟩
  exact h hp0 hp1 hsz
end
section
open PySem.Spec PySem.Calls PySem.Builtin.Str
set_option maxHeartbeats 8000000
theorem item_shZ {prog : Program} {w : World} {A : Around} {E : Value → Shared → Prop} {s : Shared} {Q : Value → Shared → Prop} {value slice : PySem.Expr} {q : Str} {d : Addr} {D : List (PyData × PyData)} {t : Tok} (h : ∀ tS, PyProof.V.Flat (.str ((shortOf (Txt.item q 0)).getD Str.empty) tS) (.str ((shortOf (Txt.item q 0)).getD Str.empty)) → ((shortOf (Txt.item q 0)).getD Str.empty).length ≤ 1 → Q (.str ((shortOf (Txt.item q 0)).getD Str.empty) tS) { s with toks := s.toks + 1 })
    (T : StrTab prog w s.heap d D := by k_tabat) (hP : PieceOk q := by assumption) (hz : ¬ 1 < pick (Txt.item q 0) 5 9 1 := by with_reducible assumption) (hl : ∀ y, shortOf (Txt.item q 0) = some y → Spec.lookup (.str (Txt.item q 0)) D = some (.str y) := by exact fun _ h => short_look h)
    (hs : subscripted slice false (.ref d) (.str (Txt.item q 0) t) = operate [.ref d, .str (Txt.item q 0) t] (getItem (.ref d) (.str (Txt.item q 0) t)) := by with_unfolding_all rfl) (hg : ∀ r, letTemporaryGo value (.ref d) r = pure () := by intro _; with_unfolding_all rfl) :
    wpAny (model prog w) A (subscriptTail value slice (.ref d) (.str (Txt.item q 0) t)) Q E s :=
  item_strTab T (hl _ (piece_short hP hz)) (fun v hv => by obtain ⟨tS, rfl⟩ := hv.str_inv; exact h tS hv (short_le hv)) hs hg
theorem call_hexp {prog : Program} {w : World} {A : Around} {E : Value → Shared → Prop} {s : Shared} {Q : Value → Shared → Prop} {q : Str} {u v : Tok} (k : 0 ≤ (hexVal (Txt.slice q (some 1) (some (pick (Txt.item q 0) 5 9 1))).cps.toList : Int) → (hexVal (Txt.slice q (some 1) (some (pick (Txt.item q 0) 5 9 1))).cps.toList : Int) ≤ 1114111 → Q (.int (hexVal (Txt.slice q (some 1) (some (pick (Txt.item q 0) 5 9 1))).cps.toList) s.toks) { s with toks := s.toks + 1 }) (h : PieceOk q := by assumption) (hz : 1 < pick (Txt.item q 0) 5 9 1 := by with_reducible assumption) :
    wpAny (model prog w) A (call (.type "int") [.str (Txt.slice q (some 1) (some (pick (Txt.item q 0) 5 9 1))) u, .int 16 v]) Q E s := by
  have hb := readZ_bd q
  rcases h.2 with ⟨_, h1, h2, h3⟩ | ⟨h1, _⟩
  · refine call_hex ?_ h1 h2 (k (by omega) (by unfold readZ at h3; omega))
    unfold readZ at hb
    rw [← len_list, slice_ssI q (by decide) (Int.le_trans (by decide) hb.1), List.length_take]
    exact Nat.le_trans (Nat.min_le_left ..) (Nat.le_trans (Nat.sub_le ..) (Nat.le_trans ((Int.toNat_le (n := 9)).mpr hb.2) (by decide)))
  · exact absurd hz h1
end
noncomputable section
open PySem.Spec PySem.Calls PySem.Builtin.Str
set_option maxHeartbeats 8000000
set_option hygiene false
local macro_rules | `(tactic| walk_at "call type:int") => `(tactic| (k_here; with_reducible refine call_hexp (fun _ _ => ?_)))
local macro_rules | `(tactic| walk_at "subscriptTail") => `(tactic| (k_here; k_dflt refine item_shZ ?_; intro _ _ _; try dsimp only))
set_option hygiene true
theorem po_of {prog : Program} {w : World} {A : Around} {env : Env} {E : Value → Shared → Prop} {Q : Flow → Shared → Prop} {s : Shared} {b : List Stmt} (hE : PassesOwn (model prog w) A env E) (h : PassesOwn (model prog w) A env E → wpAny (model prog w) A (execs b env) Q E s) : wpAny (model prog w) A (execs b env) Q E s := h hE
namespace Nlawreadpur
abbrev AV : Type := World × Str × Tok
theorem ne_AV : Nonempty AV := ne_world.elim fun w => ⟨⟨w, default, 0⟩⟩
def S1 (v : AV) : Prop :=
  (fun (w : World) (src : Str) (t1 : Tok) => ((src.length : Int) < 1000000) → (∀ x ∈ Txt.split src bs2, ∀ q ∈ (Txt.split x bs1).tail, PieceOk q) → Pur w 4 64 573 [.str src t1] (fun v => ∃ t, v = .str (readT src) t)) v.1 v.2.1 v.2.2
@[irreducible] def c9 : AV := eps ne_AV S1
@[irreducible] def w : World := c9.1
@[irreducible] def src : Str := c9.2.1
@[irreducible] def t1 : Tok := c9.2.2
@[irreducible] def k9 : PV := eps ne_PV (PurAt w 4 64 573 [.str src t1] (fun v => ∃ t, v = .str (readT src) t))
abbrev p := k9.p
abbrev news := k9.news
namespace NBody
abbrev AV : Type := Heap × Addr × Heap
theorem ne_AV : Nonempty AV := ne_CV.elim fun v => ne_world.elim fun w => ⟨⟨v.h₀, 0, v.h₀⟩⟩
def pk : (P : Heap → Addr → Heap → Prop) ×' (Hid (∀ g' L' h', P g' L' h') → (∀ (hsz : (src.length : Int) < 1000000) (hok : ∀ x ∈ Txt.split src bs2, ∀ q ∈ (Txt.split x bs1).tail, PieceOk q), PurAt w 4 64 573 [.str src t1] (fun v => ∃ t, v = .str (readT src) t) k9)) := by
  apply PSigma.mk
  case snd =>
    intro HP hsz hok
    intro B F X N T hk hd hu hret
    revert X; unfold prog; k_fill; intro X
    refine wpAny_call ?_
    k_dflt ktr_enter
    rename_i g' L' h' FG' F' N' B' X' T'
    revert T'; revert X'; revert B'; revert N'; revert F'; revert FG'; revert X; revert hret; revert hu; revert hd; revert hk; revert T; revert N; revert F; revert B; revert hok; revert hsz; revert ek; revert qk
    exact HP.go g' L' h'
@[irreducible] def c9 : AV := eps ne_AV fun v => pk.1 v.1 v.2.1 v.2.2
@[irreducible] def g' : Heap := c9.1
@[irreducible] def L' : Addr := c9.2.1
@[irreducible] def h' : Heap := c9.2.2
namespace NTurn
abbrev AV : Type := (Flow → Shared → Prop) × (Value → Shared → Prop) × Addr × Addr × List (Str × Tok) × Heap × Nat × Nat × Heap × Nat × Addr × Obj × Array Value × Nat × (Str → Option Value) × Str × Tok
theorem ne_AV : Nonempty AV := ne_CV.elim fun v => ne_world.elim fun w => ⟨⟨fun _ _ => True, fun _ _ => True, 0, 0, [], v.h₀, 0, 0, v.h₀, 0, 0, tabObj #[], #[], 0, v.m, default, 0⟩⟩
def pk : (P : (Flow → Shared → Prop) → (Value → Shared → Prop) → Addr → Addr → List (Str × Tok) → Heap → Nat → Nat → Heap → Nat → Addr → Obj → Array Value → Nat → (Str → Option Value) → Str → Tok → Prop) ×' (Hid (∀ qk ek Rd Dl ls h2 k2 i h1 tk I oI rs n u x tx, P qk ek Rd Dl ls h2 k2 i h1 tk I oI rs n u x tx) → (pk.1 g' L' h')) := by
  apply PSigma.mk
  case snd =>
    intro HP
    delta pk
    dsimp -zeta only
    intro qk ek hsz hok B F N T hk hd hu hret X FG' F' N' B' X' T'
    k_steps
    refine Stop.go ?_
    rename_i Rd _ lR _ _ _ Dl ls h2 k2 e1 a1 F1 N1 l1 s1 s2
    obtain ⟨u0, hu1, F1⟩ : ∃ u0 : Str → Option Value, u0 (Str.ofString "read") = some (.ref Rd) ∧ Fr g' L' _ u0 := ⟨_, rfl, F1⟩
    refine iter_list (g := g') (items := (strValues ls).toArray) ⟨_, (N1 _ (.head _)).1, rfl, _, rfl⟩ rfl (N1 _ (.head _)).2.1 F1 (news_sw2 N1) (RdO g' (Txt.split src bs2) Rd ((Dl, W.listOf (strValues ls).toArray 0) :: news)) ?_ ?_ ?_
    · refine ⟨rfl, #[], 0, u0, rfl, ?_, Nat.le_refl _, ?_, ?_⟩
      · intro p hp
        rcases List.mem_cons.mp hp with rfl | hp
        · exact (Nat.ne_of_lt (l1 (Rd, W.listOf #[] 0) (.head _))).symm
        · exact Nat.ne_of_lt (lR p hp)
      · exact .nil
      · funext y
        by_cases q : y = Str.ofString "read"
        · rw [if_pos q, q, hu1]
        · rw [if_neg q]
    · (intro i v g1 m1 led1 h1 tk I oI hv hr1 F1 N1 hnI hoI hDI hlD; obtain ⟨rfl, rs, n, u, rfl, hRd, hrs, hS, rfl⟩ := hr1)
      have hDo := (N1 (Dl, W.listOf (strValues ls).toArray 0) (.tail _ (.tail _ (.head _)))).1
      obtain ⟨x, tx, rfl, hx⟩ := strs_item hv
      refine po_of (by passes_own) fun hpo => ?_
      (skip)
      dsimp only
      clear_value qk ek
      revert hpo; revert F1; revert hx; revert hDo; revert hS; revert hrs; revert hRd; revert N1; revert hnI; revert hDI; revert s2; revert s1; revert l1; revert a1; revert e1; revert T'; revert X'; revert B'; revert FG'; revert hu; revert hd; revert hk; revert T; revert hok; revert hsz
      exact HP.go qk ek Rd Dl ls h2 k2 i h1 tk I oI rs n u x tx
    · (intro g1 m1 led1 h1 tk hr4 F1 N1; obtain ⟨rfl, rs, n, u, rfl, hRd, hrs, hS, rfl⟩ := hr4)
      have hSz : (strValues ls).toArray.size = (Txt.split src bs2).length := by
        have := congrArg List.length e1
        rw [List.length_map] at this
        have h2 : ls.length = (Txt.split src bs2).length := this
        simpa [strValues] using h2
      rw [hSz, List.take_of_length_le (Nat.le_refl _)] at hS
      k_steps
      refine join_list (x := bs1) ⟨_, (N1 _ (.head _)).1, rfl, _, rfl⟩ hS (join_fits hsz hok) fun t' k' => ?_
      k_steps
      rename_i kF kN _ _
      exact hret _ _ _ (str_t (PySem.StrLaws.glued_eq_join _ _)) kF (news_drop (news_drop kN))
@[irreducible] def c9 : AV := eps ne_AV fun v => pk.1 v.1 v.2.1 v.2.2.1 v.2.2.2.1 v.2.2.2.2.1 v.2.2.2.2.2.1 v.2.2.2.2.2.2.1 v.2.2.2.2.2.2.2.1 v.2.2.2.2.2.2.2.2.1 v.2.2.2.2.2.2.2.2.2.1 v.2.2.2.2.2.2.2.2.2.2.1 v.2.2.2.2.2.2.2.2.2.2.2.1 v.2.2.2.2.2.2.2.2.2.2.2.2.1 v.2.2.2.2.2.2.2.2.2.2.2.2.2.1 v.2.2.2.2.2.2.2.2.2.2.2.2.2.2.1 v.2.2.2.2.2.2.2.2.2.2.2.2.2.2.2.1 v.2.2.2.2.2.2.2.2.2.2.2.2.2.2.2.2
@[irreducible] def qk : Flow → Shared → Prop := c9.1
@[irreducible] def ek : Value → Shared → Prop := c9.2.1
@[irreducible] def Rd : Addr := c9.2.2.1
@[irreducible] def Dl : Addr := c9.2.2.2.1
@[irreducible] def ls : List (Str × Tok) := c9.2.2.2.2.1
@[irreducible] def h2 : Heap := c9.2.2.2.2.2.1
@[irreducible] def k2 : Nat := c9.2.2.2.2.2.2.1
@[irreducible] def i : Nat := c9.2.2.2.2.2.2.2.1
@[irreducible] def h1 : Heap := c9.2.2.2.2.2.2.2.2.1
@[irreducible] def tk : Nat := c9.2.2.2.2.2.2.2.2.2.1
@[irreducible] def I : Addr := c9.2.2.2.2.2.2.2.2.2.2.1
@[irreducible] def oI : Obj := c9.2.2.2.2.2.2.2.2.2.2.2.1
@[irreducible] def rs : Array Value := c9.2.2.2.2.2.2.2.2.2.2.2.2.1
@[irreducible] def n : Nat := c9.2.2.2.2.2.2.2.2.2.2.2.2.2.1
@[irreducible] def u : Str → Option Value := c9.2.2.2.2.2.2.2.2.2.2.2.2.2.2.1
@[irreducible] def x : Str := c9.2.2.2.2.2.2.2.2.2.2.2.2.2.2.2.1
@[irreducible] def tx : Tok := c9.2.2.2.2.2.2.2.2.2.2.2.2.2.2.2.2
theorem body : pk.1 qk ek Rd Dl ls h2 k2 i h1 tk I oI rs n u x tx := by
  delta pk
  dsimp -zeta only
  intro hsz hok T hk hd hu FG' B' X' T' e1 a1 l1 s1 s2 hDI hnI N1 hRd hrs hS hDo hx F1 hpo
  rw [e1] at hx
  have hxl : (x.length : Int) ≤ 999999 := by
    have := part_short (List.mem_of_getElem? hx)
    omega
  k_steps
  refine Stop.go ?_
  rename (List.map _ _ = Txt.split x _) => e2
  rename _ = some _ => hy0
  rename_i P2 ls2 _ _ _ _ _ lP hs1 hs2 _ y0 ty0 h4 F4 N4 h5 F5 N5
  have hpk := pick_tail ls2 hs1
  rw [hpk] at N5
  have hokS : ∀ q ∈ (Txt.split x bs1).tail, PieceOk q := hok x (List.mem_of_getElem? hx)
  have hW : y0.length + ((Txt.split x bs1).tail.map (·.length)).sum ≤ 1000000 := part_weight (by rw [e2] at hy0; exact hy0) hxl
  have hy1 : y0.length ≤ 1000000 := by omega
  obtain ⟨u0, hu1, hu2, F5⟩ : ∃ u0 : Str → Option Value, u0 (Str.ofString "out") = some (.str y0 ty0) ∧ u0 (Str.ofString "read") = some (.ref Rd) ∧ Fr g' L' _ u0 := ⟨_, rfl, rfl, F5⟩
  refine iter_list (g := g') (items := (strValues ls2.tail).toArray) ⟨_, (N5 _ (.head _)).1, rfl, _, rfl⟩ rfl (N5 _ (.head _)).2.1 F5 N5 (RdI g' y0 (Txt.split x bs1).tail Rd ((h4.objs.size + 1, W.listOf (strValues ls2.tail).toArray 0) :: (P2, W.listOf (strValues ls2).toArray 0) :: (I, oI) :: (Rd, W.listOf rs n) :: (Dl, W.listOf (strValues ls).toArray 0) :: news)) ?_ ?_ ?_
  · exact ⟨rfl, rfl, ty0, u0, rest_bd hokS hW 0, by rw [List.take_zero]; rw [show readRest [] = Str.empty from rfl, str_append_empty]; exact map_two hu1 hu2⟩
  · (intro j v g2 m2 led2 h6 tk I2 oI2 hv2 hr2 F6 N6 hnI2 hoI2 hDI2 hlD2; obtain ⟨rfl, rfl, t2, u2, hl2, rfl⟩ := hr2)
    obtain ⟨q, tq, rfl, hqj⟩ := strs_item hv2
    rw [List.map_tail, e2] at hqj
    have hq := hokS q (List.mem_of_getElem? hqj)
    have hql : (q.length : Int) ≤ 1000000 := by
      have := part_short (List.mem_of_mem_tail (List.mem_of_getElem? hqj))
      omega
    have hq1 := hq.1
    k_steps
    · exact rd_turn (j := j) (q := q) hokS hW hqj (by rw [readPiece, if_pos (by with_reducible assumption)]; first | done | rfl) (by assumption) (by assumption) (news_drop N6) (.tail _ (.tail _ (.head _))) (fun p hp => .tail _ (.tail _ (.tail _ hp))) (.head _) hnI2 (by rfl) (by rfl)
    · exact rd_turn (j := j) (q := q) hokS hW hqj (by rw [readPiece, if_neg (by with_reducible assumption)]; first | done | rfl) (by assumption) (by assumption) (news_drop N6) (.tail _ (.tail _ (.head _))) (fun p hp => .tail _ (.tail _ (.tail _ hp))) (.head _) hnI2 (by rfl) (by rfl)
  · (intro g2 m2 led2 h6 tk hr3 F6 N6; obtain ⟨rfl, rfl, t2, u2, hl2, rfl⟩ := hr3)
    have hIR : I ≠ Rd := fun e => hnI _ (.head _) e.symm
    have hPR : P2 ≠ Rd := Nat.ne_of_gt (lP (Rd, W.listOf rs n) (.tail _ (.head _)))
    have hSR : h4.objs.size + 1 ≠ Rd := by
      exact Nat.ne_of_gt (Nat.lt_succ_of_lt (Heap.lt_size (N4 (Rd, W.listOf rs n) (.tail _ (.tail _ (.head _)))).1))
    have hil : i < (Txt.split src bs2).length := (List.getElem?_eq_some_iff.mp hx).1
    have hls : (Txt.split src bs2).length = ls.length := by
      have := congrArg List.length e1
      rw [List.length_map] at this
      exact this.symm
    have hrs2 : rs.size ≤ 1000000 := by rw [hls] at hil; omega
    have hy0' : (Txt.split x bs1)[0]? = some y0 := by rw [e2] at hy0; exact hy0
    have hsl : (Txt.split x bs1).tail.length = (strValues ls2.tail).toArray.size := by
      have e3 : (Txt.split x bs1).length = ls2.length := by
        have := congrArg List.length e2
        rw [List.length_map] at this
        exact this.symm
      rw [List.length_tail, e3]; simp [strValues]
    k_steps
    exact rd_outer hRd hrs hS hx (read_whole (n := (strValues ls2.tail).toArray.size) hy0' (Nat.le_of_eq hsl)) (by assumption) (by assumption) hDo (.tail _ (.tail _ (.head _))) (.tail _ (.tail _ (.tail _ (.head _)))) (fun p hp => .tail _ (.tail _ (.tail _ (.tail _ hp)))) hnI (by rfl)
end NTurn
theorem body : pk.1 g' L' h' := NTurn.pk.2 (.mk fun qk ek Rd Dl ls h2 k2 i h1 tk I oI rs n u x tx => eps_all (ne := NTurn.ne_AV) (S := fun v => NTurn.pk.1 v.1 v.2.1 v.2.2.1 v.2.2.2.1 v.2.2.2.2.1 v.2.2.2.2.2.1 v.2.2.2.2.2.2.1 v.2.2.2.2.2.2.2.1 v.2.2.2.2.2.2.2.2.1 v.2.2.2.2.2.2.2.2.2.1 v.2.2.2.2.2.2.2.2.2.2.1 v.2.2.2.2.2.2.2.2.2.2.2.1 v.2.2.2.2.2.2.2.2.2.2.2.2.1 v.2.2.2.2.2.2.2.2.2.2.2.2.2.1 v.2.2.2.2.2.2.2.2.2.2.2.2.2.2.1 v.2.2.2.2.2.2.2.2.2.2.2.2.2.2.2.1 v.2.2.2.2.2.2.2.2.2.2.2.2.2.2.2.2) (by with_unfolding_all exact NTurn.body) ⟨qk, ek, Rd, Dl, ls, h2, k2, i, h1, tk, I, oI, rs, n, u, x, tx⟩)
end NBody
theorem z9 (hsz : (src.length : Int) < 1000000) (hok : ∀ x ∈ Txt.split src bs2, ∀ q ∈ (Txt.split x bs1).tail, PieceOk q) : PurAt w 4 64 573 [.str src t1] (fun v => ∃ t, v = .str (readT src) t) k9 := NBody.pk.2 (.mk fun g' L' h' => eps_all (ne := NBody.ne_AV) (S := fun v => NBody.pk.1 v.1 v.2.1 v.2.2) (by with_unfolding_all exact NBody.body) ⟨g', L', h'⟩) hsz hok
theorem z8 : S1 c9 := by
  with_unfolding_all exact (fun hsz hok => pur_all (z9 hsz hok) : ((src.length : Int) < 1000000) → (∀ x ∈ Txt.split src bs2, ∀ q ∈ (Txt.split x bs1).tail, PieceOk q) → Pur w 4 64 573 [.str src t1] (fun v => ∃ t, v = .str (readT src) t))
end Nlawreadpur
theorem law_read_pur (w : World) (src : Str) (t1 : Tok) (hsz : (src.length : Int) < 1000000) (hok : ∀ x ∈ Txt.split src bs2, ∀ q ∈ (Txt.split x bs1).tail, PieceOk q) :
    Pur w 4 64 573 [.str src t1] (fun v => ∃ t, v = .str (readT src) t) := by
  have h := eps_all (ne := Nlawreadpur.ne_AV) (S := Nlawreadpur.S1) (by with_unfolding_all exact Nlawreadpur.z8) ⟨w, src, t1⟩
  exact h hsz hok
end
section
open PySem.Spec PySem.Calls
section
variable {prog : Program} {w : World} {A : Around} {h₀ : Heap} {L : Addr} {m : Str → Option Value} {env : Env} {ct elt : PySem.Expr} {x : Str} {scope : Scope} {cl : List (Str × Addr)} {s : Shared} {S : List (Addr × Obj) → Prop} {P : Nat → Value → Prop} {Fin : List Value → List (Addr × Obj) → Prop} {news : List (Addr × Obj)}
def TurnEnd (h₀ : Heap) (L : Addr) (m : Str → Option Value) (s : Shared) (led : List (Addr × Obj)) (Z : Prop) (s₂ : Shared) : Prop :=
  ∃ h' tk, s₂ = { s with heap := h', toks := tk } ∧ Fr h₀ L h' m ∧ News h₀ L h' led ∧ Z
theorem TurnEnd.intro {led all : List (Addr × Obj)} {Z : Prop} {h' : Heap} {tk : Nat} (F : Fr h₀ L h' m) (N : News h₀ L h' all) (sub : ∀ p ∈ led, p ∈ all) (z : Z) : TurnEnd h₀ L m s led Z { s with heap := h', toks := tk } := ⟨h', tk, rfl, F, fun p hp => N p (sub p hp), z⟩
theorem comp_rest {n : Nat} (J : Nat → List Value → Prop) (hS : S news) (h0 : J 0 [])
    (turn : ∀ (i : Nat) (ys : List Value) v I oI C oC D m₂ h tk (E' : Value → Shared → Prop), i < n → P i v → J i ys → LCg.NsObj oC m₂ → m₂ x = some v → Fr h₀ L h m → News h₀ L h ((I, oI) :: (C, oC) :: (D, LCg.lst ys) :: news) → LCg.Off3 I C D news → ((@Ne Nat I C) ∧ (@Ne Nat I D) ∧ (@Ne Nat C D)) →
      wpAny (model prog w) A (isTrue ct (compEnvC scope cl C env) (eval ct (compEnvC scope cl C env))) (fun ok s' => if ok = true then
        wpAny (model prog w) A (eval elt (compEnvC scope cl C env)) (fun y s₂ => TurnEnd h₀ L m s ((I, oI) :: (C, oC) :: (D, LCg.lst ys) :: news) (J (i + 1) (ys ++ [y])) s₂) E' s'
        else TurnEnd h₀ L m s ((I, oI) :: (C, oC) :: (D, LCg.lst ys) :: news) (J (i + 1) ys) s') E' { s with heap := h, toks := tk })
    (fin : ∀ ys, J n ys → Fin ys news) : LCt.CompRestT prog w A h₀ L m env ct elt x scope cl s S P Fin n 0 [] news := by
  have key : ∀ (j i : Nat) (ys : List Value), i + j = n → J i ys → LCt.CompRestT prog w A h₀ L m env ct elt x scope cl s S P Fin j i ys news := by
    intro j
    induction j with
    | zero =>
      intro i ys hi hJ
      have e : i = n := by omega
      subst e
      exact LCt.CompRestT.zero (fin ys hJ)
    | succ j ih =>
      intro i ys hi hJ
      refine LCt.CompRestT.succ ?_
      intro v I oI C oC D m₂ h tk E' hv hC hx F N off ne
      refine wpAny_mono (turn i ys v I oI C oC D m₂ h tk E' (by omega) hv hJ hC hx F N off ne) (fun ok s₁ hq => ?_) fun _ _ e => e
      cases ok with
      | true =>
        simp only [if_true] at hq ⊢
        refine wpAny_mono hq (fun y s₂ hq => ?_) fun _ _ e => e
        obtain ⟨h', tk', e, F', N', z⟩ := hq
        exact ⟨h', tk', news, e, F', N', off, hS, ih (i + 1) _ (by omega) z⟩
      | false =>
        simp only [Bool.false_eq_true, if_false] at hq ⊢
        obtain ⟨h', tk', e, F', N', z⟩ := hq
        exact ⟨h', tk', news, e, F', N', off, hS, ih (i + 1) _ (by omega) z⟩
  exact key n 0 [] (by omega) h0
end
theorem item_led {prog : Program} {w : World} {A : Around} {E : Value → Shared → Prop} {s : Shared} {Q : Value → Shared → Prop} {g : Heap} {L D : Addr} {led : List (Addr × Obj)} {value slice : PySem.Expr} {vs : List Value} {n : Nat} {k : Int} {u : Tok} {v : Value}
    (N : News g L s.heap led) (hm : (D, W.listOf vs.toArray n) ∈ led) (h0 : 0 ≤ k) (h1 : k < 1000000) (hx : vs[k.toNat]? = some v) (h : Q v s)
    (hs : subscripted slice false (.ref D) (.int k u) = operate [.ref D, .int k u] (getItem (.ref D) (.int k u)) := by with_unfolding_all rfl) :
    wpAny (model prog w) A (subscriptTail value slice (.ref D) (.int k u)) Q E s :=
  item_litK ⟨_, (N _ hm).1, rfl, _, rfl⟩ h0 (by omega) hx h hs
noncomputable def lows (y : Str) (i : Nat) : List Int := ((List.range i).filter fun k : Nat => Sign lowP (Txt.item y (k : Int))).map fun k : Nat => (k : Int)
theorem ints_snoc {k : Int} {t : Tok} : ∀ {vs : List Value} {ks : List Int}, IntsAre vs ks → IntsAre (vs ++ [.int k t]) (ks ++ [k])
  | _, _, .nil => .cons k t .nil
  | _, _, .cons n u r => .cons n u (ints_snoc r)
theorem lows_head {y : Str} {i : Nat} {k : Int} {ks : List Int} (h : lows y i = k :: ks) : 0 ≤ k ∧ k < i ∧ Sign lowP (Txt.item y k) = true := by
  have hm : k ∈ lows y i := by rw [h]; exact .head _
  obtain ⟨j, hj, rfl⟩ := List.mem_map.mp hm
  have := List.mem_filter.mp hj
  have h2 := List.mem_range.mp this.1
  exact ⟨by omega, by omega, this.2⟩
theorem lows_yes {y : Str} {i : Nat} (h : Sign lowP (Txt.item y (i : Int)) = true) : lows y (i + 1) = lows y i ++ [(i : Int)] := by
  unfold lows
  rw [List.range_succ, List.filter_append, List.map_append, List.filter_cons_of_pos (by simpa using h)]
  rfl
theorem lows_no {y : Str} {i : Nat} (h : Sign lowP (Txt.item y (i : Int)) = false) : lows y (i + 1) = lows y i := by
  unfold lows
  rw [List.range_succ, List.filter_append, List.filter_cons_of_neg (by simp [h])]
  simp
theorem stop_any {P : Prop} (h : Stop P) : P := h
theorem lstrip_le {x y : Str} {i j : Option Int} (h : (x.length : Int) < 1000000) : (Txt.lstripChars (Txt.slice x i j) y).length ≤ 1000000 := by
  have h1 := len_stripBy y.cps.contains true false (Txt.slice x i j)
  have h2 := PyProof.Txt.length_slice_le x i j
  show (Txt.stripBy y.cps.contains true false (Txt.slice x i j)).length ≤ _
  omega
section
variable {prog : Program} {w : World} {A : Around} {E : Value → Shared → Prop} {s : Shared} {Q : Value → Shared → Prop}
theorem len_ls {x y : Str} {i j : Option Int} {t : Tok} (h : (Txt.lstripChars (Txt.slice x i j) y).length ≤ 1000000 → Q (.int (Txt.lstripChars (Txt.slice x i j) y).length (s.toks + 1)) { s with toks := s.toks + 1 + 1 }) (hsz : (x.length : Int) < 1000000 := by assumption) : wpAny (model prog w) A (call (.builtin "len") [.str (Txt.lstripChars (Txt.slice x i j) y) t]) Q E s := by
  have := lstrip_le (y := y) (i := i) (j := j) hsz
  exact len_str (by omega) (h this)
theorem len_first {l : List (Str × Tok)} {x y z : Str} {i : Nat} {t : Tok} (h : y.length ≤ x.length → Q (.int y.length (s.toks + 1)) { s with toks := s.toks + 1 + 1 }) (e : l.map (·.1) = Txt.split x z := by assumption) (hsz : (x.length : Int) < 1000000 := by k_dflt exact sl_sz (by omega)) (hy : (l.map (·.1))[i]? = some y := by assumption) : wpAny (model prog w) A (call (.builtin "len") [.str y t]) Q E s := by
  rw [e] at hy
  have := part_short (List.mem_of_getElem? hy)
  exact len_str (by omega) (h this)
end
theorem item_ledZ {prog : Program} {w : World} {A : Around} {E : Value → Shared → Prop} {s : Shared} {Q : Value → Shared → Prop} {g : Heap} {L D : Addr} {led : List (Addr × Obj)} {value slice : PySem.Expr} {vs : List Value} {n : Nat} {k : Int} {u : Tok} {v : Value}
    (h : Q v s) (N : News g L s.heap led := by assumption) (hm : (D, W.listOf vs.toArray n) ∈ led := by k_mem) (h0 : 0 ≤ k := by decide) (h1 : k < 1000000 := by decide) (hx : vs[k.toNat]? = some v := by rfl)
    (hs : subscripted slice false (.ref D) (.int k u) = operate [.ref D, .int k u] (getItem (.ref D) (.int k u)) := by with_unfolding_all rfl) :
    wpAny (model prog w) A (subscriptTail value slice (.ref D) (.int k u)) Q E s := item_led N hm h0 h1 hx h hs
end
section
open PySem.Spec PySem.Calls
theorem spot_short {src : Str} {pos : Int} (hsz : (src.length : Int) < 1000000) : (spotL src pos).length ≤ 4000 := by
  unfold spotL
  have hw := split_weight (Txt.slice src none (some pos)) (Str.ofString "\n") (by decide)
  have hl := PyProof.Txt.length_slice_le src none (some pos)
  split
  · have h1 := int_short (i := ((Txt.split (Txt.slice src none (some pos)) (Str.ofString "\n")).length : Int)) (by omega) (by omega)
    have h2 : ((Txt.split (Txt.slice src none (some pos)) (Str.ofString "\n")).getLastD Str.empty).length ≤ (Txt.slice src none (some pos)).length := by
      rw [List.getLastD_eq_getLast?]
      cases hg : (Txt.split (Txt.slice src none (some pos)) (Str.ofString "\n")).getLast? with
      | none => exact Nat.zero_le _
      | some a => exact part_short (List.mem_of_getLast? hg)
    have h3 := int_short (i := ((((Txt.split (Txt.slice src none (some pos)) (Str.ofString "\n")).getLastD Str.empty).length : Int) + 1)) (by omega) (by omega)
    simp only [PySem.Str.length_append]
    have l1 : (Str.ofString "(at line ").length = 9 := by kernel_rfl
    have l2 : (Str.ofString ", column ").length = 9 := by kernel_rfl
    have l3 : (Str.ofString ")").length = 1 := by kernel_rfl
    omega
  · have l1 : (Str.ofString "(at end of document)").length = 20 := by kernel_rfl
    omega
section
variable {prog : Program} {w : World} {A : Around} {E : Value → Shared → Prop} {s : Shared} {Q : Value → Shared → Prop} {g : Heap} {L D : Addr} {led : List (Addr × Obj)} {value slice : PySem.Expr} {vs : List Value} {k : Int} {u : Tok} {v : Value}
theorem item_lst (N : News g L s.heap led) (hm : (D, LCg.lst vs) ∈ led) (h0 : 0 ≤ k) (h1 : k < 1000000) (hx : vs[k.toNat]? = some v) (h : Q v s)
    (hs : subscripted slice false (.ref D) (.int k u) = operate [.ref D, .int k u] (getItem (.ref D) (.int k u)) := by with_unfolding_all rfl) :
    wpAny (model prog w) A (subscriptTail value slice (.ref D) (.int k u)) Q E s := item_led N hm h0 h1 hx h hs
theorem item_tup (N : News g L s.heap led) (hm : (D, tupObj vs) ∈ led) (h0 : 0 ≤ k) (h1 : k < 1000000) (hx : vs[k.toNat]? = some v) (h : Q v s)
    (hs : subscripted slice false (.ref D) (.int k u) = operate [.ref D, .int k u] (getItem (.ref D) (.int k u)) := by with_unfolding_all rfl) :
    wpAny (model prog w) A (subscriptTail value slice (.ref D) (.int k u)) Q E s := by
  have hlt : k.toNat < vs.length := (List.getElem?_eq_some_iff.mp hx).1
  exact item_tupleT (News.isTup N hm) (by omega) (by omega) (j := k.toNat) (PySem.StrLaws.seqIndex_nonneg h0 ((Int.toNat_lt h0).mp hlt)) hx h hs
theorem item_strZ {x : Str} {i : Int} {t u : Tok} (h : (1 ≤ (Txt.item x i).length ∧ (Txt.item x i).length ≤ 1) → Q (.str (Txt.item x i) s.toks) { s with toks := s.toks + 1 }) (hr : fitsSsize i = true := by exact fitsSsize_of (N := 9223372036854775808) (by omega) (by omega) (Int.le_refl _)) (h1 : -(x.length : Int) ≤ i := by omega) (h2 : i < x.length := by omega)
    (hs : subscripted slice false (.str x t) (.int i u) = operate [.str x t, .int i u] (getItem (.str x t) (.int i u)) := by with_unfolding_all rfl) (ht : ∀ r, letTemporaryGo value (.str x t) r = pure () := by intro _; with_unfolding_all rfl) :
    wpAny (model prog w) A (subscriptTail value slice (.str x t) (.int i u)) Q E s := item_str hr h1 h2 h hs ht
theorem item_tupZ (h : Q v s) (N : News g L s.heap led := by assumption) (hm : (D, tupObj vs) ∈ led := by with_reducible assumption) (h0 : 0 ≤ k := by decide) (h1 : k < 1000000 := by decide) (hx : vs[k.toNat]? = some v := by rfl)
    (hs : subscripted slice false (.ref D) (.int k u) = operate [.ref D, .int k u] (getItem (.ref D) (.int k u)) := by with_unfolding_all rfl) :
    wpAny (model prog w) A (subscriptTail value slice (.ref D) (.int k u)) Q E s := item_tup N hm h0 h1 hx h hs
theorem item_lstZ (h : Q v s) (N : News g L s.heap led := by assumption) (hm : (D, LCg.lst vs) ∈ led := by k_mem) (h0 : 0 ≤ k := by decide) (h1 : k < 1000000 := by decide) (hx : vs[k.toNat]? = some v := by rfl)
    (hs : subscripted slice false (.ref D) (.int k u) = operate [.ref D, .int k u] (getItem (.ref D) (.int k u)) := by with_unfolding_all rfl) :
    wpAny (model prog w) A (subscriptTail value slice (.ref D) (.int k u)) Q E s := item_lst N hm h0 h1 hx h hs
end
theorem partsFrom_chars (x : Str) (n : Nat) : ∀ (cuts : List Nat) (a : Nat), ∀ p ∈ StrLaws.partsFrom x n a cuts, ∀ c ∈ p.cps.toList, c ∈ x.cps.toList
  | [], a, p, h, c, hc => by
    rw [List.mem_singleton.mp h, StrLaws.strSub_toList] at hc
    exact List.mem_of_mem_drop (List.mem_of_mem_take hc)
  | b :: r, a, p, h, c, hc => by
    rcases List.mem_cons.mp h with rfl | h
    · rw [StrLaws.strSub_toList] at hc
      exact List.mem_of_mem_drop (List.mem_of_mem_take hc)
    · exact partsFrom_chars x n r _ p h c hc
theorem part_chars {x y a : Str} (h : a ∈ Txt.split x y) : ∀ c ∈ a.cps.toList, c ∈ x.cps.toList := by
  unfold Txt.split at h
  split at h
  · rw [List.mem_singleton.mp h]; exact fun _ h => h
  · split at h
    · rw [List.mem_singleton.mp h]; exact fun _ h => h
    · rw [StrLaws.partsBetween_eq] at h
      exact partsFrom_chars x _ _ _ a h
theorem slice_from {src : Str} {i : Int} (h : 0 ≤ i) : (Txt.slice src (some i) none).cps.toList = src.cps.toList.drop i.toNat := by
  obtain ⟨n, rfl⟩ := Int.eq_ofNat_of_zero_le h
  exact slice_sn src n
theorem rest_nil {y : Str × Tok} {rest : List (Str × Tok)} (h : (((y :: rest : List (Str × Tok)).length : Nat) : Int) = 1) : rest.map (·.1) = [] := by
  have : rest.length = 0 := by simp only [List.length_cons] at h; omega
  rw [List.length_eq_zero_iff.mp this]; rfl
theorem rest_ne {y : Str × Tok} {rest : List (Str × Tok)} (h : (((y :: rest : List (Str × Tok)).length : Nat) : Int) ≠ 1) : rest.map (·.1) ≠ [] := by
  intro e
  have : rest.length = 0 := by rw [← List.length_map (as := rest) (f := (·.1)), e]; rfl
  exact h (by simp only [List.length_cons]; omega)
theorem filt_yes {α : Type} {f : α → Bool} {l : List α} {i : Nat} {a : α} (h : l[i]? = some a) (hf : f a = true) : (l.take (i + 1)).filter f = (l.take i).filter f ++ [a] := by
  rw [List.take_add_one, h, Option.toList_some, List.filter_append, List.filter_cons_of_pos hf]; rfl
theorem filt_no {α : Type} {f : α → Bool} {l : List α} {i : Nat} {a : α} (h : l[i]? = some a) (hf : f a = false) : (l.take (i + 1)).filter f = (l.take i).filter f := by
  rw [List.take_add_one, h, Option.toList_some, List.filter_append, List.filter_cons_of_neg (by simp [hf])]; simp
theorem litC : (Str.ofString "Unterminated string ").length = 20 := by kernel_rfl
theorem litA : (Str.ofString "Invalid initial character for a key part ").length = 41 := by kernel_rfl
theorem litB : (Str.ofString " ").length = 1 := by kernel_rfl
inductive Due (src : Str) (p0 : Int) (evs : List (Int × Int × Str)) : Except Str (Int × Str) → Prop
  | litEnd {y : Str} {rest : List Str} : (Txt.slice src (some p0) (some (p0 + 1)) == aps) = true → Txt.split (Txt.slice src (some (p0 + 1)) none) aps = y :: rest → rest = [] → Due src p0 evs (.error (Str.ofString "Expected \"'\" (at end of document)"))
  | litLow {y : Str} {rest : List Str} {k : Int} {ks : List Int} : (Txt.slice src (some p0) (some (p0 + 1)) == aps) = true → Txt.split (Txt.slice src (some (p0 + 1)) none) aps = y :: rest → rest ≠ [] → lows y y.length = k :: ks → Due src p0 evs (.error (Str.empty ++ Str.ofString "Found invalid character " ++ reprText (Txt.item y k) ++ Str.ofString " " ++ spotL src (p0 + 1 + k)))
  | litOk {y : Str} {rest : List Str} : (Txt.slice src (some p0) (some (p0 + 1)) == aps) = true → Txt.split (Txt.slice src (some (p0 + 1)) none) aps = y :: rest → rest ≠ [] → lows y y.length = [] → Due src p0 evs (.ok (p0 + y.length + 2, y))
  | text {k pl : Int} {wd : Str} : (Txt.slice src (some p0) (some (p0 + 1)) == Str.ofString "\"") = true → (evs.filter (fun e => decide (p0 < e.1))).headD (0, (src.length : Int), Str.ofString "Unterminated string ") = (k, pl, wd) → (wd == Str.ofString "") = true → Due src p0 evs (.ok (k + 1, readT (Txt.slice src (some (p0 + 1)) (some k))))
  | bad {k pl : Int} {wd : Str} : (Txt.slice src (some p0) (some (p0 + 1)) == Str.ofString "\"") = true → (evs.filter (fun e => decide (p0 < e.1))).headD (0, (src.length : Int), Str.ofString "Unterminated string ") = (k, pl, wd) → (wd == Str.ofString "") = false → Due src p0 evs (.error (wd ++ spotL src pl))
  | other {e : Int} : (Txt.slice src (some p0) (some (p0 + 1)) == aps) = false → (Txt.slice src (some p0) (some (p0 + 1)) == Str.ofString "\"") = false → e = (src.length : Int) - ((Txt.lstripChars (Txt.slice src (some p0) none) (Str.ofString "abcdefghijklmnopqrstuvwxyzABCDEFGHIJKLMNOPQRSTUVWXYZ0123456789-_")).length : Int) → ((Txt.slice src (some p0) (some (p0 + 1)) == Str.ofString "") = true ∨ e = p0) → Due src p0 evs (.error (Str.ofString "Invalid initial character for a key part " ++ spotL src p0))
  | bare {e : Int} : (Txt.slice src (some p0) (some (p0 + 1)) == aps) = false → (Txt.slice src (some p0) (some (p0 + 1)) == Str.ofString "\"") = false → e = (src.length : Int) - ((Txt.lstripChars (Txt.slice src (some p0) none) (Str.ofString "abcdefghijklmnopqrstuvwxyzABCDEFGHIJKLMNOPQRSTUVWXYZ0123456789-_")).length : Int) → (Txt.slice src (some p0) (some (p0 + 1)) == Str.ofString "") = false → e ≠ p0 → Due src p0 evs (.ok (e, Txt.slice src (some p0) (some e)))
def RetV (r : Except Str (Int × Str)) (v : Value) (new : List (Addr × Obj)) : Prop := match r with
  | .error x => new = [] ∧ ∃ t, v = .str x t
  | .ok (i, x) => ∃ a t1 t2, v = .ref a ∧ new = [(a, tupObj [.int i t1, .str x t2])]
theorem EvsAre.length {led : List (Addr × Obj)} {vs : List Value} {es : List (Int × Int × Str)} (H : EvsAre led vs es) : vs.length = es.length := by
  induction H with
  | nil => rfl
  | cons _ _ ih => rw [List.length_cons, List.length_cons, ih]
theorem EvsAre.at {led : List (Addr × Obj)} {vs : List Value} {es : List (Int × Int × Str)} (H : EvsAre led vs es) : ∀ {i : Nat} {v : Value}, vs[i]? = some v → ∃ e, es[i]? = some e ∧ EvAt led v e := by
  induction H with
  | nil => intro i v h; simp at h
  | cons a _ ih =>
    intro i v h
    cases i with
    | zero => simp at h; subst h; exact ⟨_, rfl, a⟩
    | succ i => exact ih (by simpa using h)
end
section
open PySem.Spec PySem.Calls PySem.StrLaws PySem.Builtin.Str
theorem occ_cases (x y : Str) (lo hi : Nat) : (occurrences x y lo hi 1 = [] ∧ ∀ i, lo ≤ i → ¬ At x y hi i) ∨ (∃ k r, occurrences x y lo hi 1 = k :: r ∧ lo ≤ k ∧ At x y hi k ∧ ∀ j, lo ≤ j → j < k → ¬ At x y hi j) := by
  rw [occ_eq]
  rcases occ_first x y hi 1 (by decide) (List.range' lo (hi + 1 - lo)) lo (fun i hi => (List.mem_range'_1.mp hi).1) with ⟨h0, hn⟩ | ⟨pre, a, post, e, h0, ha, hn⟩
  · refine .inl ⟨by rw [h0], fun i hi hA => ?_⟩
    have := hA.1
    exact hn i (List.mem_range'_1.mpr ⟨hi, in_rng hi this⟩) hA
  · have ha2 : a = lo + pre.length := by
      have e1 : (List.range' lo (hi + 1 - lo))[pre.length]? = some a := by rw [e]; simp
      obtain ⟨hl, e2⟩ := List.getElem?_eq_some_iff.mp e1
      rw [← e2, List.getElem_range', Nat.one_mul]
    refine .inr ⟨a, ((forIn (List.range' lo (hi + 1 - lo)) ((#[] : Array Nat), lo) (occBody x y hi 1)).run.fst.toList).tail, ?_, by rw [ha2]; exact Nat.le_add_right .., ha, fun j h1 h2 => ?_⟩
    · generalize (forIn (List.range' lo (hi + 1 - lo)) ((#[] : Array Nat), lo) (occBody x y hi 1)).run.fst = arr at h0
      have h1 : arr.toList[0]? = some a := by simpa using h0
      cases hL : arr.toList with
      | nil => rw [hL] at h1; cases h1
      | cons b t => rw [hL] at h1; simp at h1; rw [h1]; rfl
    · refine hn j ?_
      have hpre : j - lo < pre.length := Nat.sub_lt_left_of_lt_add h1 (ha2 ▸ h2)
      have e1 : (List.range' lo (hi + 1 - lo))[j - lo]? = some j := by
        have : j - lo < hi + 1 - lo := by
          have := congrArg List.length e
          simp only [List.length_range', List.length_append, List.length_cons] at this
          rw [this]; exact Nat.lt_of_lt_of_le hpre (Nat.le_add_right ..)
        rw [List.getElem?_range' this]
        congr 1
        rw [Nat.one_mul, Nat.add_sub_cancel' h1]
      rw [e, List.getElem?_append_left hpre] at e1
      exact List.mem_of_getElem? e1
theorem st_a : aps = tx [39] := by kernel_rfl
theorem st_e : Str.ofString "" = tx [] := rfl
theorem ap_step (c : Nat) (l cur : List Nat) : spl [39] 0 cur (c :: l) = if c = 39 then cur :: spl [39] 0 [] l else spl [39] 0 (cur ++ [c]) l := by
  rw [spl]
  by_cases h : c = 39
  · subst h; rw [if_pos (by simp [List.isPrefixOf]), if_pos rfl]; rfl
  · rw [if_neg (by simp [List.isPrefixOf]; exact fun q => h q.symm), if_neg h]
theorem ap_none : ∀ (l cur : List Nat), 39 ∉ l → spl [39] 0 cur l = [cur ++ l]
  | [], cur, _ => by rw [spl_nil]; simp
  | c :: l, cur, h => by
    rw [ap_step, if_neg (fun e => h (by simp [e])), ap_none l _ (fun m => h (List.mem_cons_of_mem _ m))]
    simp
theorem ap_some : ∀ (a cur b : List Nat), 39 ∉ a → spl [39] 0 cur (a ++ 39 :: b) = (cur ++ a) :: spl [39] 0 [] b
  | [], cur, b, _ => by
    rw [List.nil_append, ap_step, if_pos rfl, List.append_nil]
  | c :: a, cur, b, h => by
    rw [List.cons_append, ap_step, if_neg (fun e => h (by simp [e])), ap_some a _ b (fun m => h (List.mem_cons_of_mem _ m))]
    simp
theorem cut_at {l : List Nat} {c : Nat} : c ∉ l ∨ ∃ a b, l = a ++ c :: b ∧ c ∉ a := by
  by_cases h : c ∈ l
  · obtain ⟨a, b, e, hn⟩ := List.append_of_mem h |> fun _ => List.eq_append_cons_of_mem h
    exact .inr ⟨a, b, e, hn⟩
  · exact .inl h
theorem lows_mem {y : Str} {i k : Nat} (hk : k < i) (h : Sign lowP (Txt.item y (k : Int)) = true) : (k : Int) ∈ lows y i := by
  unfold lows
  exact List.mem_map.mpr ⟨k, List.mem_filter.mpr ⟨List.mem_range.mpr hk, h⟩, rfl⟩
theorem lows_min {y : Str} : ∀ {i : Nat} {k : Int} {ks : List Int}, lows y i = k :: ks → ∀ j : Nat, (j : Int) < k → Sign lowP (Txt.item y (j : Int)) = false
  | 0, k, ks, h => by simp [lows] at h
  | i + 1, k, ks, h => by
    cases hl : Sign lowP (Txt.item y (i : Int)) with
    | false => rw [lows_no hl] at h; exact lows_min h
    | true =>
      rw [lows_yes hl] at h
      cases hp : lows y i with
      | nil =>
        rw [hp] at h
        have : (i : Int) = k := by simpa using (List.cons.inj h).1
        intro j hj
        cases hs : Sign lowP (Txt.item y (j : Int)) with
        | false => rfl
        | true =>
          have hm := lows_mem (y := y) (i := i) (k := j) (by omega) hs
          rw [hp] at hm; cases hm
      | cons k2 ks2 =>
        rw [hp] at h
        have : k2 = k := by simpa using (List.cons.inj h).1
        subst this
        exact lows_min hp
theorem tw_app {g : Nat → Bool} : ∀ {u v : List Nat}, (∀ c ∈ u, g c = true) → (∀ c, v.head? = some c → g c = false) → (u ++ v).takeWhile g = u
  | [], [], _, _ => rfl
  | [], c :: v, _, h => by
    rw [List.nil_append, List.takeWhile_cons, if_neg (by rw [h c rfl]; exact Bool.false_ne_true)]
  | a :: u, v, h, hv => by
    rw [List.cons_append, List.takeWhile_cons, if_pos (h a (List.mem_cons_self ..)), tw_app (fun c hc => h c (List.mem_cons_of_mem _ hc)) hv]
abbrev bares : Str := Str.ofString "abcdefghijklmnopqrstuvwxyzABCDEFGHIJKLMNOPQRSTUVWXYZ0123456789-_"
theorem bares_eq : bares.cps.contains = bareP := funext fun c => (Array.contains_toList (xs := bares.cps)).symm.trans (set_p (L := bares.cps.toList) (p := bareP) (by decide +kernel) (by decide +kernel) (fun c h => by
  simp only [bareP, Bool.or_eq_false_iff, Bool.and_eq_false_iff, decide_eq_false_iff_not, beq_eq_false_iff_ne]
  exact ⟨⟨⟨⟨.inr (by omega), .inr (by omega)⟩, .inr (by omega)⟩, by omega⟩, by omega⟩) c)
section
variable {src : Str}
theorem dropw_len (l : List Nat) (g : Nat → Bool) : (l.dropWhile g).length = l.length - (l.takeWhile g).length := by
  rw [← drop_tw, List.length_drop]
theorem end_eq {p : Nat} (hp : p ≤ src.length) : (src.length : Int) - ((Txt.lstripChars (Txt.slice src (some (p : Int)) none) bares).length : Int) = (p : Int) + ((src.cps.toList.drop p).takeWhile bareP).length := by
  have h1 : (Txt.lstripChars (Txt.slice src (some (p : Int)) none) bares).length = (src.cps.toList.drop p).length - ((src.cps.toList.drop p).takeWhile bareP).length := by
    show (Txt.stripBy bares.cps.contains true false _).length = _
    rw [bares_eq, ← len_list, lstrip_list, slice_sn, dropw_len]
  have h2 := (List.takeWhile_prefix (l := src.cps.toList.drop p) bareP).length_le
  rw [h1]
  rw [List.length_drop, len_list] at h2 ⊢
  refine Int.sub_eq_iff_eq_add.mpr (congrArg Nat.cast (?_ : src.length = p + _ + (src.length - p - _)))
  rw [Nat.add_assoc, Nat.add_sub_cancel' h2, Nat.add_sub_cancel' hp]
theorem sign_tx {p c : Nat} (h : src.cps.toList[p]? = some c) : Txt.slice src (some (p : Int)) (some ((p : Int) + 1)) = tx [c] := by
  have := slI (src := src) (i := p) (a := 0) (b := 1)
  rw [Nat.add_zero, drop_at h] at this
  simpa using this
theorem sign_none {p : Nat} (h : src.length ≤ p) : Txt.slice src (some (p : Int)) (some ((p : Int) + 1)) = tx [] := by
  have := slI (src := src) (i := p) (a := 0) (b := 1)
  rw [List.drop_eq_nil_of_le (by rw [len_list]; exact h)] at this
  simpa using this
theorem bas_total {start : Int} {res : Str} (hs : (src.length : Int) < 1000000) : ∀ (m i : Nat), src.length - i ≤ m → ∀ (start : Int) (res : Str), ∃ r, Bas src (i : Int) start res r := by
  intro m
  induction m with
  | zero =>
    intro i hi start res
    exact ⟨_, .eof (Int.ofNat_le.mpr (Nat.le_of_sub_eq_zero (Nat.le_zero.mp hi)))⟩
  | succ m ih =>
    intro i hi start res
    have hs1 : src.length - (i + 1) ≤ m := (Nat.sub_le_of_le_add hi : src.length - i - 1 ≤ m)
    by_cases hp : (i : Int) < src.length
    · by_cases h1 : Txt.item src (i : Int) = Str.ofString "\""
      · exact ⟨_, .quote hp h1⟩
      · by_cases h2 : Txt.item src (i : Int) = Str.ofString "\\"
        · cases he : escChar src (i : Int) with
          | error m => exact ⟨_, .escErr hp h2 he⟩
          | ok q =>
            obtain ⟨p2, x⟩ := q
            obtain ⟨a, b, _⟩ := escChar_ok (Int.natCast_nonneg i) he
            obtain ⟨j, rfl⟩ := Int.eq_ofNat_of_zero_le (Int.le_trans (Int.natCast_nonneg (i + 2)) a)
            obtain ⟨r, hr⟩ := ih j (Nat.le_trans (Nat.sub_le_sub_left (Nat.le_of_succ_le ((Int.ofNat_le (m := i + 2)).mp a)) _) hs1) (j : Int) (res ++ Txt.slice src (some start) (some (i : Int)) ++ x)
            exact ⟨r, .esc hp h2 he hr⟩
        · cases hl : Sign lowP (Txt.item src (i : Int)) with
          | true => exact ⟨_, .low hp h1 h2 hl⟩
          | false =>
            obtain ⟨r, hr⟩ := ih (i + 1) hs1 start res
            exact ⟨r, .plain hp h1 h2 hl (by simpa using hr)⟩
    · exact ⟨_, .eof (Int.not_lt.mp hp)⟩
variable {evs : List Ev}
theorem quote_due (hE : EvsUpto src src.length evs) {p : Nat} (hq : src.cps.toList[p]? = some 34) {r : Except Str (Int × Str)} (hB : Bas src ((p : Int) + 1) ((p : Int) + 1) Str.empty r) :
    ∃ o, DueQ src o (p + 1) Str.empty r ∧ (evs.filter (fun e => decide ((p : Int) < e.1))).headD (0, (src.length : Int), Str.ofString "Unterminated string ") = o.getD (0, (src.length : Int), Str.ofString "Unterminated string ") := by
  obtain ⟨f, hf, rfl⟩ := evs_form hE
  have hb : bsl src.cps.toList (p + 1) = 0 := by rw [bsl_step hq, if_neg (by decide)]
  have h := bas_due hf hB (p + 1) (p + 1) (by push_cast; rfl) (by push_cast; rfl) (Nat.le_refl _) (lt_at hq) (by rw [hb])
  rw [show (p : Int) + 1 = ((p + 1 : Nat) : Int) by push_cast; rfl, slice_none, tx_nil, str_append_empty] at h
  exact ⟨_, h, head_first (fun j hj e he => ev_place (by rw [← he]; exact hf j hj)) _⟩
theorem body_tx {p kn : Nat} : Txt.slice src (some ((p : Int) + 1)) (some (kn : Int)) = tx ((src.cps.toList.drop (p + 1)).take (kn - (p + 1))) := by
  refine str_of_list ?_
  rw [show (p : Int) + 1 = ((p + 1 : Nat) : Int) by push_cast; rfl, slice_ss]
theorem ne_words {M : Str} : (M ++ Str.ofString " " == Str.ofString "") = false := by
  rw [beq_eq_false_iff_ne]
  intro e
  have := congrArg Str.length e
  rw [PySem.Str.length_append] at this
  have h1 : (Str.ofString " ").length = 1 := by kernel_rfl
  have h2 : (Str.ofString "").length = 0 := by kernel_rfl
  omega
theorem body_ok (hsz : (src.length : Int) < 1000000) (hE : EvsUpto src src.length evs) {p : Nat} (hs : (Txt.slice src (some (p : Int)) (some ((p : Int) + 1)) == Str.ofString "\"") = true) {k pl : Int} {wd : Str} (h : (evs.filter (fun e => decide ((p : Int) < e.1))).headD (0, (src.length : Int), Str.ofString "Unterminated string ") = (k, pl, wd)) (hw : (wd == Str.ofString "") = true) :
    ∀ x ∈ Txt.split (Txt.slice src (some ((p : Int) + 1)) (some k)) bs2, ∀ q ∈ (Txt.split x bs1).tail, PieceOk q := by
  have hq : src.cps.toList[p]? = some 34 := by
    cases hc : src.cps.toList[p]? with
    | none =>
      have := List.getElem?_eq_none_iff.mp hc
      rw [len_list] at this
      rw [sign_none this, st_q, tx_beq] at hs
      cases hs
    | some c =>
      rw [sign_tx hc, st_q, tx_beq] at hs
      simpa using hs
  obtain ⟨r, hB⟩ := bas_total (src := src) (start := 0) (res := Str.empty) hsz src.length (p + 1) (Nat.sub_le ..) ((p : Int) + 1) Str.empty
  obtain ⟨o, hD, hh⟩ := quote_due hE hq (by push_cast at hB; exact hB)
  rw [h] at hh
  cases o with
  | none =>
    have hw2 : wd = Str.ofString "Unterminated string " := (Prod.mk.inj (Prod.mk.inj hh).2).2
    rw [hw2] at hw
    exact absurd hw (by decide +kernel)
  | some e =>
    obtain ⟨k', pl', w'⟩ := e
    cases hh
    rcases hD with ⟨_, kn, out, rfl, _, _, h5, _⟩ | ⟨M, _, _, rfl, _⟩
    · rw [body_tx]
      exact dec_pieces h5
    · rw [ne_words] at hw; cases hw
end
end
section
open PySem.Spec PySem.Calls PySem.StrLaws PySem.Builtin.Str
theorem inv_words : Str.ofString "Invalid initial character for a key part " = Str.ofString "Invalid initial character for a key part" ++ Str.ofString " " := by decide +kernel
theorem unt_words : Str.ofString "Unterminated string " = Str.ofString "Unterminated string" ++ Str.ofString " " := by decide +kernel
theorem exp_words {src : Str} : sfxT src src.length (Str.ofString "Expected " ++ reprText aps) = Str.ofString "Expected \"'\" (at end of document)" := by
  unfold sfxT spotW
  rw [if_pos (Int.le_refl _)]
  decide +kernel
theorem inv_due {src : Str} {p : Nat} : Str.ofString "Invalid initial character for a key part " ++ spotL src (p : Int) = sfxT src (p : Int) (Str.ofString "Invalid initial character for a key part") := by
  rw [inv_words, spot_eq (by omega)]
section
variable {src : Str} {evs : List Ev} {p : Nat} {r r' : Except Str (Int × Str)}
theorem due_other (h1 : (Txt.slice src (some (p : Int)) (some ((p : Int) + 1)) == aps) = false) (h2 : (Txt.slice src (some (p : Int)) (some ((p : Int) + 1)) == Str.ofString "\"") = false)
    (h3 : (Txt.slice src (some (p : Int)) (some ((p : Int) + 1)) == Str.ofString "") = true ∨ (src.length : Int) - ((Txt.lstripChars (Txt.slice src (some (p : Int)) none) bares).length : Int) = p) (hD : Due src p evs r) : r = .error (sfxT src (p : Int) (Str.ofString "Invalid initial character for a key part")) := by
  cases hD with
  | litEnd h => exact (tt h h1).elim
  | litLow h => exact (tt h h1).elim
  | litOk h => exact (tt h h1).elim
  | text h => exact (tt h h2).elim
  | bad h => exact (tt h h2).elim
  | other => rw [inv_due]
  | bare _ _ he h5 h6 =>
    subst he
    rcases h3 with h3 | h3
    · exact (tt h3 h5).elim
    · exact absurd h3 h6
theorem due_bare {e : Nat} (h1 : (Txt.slice src (some (p : Int)) (some ((p : Int) + 1)) == aps) = false) (h2 : (Txt.slice src (some (p : Int)) (some ((p : Int) + 1)) == Str.ofString "\"") = false) (h3 : (Txt.slice src (some (p : Int)) (some ((p : Int) + 1)) == Str.ofString "") = false)
    (he : (src.length : Int) - ((Txt.lstripChars (Txt.slice src (some (p : Int)) none) bares).length : Int) = e) (hp : e ≠ p) (hD : Due src p evs r) : r = .ok ((e : Int), Txt.slice src (some (p : Int)) (some (e : Int))) := by
  cases hD with
  | litEnd h => exact (tt h h1).elim
  | litLow h => exact (tt h h1).elim
  | litOk h => exact (tt h h1).elim
  | text h => exact (tt h h2).elim
  | bad h => exact (tt h h2).elim
  | other _ _ he2 h6 =>
    subst he2
    rcases h6 with h6 | h6
    · exact (tt h6 h3).elim
    · rw [he] at h6; omega
  | bare _ _ he2 => subst he2; rw [he]
theorem due_text (hs : (Txt.slice src (some (p : Int)) (some ((p : Int) + 1)) == Str.ofString "\"") = true) (h1 : (Txt.slice src (some (p : Int)) (some ((p : Int) + 1)) == aps) = false) {o : Option Ev} (hQ : DueQ src o (p + 1) Str.empty r)
    (hh : (evs.filter (fun e => decide ((p : Int) < e.1))).headD (0, (src.length : Int), Str.ofString "Unterminated string ") = o.getD (0, (src.length : Int), Str.ofString "Unterminated string ")) (hD : Due src p evs r') : r = r' := by
  cases hD with
  | litEnd h => exact (tt h h1).elim
  | litLow h => exact (tt h h1).elim
  | litOk h => exact (tt h h1).elim
  | other _ h => exact (tt hs h).elim
  | bare _ h => exact (tt hs h).elim
  | text _ h hw =>
    rw [h] at hh
    cases o with
    | none =>
      have hw2 := (Prod.mk.inj (Prod.mk.inj hh).2).2
      rw [hw2] at hw
      exact absurd hw (by decide +kernel)
    | some e =>
      obtain ⟨k', pl', w'⟩ := e
      cases hh
      rcases hQ with ⟨_, kn, out, rfl, _, _, h5, h6⟩ | ⟨M, _, _, rfl, _⟩
      · rw [h6, body_tx, dec_read h5, PySem.Str.empty_append]
      · rw [ne_words] at hw; cases hw
  | bad _ h hw =>
    rw [h] at hh
    cases o with
    | none =>
      cases hh
      have : r = .error (sfxT src src.length (Str.ofString "Unterminated string")) := hQ
      rw [this, unt_words, spot_eq (by omega)]
    | some e =>
      obtain ⟨k', pl', w'⟩ := e
      cases hh
      rcases hQ with ⟨h5, _⟩ | ⟨M, _, h6, rfl, h7⟩
      · rw [h5] at hw
        exact absurd hw (by decide +kernel)
      · rw [h7, spot_eq h6]
theorem item_body {a b : List Nat} (hl : src.cps.toList.drop (p + 1) = a ++ b) {k : Nat} (hk : k < a.length) : Txt.item (tx a) (k : Int) = Txt.item src ((p : Int) + 1 + k) := by
  have h1 : (tx a).cps.toList[k]? = some a[k] := List.getElem?_eq_getElem hk
  have h2 : src.cps.toList[p + 1 + k]? = some a[k] := by
    have := congrArg (fun l => l[k]?) hl
    simp only [List.getElem?_drop] at this
    rw [this, List.getElem?_append_left hk, List.getElem?_eq_getElem hk]
  rw [item_at h1, show (p : Int) + 1 + (k : Int) = ((p + 1 + k : Nat) : Int) by push_cast; rfl, item_at h2]
theorem due_lit_none (hs : (Txt.slice src (some (p : Int)) (some ((p : Int) + 1)) == aps) = true) (h2 : (Txt.slice src (some (p : Int)) (some ((p : Int) + 1)) == Str.ofString "\"") = false) (hn : 39 ∉ src.cps.toList.drop (p + 1)) (hD : Due src p evs r) : r = .error (Str.ofString "Expected \"'\" (at end of document)") := by
  have hsp : Txt.split (Txt.slice src (some ((p : Int) + 1)) none) aps = [tx (src.cps.toList.drop (p + 1))] := by
    have e : Txt.slice src (some ((p : Int) + 1)) none = tx (src.cps.toList.drop (p + 1)) := str_of_list (by rw [show (p : Int) + 1 = ((p + 1 : Nat) : Int) by push_cast; rfl, slice_sn])
    rw [e, st_a, split_tx _ _ (by decide) (by decide +kernel), list_tx, ap_none _ _ hn]; rfl
  cases hD with
  | litEnd => rfl
  | litLow _ h h3 => rw [hsp] at h; exact absurd (List.cons.inj h).2.symm h3
  | litOk _ h h3 => rw [hsp] at h; exact absurd (List.cons.inj h).2.symm h3
  | text h => exact (tt h h2).elim
  | bad h => exact (tt h h2).elim
  | other h => exact (tt hs h).elim
  | bare h => exact (tt hs h).elim
theorem due_lit_some (hs : (Txt.slice src (some (p : Int)) (some ((p : Int) + 1)) == aps) = true) (h2 : (Txt.slice src (some (p : Int)) (some ((p : Int) + 1)) == Str.ofString "\"") = false) {a b : List Nat} (hl : src.cps.toList.drop (p + 1) = a ++ 39 :: b) (hn : 39 ∉ a) (hD : Due src p evs r) :
    (lows (tx a) a.length = [] ∧ r = .ok ((p : Int) + a.length + 2, tx a)) ∨ (∃ k ks, lows (tx a) a.length = k :: ks ∧ r = .error (sfxT src ((p : Int) + 1 + k) (Str.ofString "Found invalid character " ++ reprText (Txt.item (tx a) k)))) := by
  have hsp : Txt.split (Txt.slice src (some ((p : Int) + 1)) none) aps = tx a :: (spl [39] 0 [] b).map tx := by
    have e : Txt.slice src (some ((p : Int) + 1)) none = tx (src.cps.toList.drop (p + 1)) := str_of_list (by rw [show (p : Int) + 1 = ((p + 1 : Nat) : Int) by push_cast; rfl, slice_sn])
    rw [e, st_a, split_tx _ _ (by decide) (by decide +kernel), list_tx, hl, ap_some _ _ _ hn]; rfl
  cases hD with
  | litEnd _ h h3 =>
    rw [hsp] at h
    rw [h3] at h
    have := (List.cons.inj h).2
    rw [List.map_eq_nil_iff] at this
    exact absurd this (spl_ne _ _ _ _)
  | litLow _ h h3 h4 =>
    rw [hsp] at h
    obtain ⟨rfl, rfl⟩ := List.cons.inj h
    refine .inr ⟨_, _, h4, ?_⟩
    have := lows_head h4
    rw [PySem.Str.empty_append, spot_eq (by omega)]
  | litOk _ h h3 h4 =>
    rw [hsp] at h
    obtain ⟨rfl, rfl⟩ := List.cons.inj h
    exact .inl ⟨h4, by rw [tx_len]⟩
  | text h => exact (tt h h2).elim
  | bad h => exact (tt h h2).elim
  | other h => exact (tt hs h).elim
  | bare h => exact (tt hs h).elim
theorem from_p1 {n : Nat} : fromIndex n ((p : Int) + 1) = p + 1 := (from_pos (i := (p : Int) + 1) (Int.natCast_nonneg (p + 1))).trans rfl
theorem lit_at {k : Nat} {rr : List Nat} (hk : occurrences src aps (fromIndex src.length ((p : Int) + 1)) src.length 1 = k :: rr) :
    p + 1 ≤ k ∧ k < src.length ∧ src.cps.toList.drop (p + 1) = (src.cps.toList.drop (p + 1)).take (k - (p + 1)) ++ 39 :: src.cps.toList.drop (k + 1) ∧ ((src.cps.toList.drop (p + 1)).take (k - (p + 1))).length = k - (p + 1) ∧ 39 ∉ (src.cps.toList.drop (p + 1)).take (k - (p + 1)) := by
  rw [from_p1] at hk
  rcases occ_cases src aps (p + 1) src.length with ⟨h0, _⟩ | ⟨k', rr', hk', hlo, hA, hmin⟩
  · rw [h0] at hk; cases hk
  rw [hk'] at hk
  have e9 := (List.cons.inj hk).1
  subst e9
  rw [show aps = (⟨#[39]⟩ : Str) from st_a] at hA hmin
  have hA := (at_one (Nat.le_refl _)).mp hA
  have hla : ((src.cps.toList.drop (p + 1)).take (k' - (p + 1))).length = k' - (p + 1) := by
    rw [List.length_take, List.length_drop, len_list]; exact Nat.min_eq_left (Nat.sub_le_sub_right (Nat.le_of_lt hA.1) _)
  refine ⟨hlo, hA.1, ?_, hla, ?_⟩
  · conv => lhs; rw [← List.take_append_drop (k' - (p + 1)) (src.cps.toList.drop (p + 1)), List.drop_drop, Nat.add_sub_cancel' hlo, drop_at hA.2]
  · intro hm
    obtain ⟨j, hj, e⟩ := List.getElem_of_mem hm
    rw [hla] at hj
    rw [List.getElem_take, List.getElem_drop] at e
    have hjk := Nat.add_lt_of_lt_sub' hj
    have hjl := Nat.lt_trans hjk hA.1
    exact hmin (p + 1 + j) (Nat.le_add_right _ _) hjk ((at_one (Nat.le_refl _)).mpr ⟨hjl, by rw [List.getElem?_eq_getElem (by rw [len_list]; exact hjl), e]⟩)
theorem aps_at (hp : (p : Int) < src.length) (hq : Txt.item src (p : Int) = aps) : (Txt.slice src (some (p : Int)) (some ((p : Int) + 1)) == aps) = true ∧ (Txt.slice src (some (p : Int)) (some ((p : Int) + 1)) == Str.ofString "\"") = false := by
  obtain ⟨c, hc, hic⟩ := item_ex (x := src) (i := (p : Int)) (Int.natCast_nonneg p) hp
  rw [Int.toNat_natCast] at hc
  have hc39 : c = 39 := by
    rw [hic, st_a] at hq
    exact (List.cons.inj (tx_inj (a := [c]) (b := [39]) hq)).1
  subst hc39
  exact ⟨by rw [sign_tx hc, st_a, tx_beq]; rfl, by rw [sign_tx hc, st_q, tx_beq]; rfl⟩
theorem key_due (hE : EvsUpto src src.length evs) (hK : Key src (p : Int) r) (hD : Due src (p : Int) evs r') : r = r' := by
  cases hK with
  | @bare i hp hb hi hi1 hall hend =>
    obtain ⟨c, hc, hic⟩ := item_ex (x := src) (i := (p : Int)) (Int.natCast_nonneg p) hp
    rw [Int.toNat_natCast] at hc
    rw [hic] at hb
    have hbc : bareP c = true := hb
    have h39 : c ≠ 39 := by rintro rfl; exact absurd hbc (by decide)
    have h34 : c ≠ 34 := by rintro rfl; exact absurd hbc (by decide)
    obtain ⟨n, rfl⟩ := Int.eq_ofNat_of_zero_le (Int.le_trans (Int.natCast_nonneg p) hi)
    have hpn := Int.ofNat_le.mp hi
    have hnl := Int.ofNat_le.mp hi1
    have hu : ∀ d ∈ (src.cps.toList.drop p).take (n - p), bareP d = true := by
      intro d hd
      obtain ⟨k, hk, e⟩ := List.getElem_of_mem hd
      rw [List.length_take] at hk
      rw [List.getElem_take, List.getElem_drop] at e
      have hk := Nat.add_lt_of_lt_sub' (Nat.lt_of_lt_of_le hk (Nat.min_le_left ..))
      have h1 : src.cps.toList[p + k]? = some d := by rw [List.getElem?_eq_getElem (by rw [len_list]; exact Nat.lt_of_lt_of_le hk hnl), e]
      have h2 := hall ((p + k : Nat) : Int) (Int.ofNat_le.mpr (Nat.le_add_right p k)) (Int.ofNat_lt.mpr hk)
      rw [item_at h1] at h2
      exact h2
    have hv : ∀ d, (src.cps.toList.drop n).head? = some d → bareP d = false := by
      intro d hd
      have h1 : src.cps.toList[n]? = some d := by rw [← hd, List.head?_drop]
      rcases hend with h | h
      · exact absurd (lt_at h1) (Nat.not_lt_of_le (Nat.le_of_eq (Int.ofNat.inj h).symm))
      · rw [item_at h1] at h; exact h
    have htw : (src.cps.toList.drop p).takeWhile bareP = (src.cps.toList.drop p).take (n - p) := by
      have e : src.cps.toList.drop p = (src.cps.toList.drop p).take (n - p) ++ src.cps.toList.drop n := by
        conv => lhs; rw [← List.take_append_drop (n - p) (src.cps.toList.drop p), List.drop_drop, show p + (n - p) = n from Nat.add_sub_cancel' hpn]
      conv => lhs; rw [e]
      exact tw_app hu hv
    have hp1 : p + 1 ≤ n := by
      rcases Nat.lt_or_ge p n with h | h
      · exact h
      · exfalso
        have hpn : n = p := Nat.le_antisymm h hpn
        subst hpn
        have := hv c (by rw [List.head?_drop]; exact hc)
        rw [hbc] at this; cases this
    rw [due_bare (e := n) (by rw [sign_tx hc, st_a, tx_beq]; simpa using h39) (by rw [sign_tx hc, st_q, tx_beq]; simpa using h34) (by rw [sign_tx hc, st_e, tx_beq]; rfl) (by
      rw [end_eq (Nat.le_of_lt (Int.ofNat_lt.mp hp)), htw, List.length_take, List.length_drop, len_list, Nat.min_eq_left (Nat.sub_le_sub_right hnl p)]
      exact congrArg Nat.cast (Nat.add_sub_cancel' hpn)) (Nat.ne_of_gt hp1) hD]
  | @lit n hp hq hS =>
    obtain ⟨hs, h2⟩ := aps_at hp hq
    obtain ⟨hEnd, hno⟩ := hS
    obtain ⟨k, rr, hk, rfl⟩ : ∃ (k : Nat) (r : List Nat), occurrences src aps (fromIndex src.length ((p : Int) + 1)) src.length 1 = k :: r ∧ n = k := by
      rcases hEnd with h | ⟨_, h, _⟩
      · exact h
      · cases h
    obtain ⟨hlo, hks, hl, hla, hn⟩ := lit_at hk
    have hsl : Txt.slice src (some ((p : Int) + 1)) (some (k : Int)) = tx ((src.cps.toList.drop (p + 1)).take (k - (p + 1))) := body_tx
    rcases due_lit_some hs h2 hl hn hD with ⟨_, rfl⟩ | ⟨kk, ks, hlw, _⟩
    · rw [hsl, hla, show (k : Int) + 1 = (p : Int) + ((k - (p + 1) : Nat) : Int) + 2 by omega]
    · obtain ⟨a1, a2, a3⟩ := lows_head hlw
      obtain ⟨kn, rfl⟩ := Int.eq_ofNat_of_zero_le a1
      have a2 := Int.ofNat_lt.mp a2
      rw [item_body hl a2, hno ((p : Int) + 1 + kn) (Int.le_add_of_nonneg_right (Int.natCast_nonneg _)) (Int.ofNat_lt.mpr (Nat.add_lt_of_lt_sub' (hla ▸ a2)))] at a3
      cases a3
  | litBad hp hq hS =>
    obtain ⟨hs, h2⟩ := aps_at hp hq
    rcases hS with ⟨h0, _, rfl⟩ | ⟨n, q, hEnd, hq1, hq2, hq3, hq4, rfl⟩
    · rw [from_p1] at h0
      have hn : 39 ∉ src.cps.toList.drop (p + 1) := by
        intro hm
        obtain ⟨j, hj, e⟩ := List.getElem_of_mem hm
        rw [List.length_drop, len_list] at hj
        rw [List.getElem_drop] at e
        have hj := Nat.add_lt_of_lt_sub' hj
        rcases occ_cases src aps (p + 1) src.length with ⟨_, hno⟩ | ⟨k', rr', hk', _⟩
        · refine hno (p + 1 + j) (Nat.le_add_right _ _) ?_
          rw [show aps = (⟨#[39]⟩ : Str) from st_a]
          exact (at_one (Nat.le_refl _)).mpr ⟨hj, by rw [List.getElem?_eq_getElem (by rw [len_list]; exact hj), e]⟩
        · rw [hk'] at h0; cases h0
      rw [due_lit_none hs h2 hn hD, exp_words]
    · obtain ⟨k, rr, hk, rfl⟩ : ∃ (k : Nat) (r : List Nat), occurrences src aps (fromIndex src.length ((p : Int) + 1)) src.length 1 = k :: r ∧ n = k := by
        rcases hEnd with h | ⟨_, h, _⟩
        · exact h
        · cases h
      obtain ⟨hlo, hks, hl, hla, hn⟩ := lit_at hk
      obtain ⟨m, rfl⟩ := Int.le.dest hq1
      have hm : m < ((src.cps.toList.drop (p + 1)).take (k - (p + 1))).length := by rw [hla]; exact Nat.lt_sub_iff_add_lt'.mpr (Int.ofNat_lt.mp hq2)
      have hlm : (m : Int) ∈ lows (tx ((src.cps.toList.drop (p + 1)).take (k - (p + 1)))) ((src.cps.toList.drop (p + 1)).take (k - (p + 1))).length := lows_mem hm (by rw [item_body hl hm]; exact hq3)
      rcases due_lit_some hs h2 hl hn hD with ⟨h0, _⟩ | ⟨kk, ks, hlw, rfl⟩
      · rw [h0] at hlm; cases hlm
      · obtain ⟨a1, a2, a3⟩ := lows_head hlw
        obtain ⟨kn, rfl⟩ := Int.eq_ofNat_of_zero_le a1
        have : kn = m := by
          rcases Nat.lt_trichotomy kn m with h | h | h
          · rw [item_body hl (Nat.lt_trans h hm), hq4 ((p : Int) + 1 + kn) (Int.le_add_of_nonneg_right (Int.natCast_nonneg _)) (Int.add_lt_add_left (Int.ofNat_lt.mpr h) _)] at a3
            cases a3
          · exact h
          · have := lows_min hlw m (Int.ofNat_lt.mpr h)
            rw [item_body hl hm, hq3] at this
            cases this
        subst this
        rw [item_body hl hm]
  | quote hp hq hB =>
    obtain ⟨c, hc, hic⟩ := item_ex (x := src) (i := (p : Int)) (Int.natCast_nonneg p) hp
    rw [Int.toNat_natCast] at hc
    have hc34 : c = 34 := by
      rw [hic, st_q] at hq
      have := tx_inj (a := [c]) (b := [34]) hq
      simpa using this
    subst hc34
    obtain ⟨o, hQ, hh⟩ := quote_due hE hc hB
    exact due_text (by rw [sign_tx hc, st_q, tx_beq]; rfl) (by rw [sign_tx hc, st_a, tx_beq]; rfl) hQ hh hD
  | other h =>
    refine (due_other ?_ ?_ ?_ hD).symm
    · rcases h with h | ⟨h1, h2, h3, h4⟩
      · rw [sign_none (Int.ofNat_le.mp h), st_a, tx_beq]; rfl
      · obtain ⟨c, hc, hic⟩ := item_ex (x := src) (i := (p : Int)) (Int.natCast_nonneg p) h1
        rw [Int.toNat_natCast] at hc
        rw [sign_tx hc, beq_eq_false_iff_ne]
        intro e
        exact h3 (by rw [hic]; exact e)
    · rcases h with h | ⟨h1, h2, h3, h4⟩
      · rw [sign_none (Int.ofNat_le.mp h), st_q, tx_beq]; rfl
      · obtain ⟨c, hc, hic⟩ := item_ex (x := src) (i := (p : Int)) (Int.natCast_nonneg p) h1
        rw [Int.toNat_natCast] at hc
        rw [sign_tx hc, beq_eq_false_iff_ne]
        intro e
        exact h4 (by rw [hic]; exact e)
    · rcases h with h | ⟨h1, h2, h3, h4⟩
      · exact .inl (by rw [sign_none (Int.ofNat_le.mp h), st_e]; exact beq_self_eq_true _)
      · obtain ⟨c, hc, hic⟩ := item_ex (x := src) (i := (p : Int)) (Int.natCast_nonneg p) h1
        rw [Int.toNat_natCast] at hc
        rw [hic] at h2
        have h2 : bareP c = false := h2
        refine .inr ?_
        rw [end_eq (Nat.le_of_lt (Int.ofNat_lt.mp h1)), drop_at hc, List.takeWhile_cons, if_neg (by rw [h2]; exact Bool.false_ne_true)]
        simp
theorem ev_bounds (hcs : ∀ c ∈ src.cps.toList, c < 1114112) (hE : EvsUpto src src.length evs) : ∀ e ∈ evs, 0 ≤ e.1 ∧ e.1 ≤ src.length ∧ 0 ≤ e.2.1 ∧ e.2.1 ≤ src.length + 2 ∧ e.2.2.length ≤ 1000 := by
  obtain ⟨f, hf, rfl⟩ := evs_form hE
  intro e he
  obtain ⟨j, hj, hje⟩ := List.mem_filterMap.mp he
  have hj := List.mem_range.mp hj
  have h := hf j hj
  rw [hje] at h
  have b0 : (0 : Int) ≤ j := Int.natCast_nonneg j
  have b1 : (j : Int) ≤ src.length := Int.ofNat_le.mpr (Nat.le_of_lt hj)
  have b2 : (j : Int) + 2 ≤ (src.length : Int) + 2 := Int.add_le_add_right b1 2
  have b3 : (0 : Int) ≤ (j : Int) + 2 := Int.natCast_nonneg (j + 2)
  have b4 : (j : Int) ≤ (src.length : Int) + 2 := Int.le_trans b1 (Int.ofNat_le.mpr (Nat.le_add_right src.length 2))
  cases h with
  | quote =>
    dsimp only
    exact ⟨b0, b1, by first | exact b0 | exact b3 | exact Int.le_refl 0 | omega, by first | exact b4 | exact b2 | omega, Nat.zero_le _⟩
  | low =>
    dsimp only
    refine ⟨b0, b1, by first | exact b0 | exact b3 | omega, by first | exact b4 | exact b2 | omega, ?_⟩
    have h1 := reprItem_len (i := (j : Int)) hcs
    have h2 : (Str.ofString "Illegal character ").length = 18 := by kernel_rfl
    have h3 : (Str.ofString " ").length = 1 := by kernel_rfl
    simp only [PySem.Str.length_append]
    have h4 : Str.empty.length = 0 := rfl
    omega
  | badEsc =>
    dsimp only
    exact ⟨b0, b1, by first | exact b0 | exact b3 | omega, by first | exact b4 | exact b2 | omega, by decide +kernel⟩
  | badHex =>
    dsimp only
    exact ⟨b0, b1, by first | exact b0 | exact b3 | omega, by first | exact b4 | exact b2 | omega, by decide +kernel⟩
  | noSign _ _ hz hl =>
    dsimp only
    have hs : 0 ≤ siz src (j : Int) := by
      show 0 ≤ pick _ 4 8 0
      unfold pick
      split
      · decide
      · split <;> decide
    obtain ⟨z, hz2⟩ := Int.eq_ofNat_of_zero_le hs
    refine ⟨b0, b1, by omega, ?_, by decide +kernel⟩
    have h1 : (dig src (j : Int)).length = min (j + 2 + z - (j + 2)) (src.length - (j + 2)) := by
      show (Txt.slice src (some ((j : Int) + 2)) (some ((j : Int) + 2 + siz src (j : Int)))).length = _
      rw [hz2]
      show (Txt.slice src (some ((j + 2 : Nat) : Int)) (some ((j + 2 + z : Nat) : Int))).length = _
      rw [← len_list, slice_ss, List.length_take, List.length_drop, len_list]
    rw [hz2] at hl ⊢
    have hl : (dig src (j : Int)).length = z := Nat.le_antisymm (by rw [h1, Nat.add_sub_cancel_left]; exact Nat.min_le_left ..) (Nat.le_of_not_lt fun q => hl (Int.ofNat_lt.mpr q))
    rcases min_le2 (h1.symm.trans hl) with h | rfl
    · exact Int.le_trans (Int.ofNat_le.mpr h) (Int.ofNat_le.mpr (Nat.le_add_right src.length 2))
    · exact b2
end
end
section
open PySem.Spec PySem.Calls PySem.Builtin.Str
set_option maxHeartbeats 8000000
theorem news_dup {g h : Heap} {L : Addr} {x : Addr × Obj} {l : List (Addr × Obj)} (N : News g L h l) (hx : x ∈ l) : News g L h (x :: l) := fun q hq => by
  rcases List.mem_cons.mp hq with rfl | hq
  · exact N _ hx
  · exact N q hq
end
noncomputable section
open PySem.Spec PySem.Calls PySem.Builtin.Str
set_option maxHeartbeats 8000000
set_option hygiene false
local macro_rules | `(tactic| walk_at "subscriptTail") => `(tactic| (k_dflt refine item_strZ ?_; intro _))
local macro_rules | `(tactic| walk_at "subscriptTail Name Constant ref int") => `(tactic| (k_dflt (first | refine item_tupZ ?_ | refine item_lstZ ?_ | refine item_ledZ ?_); (try dsimp only)))
local macro_rules | `(tactic| size_fits) => `(tactic| (simp only [PySem.Str.length_append, lits, litA, litB, litC, PySem.sizeLine_eq]; first | (apply Nat.le_trans; walk_at "zb"; decide) | omega))
local macro_rules | `(tactic| walk_at "call builtin:len") => `(tactic| (k_here; with_reducible refine len_first (fun _ => ?_)))
local macro_rules | `(tactic| walk_at "eval ListComp") => `(tactic| (k_here; k_dflt (refine LCt.ListComp_T (F₀ := by k_asm) (by with_unfolding_all rfl) (by decide) (by rfl) (by decide) (by rfl) ?_); k_dflt lct_toSrc))
local macro_rules | `(tactic| walk_at "exec Assign cons ListComp") => `(tactic| refine stop_any ?_)
local macro_rules | `(tactic| walk_at "CompSrcT") => `(tactic| refine stop_any ?_)
local macro_rules | `(tactic| walk_at "call builtin:len") => `(tactic| (k_here; with_reducible refine len_ls (fun _ => ?_)))
set_option hygiene true
namespace Nlawduepur
abbrev AV : Type := World × Str × Tok × Int × Tok × Addr × Array Value × Nat × List (Int × Int × Str)
theorem ne_AV : Nonempty AV := ne_world.elim fun w => ⟨⟨w, default, 0, 0, 0, 0, #[], 0, []⟩⟩
def S1 (v : AV) : Prop :=
  (fun (w : World) (src : Str) (t1 : Tok) (p0 : Int) (t2 : Tok) (Ev : Addr) (vs : Array Value) (n : Nat) (evs : List (Int × Int × Str)) => (0 ≤ p0) → (p0 ≤ src.length + 1) → ((src.length : Int) < 1000000) → (∀ c ∈ src.cps.toList, c < 1114112) → (vs.size ≤ 1000000) → (∀ e ∈ evs, 0 ≤ e.1 ∧ e.1 ≤ src.length ∧ 0 ≤ e.2.1 ∧ e.2.1 ≤ src.length + 2 ∧ e.2.2.length ≤ 1000) → ((Txt.slice src (some p0) (some (p0 + 1)) == Str.ofString "\"") = true → ∀ k pl wd, (evs.filter (fun e => decide (p0 < e.1))).headD (0, (src.length : Int), Str.ofString "Unterminated string ") = (k, pl, wd) → (wd == Str.ofString "") = true → ∀ x ∈ Txt.split (Txt.slice src (some (p0 + 1)) (some k)) bs2, ∀ q ∈ (Txt.split x bs1).tail, PieceOk q) → PurN w 6 100 578 [.str src t1, .int p0 t2, .ref Ev] (fun news => (Ev, W.listOf vs n) ∈ news ∧ EvsAre news vs.toList evs) (fun v new => ∃ r, Due src p0 evs r ∧ RetV r v new)) v.1 v.2.1 v.2.2.1 v.2.2.2.1 v.2.2.2.2.1 v.2.2.2.2.2.1 v.2.2.2.2.2.2.1 v.2.2.2.2.2.2.2.1 v.2.2.2.2.2.2.2.2
@[irreducible] def c9 : AV := eps ne_AV S1
@[irreducible] def w : World := c9.1
@[irreducible] def src : Str := c9.2.1
@[irreducible] def t1 : Tok := c9.2.2.1
@[irreducible] def p0 : Int := c9.2.2.2.1
@[irreducible] def t2 : Tok := c9.2.2.2.2.1
@[irreducible] def Ev : Addr := c9.2.2.2.2.2.1
@[irreducible] def vs : Array Value := c9.2.2.2.2.2.2.1
@[irreducible] def n : Nat := c9.2.2.2.2.2.2.2.1
@[irreducible] def evs : List (Int × Int × Str) := c9.2.2.2.2.2.2.2.2
@[irreducible] def k9 : PV := eps ne_PV (PurNAt w 6 100 578 [.str src t1, .int p0 t2, .ref Ev] (fun news => (Ev, W.listOf vs n) ∈ news ∧ EvsAre news vs.toList evs) (fun v new => ∃ r, Due src p0 evs r ∧ RetV r v new))
abbrev a := k9.a
abbrev news := k9.news
namespace NBody
abbrev AV : Type := Heap × Addr × Heap × Nat × Obj × Obj × (Str → Option Value)
theorem ne_AV : Nonempty AV := ne_CV.elim fun v => ne_world.elim fun w => ⟨⟨v.h₀, 0, v.h₀, 0, tabObj #[], tabObj #[], v.m⟩⟩
def pk : (P : Heap → Addr → Heap → Nat → Obj → Obj → (Str → Option Value) → Prop) ×' (Hid (∀ g' L' h' tk' oP oQ u0, P g' L' h' tk' oP oQ u0) → (∀ (hp0 : 0 ≤ p0) (hp1 : p0 ≤ src.length + 1) (hsz : (src.length : Int) < 1000000) (hcs : ∀ c ∈ src.cps.toList, c < 1114112) (hvs : vs.size ≤ 1000000) (hev : ∀ e ∈ evs, 0 ≤ e.1 ∧ e.1 ≤ src.length ∧ 0 ≤ e.2.1 ∧ e.2.1 ≤ src.length + 2 ∧ e.2.2.length ≤ 1000) (hok : (Txt.slice src (some p0) (some (p0 + 1)) == Str.ofString "\"") = true → ∀ k pl wd, (evs.filter (fun e => decide (p0 < e.1))).headD (0, (src.length : Int), Str.ofString "Unterminated string ") = (k, pl, wd) → (wd == Str.ofString "") = true → ∀ x ∈ Txt.split (Txt.slice src (some (p0 + 1)) (some k)) bs2, ∀ q ∈ (Txt.split x bs1).tail, PieceOk q), PurNAt w 6 100 578 [.str src t1, .int p0 t2, .ref Ev] (fun news => (Ev, W.listOf vs n) ∈ news ∧ EvsAre news vs.toList evs) (fun v new => ∃ r, Due src p0 evs r ∧ RetV r v new) k9)) := by
  apply PSigma.mk
  case snd =>
    intro HP hp0 hp1 hsz hcs hvs hev hok
    intro B F X N T hk hd hu hH hret
    revert X; unfold prog; k_fill; intro X
    refine wpAny_call ?_
    k_dflt (refine' code_defC ?k1 ?k2 ?k3 ?k4 ?k5 ?kA ?kF ?kK ?k6 ?k7 ?k8 ?k9 ?kB ?kD ?_ ?c2 ?c3 ?c4; (case kA => exact rfl); (case kF => exact rfl); (case kK => assumption); (case k1 => k_asm); (case k2 => k_asm); (case k3 => k_asm); (case k4 => k_asm); (case k5 => k_asm); (case k6 => k_is); (case k7 => k_is); (case k8 => ktr_room); (case k9 => exact BindsTo.of_eq rfl); (case kB => exact rfl); (case kD => decide +kernel); (case c2 => exact rfl); (case c3 => exact rfl); (case c4 => exact rfl); k_whole; intro g' L' h' tk' cells' FG' F' N' Y' B' X' T' l1; (try k_lt l1); k_cells Y'; (try simp only [List.cons_append, List.nil_append] at N'); (try dsimp only); (try k_fold))
    rename_i oP oQ dP dQ
    have dP : oP.data = .cell none := dP
    have dQ : oQ.data = .cell (some (.int p0 t2)) := dQ
    obtain ⟨u0, hu1, hu2, F'⟩ : ∃ u0 : Str → Option Value, u0 (Str.ofString "text") = some (.str src t1) ∧ u0 (Str.ofString "events") = some (.ref Ev) ∧ Fr g' L' h' u0 := ⟨_, rfl, rfl, F'⟩
    have F' := fr_eq F' (map_two hu1 hu2)
    revert F'; revert hu2; revert hu1; revert N'; revert dQ; revert dP; revert l1; revert T'; revert X'; revert B'; revert FG'; revert X; revert hret; revert hH; revert hu; revert hd; revert hk; revert T; revert N; revert B; revert hok; revert hev; revert hvs; revert hcs; revert hsz; revert hp1; revert hp0
    exact HP.go g' L' h' tk' oP oQ u0
@[irreducible] def c9 : AV := eps ne_AV fun v => pk.1 v.1 v.2.1 v.2.2.1 v.2.2.2.1 v.2.2.2.2.1 v.2.2.2.2.2.1 v.2.2.2.2.2.2
@[irreducible] def g' : Heap := c9.1
@[irreducible] def L' : Addr := c9.2.1
@[irreducible] def h' : Heap := c9.2.2.1
@[irreducible] def tk' : Nat := c9.2.2.2.1
@[irreducible] def oP : Obj := c9.2.2.2.2.1
@[irreducible] def oQ : Obj := c9.2.2.2.2.2.1
@[irreducible] def u0 : Str → Option Value := c9.2.2.2.2.2.2
theorem body : pk.1 g' L' h' tk' oP oQ u0 := by
  delta pk
  dsimp -zeta only
  intro hp0 hp1 hsz hcs hvs hev hok B N T hk hd hu hH hret X FG' B' X' T' l1 dP dQ N' hu1 hu2 F'
  k_steps
  · rename_i DL ls h1 k1 e1 a1 F1 N1 l2 hs1 hs2
    obtain ⟨⟨y, ty⟩, rest, rfl⟩ := List.exists_cons_of_ne_nil (l := ls) (by intro e; rw [e] at hs1; simp at hs1)
    have hyl : (y.length : Int) < 1000000 := by
      have h3 := part_short (x := Txt.slice src (some (p0 + 1)) none) (y := aps) (a := y) (by rw [← e1]; exact .head _)
      have h4 := PyProof.Txt.length_slice_le src (some (p0 + 1)) none
      omega
    refine storeX_C (c := L' + 1 + 1) (by assumption) N1 rfl (.tail ?n1 (.head ?n2)) dP (fun h4 o4 F4 N4 d4 => ?_) rfl rfl
    case n1 => exact (Nat.ne_of_lt (l2 (_, _) (.head _))).symm
    case n2 =>
      intro q hq
      rcases List.mem_cons.mp hq with rfl | hq
      · exact Nat.ne_of_lt (Nat.lt_succ_self (L' + 1))
      · exact Nat.ne_of_lt (Nat.lt_succ_of_lt (Nat.lt_succ_of_lt (l1 q hq)))
    try dsimp only at N4
    k_steps
    refine Stop.go ?_
    refine LCt.Assign_ListComp_T (F₀ := by k_asm) (by rfl) (by with_unfolding_all rfl) (by with_unfolding_all rfl) (by decide) (by rfl) (by decide) (by rfl) (by rfl) (by rfl) ?_
    k_steps
    refine Stop.go ?_
    rename IsRange _ _ _ _ _ _ _ _ => hR5
    refine LCt.CompSrcT.range (n := y.length) (by rfl) (by assumption) (by assumption) (by assumption) (small_up (by omega)) rangeSize_up (by rw [PySem.sizeLine_eq]; omega) ?_
    intro g2
    refine comp_rest (fun i ys => IntsAre ys (lows y i)) trivial .nil ?_ ?_
    · (intro i ys v I oI C oC D2 m₂ h5 tk5 E' hi hr1 hJ hC hx5 F5 N5 off5 ne5; obtain ⟨tv, rfl⟩ := hr1)
      rw [Int.zero_add] at hx5
      have hi0 : (0 : Int) ≤ (i : Int) := by omega
      have hi1 : (i : Int) < y.length := by omega
      k_steps
      refine Stop.go ?_
      refine law_low_pur_item w y i _ hi0 hi1 _ _ _ _ _ _ _ _ _ _ _ _ _ _ _ _ _ _ _ _ _ _ _ (by assumption) (by assumption) (by assumption) (by assumption) (by assumption) rfl (by ktr_room) (by ktr_units) ?_
      rintro v h6 tk6 rfl F6 N6
      cases hlw : Sign lowP (Txt.item y (i : Int)) with
      | true =>
        k_steps
        exact TurnEnd.intro (by assumption) (by assumption) (fun q hq => hq) (by rw [lows_yes hlw]; exact ints_snoc hJ)
      | false =>
        k_steps
        exact TurnEnd.intro (by assumption) (by assumption) (fun q hq => hq) (by rw [lows_no hlw]; exact hJ)
    · intro ys hJ
      have hsg : (Txt.slice src (some p0) (some (p0 + 1)) == aps) = true := by assumption
      have hyc : ∀ c ∈ y.cps.toList, c < 1114112 := by
        intro c hc
        have h3 := part_chars (x := Txt.slice src (some (p0 + 1)) none) (y := aps) (a := y) (by rw [← e1]; exact .head _) c hc
        rw [slice_from (by omega)] at h3
        exact hcs c (List.mem_of_mem_drop h3)
      have eS : Txt.split (Txt.slice src (some (p0 + 1)) none) aps = y :: rest.map (·.1) := e1.symm
      generalize hlo : lows y y.length = ks at hJ
      cases hJ with
      | nil =>
        k_steps
        · rename (((_ :: _ : List (Str × Tok)).length : Nat) : Int) = 1 => hone
          rename_i kF kN _ _
          exact hret _ [] _ _ ⟨_, .litEnd hsg eS (rest_nil hone), rfl, _, rfl⟩ kF (fun q hq => kN q (by repeat (first | exact hq | refine List.Mem.tail _ ?_)))
        · rename (((_ :: _ : List (Str × Tok)).length : Nat) : Int) ≠ 1 => hone
          rename_i kF kN _ _
          exact hret _ [_] _ _ ⟨_, .litOk hsg eS (rest_ne hone) hlo, _, _, _, rfl, rfl⟩ kF (fun q hq => kN q (by
            rcases List.mem_cons.mp hq with rfl | hq
            · exact .head _
            · refine .tail _ ?_
              repeat (first | exact hq | refine List.Mem.tail _ ?_)))
      | cons k tk9 hJ =>
        obtain ⟨hk0, hk1, hk2⟩ := lows_head hlo
        have hsp := spot_short (src := src) (pos := p0 + 1 + k) hsz
        have hpk : p0 + 1 + k < src.length := by
          have h3 := part_short (x := Txt.slice src (some (p0 + 1)) none) (y := aps) (a := y) (by rw [← e1]; exact .head _)
          have h4 := congrArg List.length (slice_from (src := src) (i := p0 + 1) (by omega))
          rw [len_list, List.length_drop, len_list] at h4
          omega
        k_steps
        · rename (((_ :: _ : List (Str × Tok)).length : Nat) : Int) = 1 => hone
          rename_i kF kN _ _
          exact hret _ [] _ _ ⟨_, .litEnd hsg eS (rest_nil hone), rfl, _, rfl⟩ kF (fun q hq => kN q (by repeat (first | exact hq | refine List.Mem.tail _ ?_)))
        · rename decide (_ :: _ = []) = true => hbad
          simp at hbad
        · rename (((_ :: _ : List (Str × Tok)).length : Nat) : Int) ≠ 1 => hone
          refine Stop.go ?_
          refine law_spot_pur w src _ (p0 + 1 + k) _ (by omega) (by omega) hsz _ _ _ _ _ _ _ _ _ _ _ _ _ _ _ _ _ _ _ _ _ _ _ (by assumption) (by assumption) (by assumption) (by assumption) (by assumption) rfl (by ktr_room) (by ktr_units) ?_
          (intro v h6 tk6 hr2 F6 N6; obtain ⟨t6, rfl⟩ := hr2)
          k_steps
          rename_i kF kN _ _
          exact hret _ [] _ _ ⟨_, .litLow hsg eS (rest_ne hone) hlo, rfl, _, rfl⟩ kF (fun q hq => kN q (by repeat (first | exact hq | refine List.Mem.tail _ ?_)))
  · refine Stop.go ?_
    have hsg : (Txt.slice src (some p0) (some (p0 + 1)) == Str.ofString "\"") = true := by assumption
    rename Fr g' L' _ _ => F1
    rename News g' L' _ _ => N1
    refine LCt.CompSrcT.ledger (by rfl) F1 N1 (.tail _ (.tail _ hH.1)) (by rw [PySem.sizeLine_eq]; omega) ?_
    intro g2
    refine comp_rest (fun i ys => ∃ es, es = (evs.take i).filter (fun e => decide (p0 < e.1)) ∧ EvsAre news ys es ∧ ys.length ≤ i) (.inr ⟨_, .tail _ (.tail _ hH.1), rfl, _, rfl⟩) ⟨[], by simp, .nil, Nat.le_refl _⟩ ?_ ?_
    · (intro i ys v I oI C oC D2 m₂ h5 tk5 E' hi hv hr3 hC hx5 F5 N5 off5 ne5; obtain ⟨es, hes, hJ, hyl⟩ := hr3)
      obtain ⟨e, he, T, x1, x2, x3, rfl, hT⟩ := hH.2.at (i := i) (v := v) (by simpa using hv)
      have hT5 : (T, tupObj [.int e.1 x1, .int e.2.1 x2, .str e.2.2 x3]) ∈ (I, oI) :: (C, oC) :: (D2, LCg.lst ys) :: (L' + 1 + 1, oP) :: (L' + 1, oQ) :: news := .tail _ (.tail _ (.tail _ (.tail _ (.tail _ hT))))
      k_steps
      · rename p0 < e.1 => hpe
        exact TurnEnd.intro (by assumption) (by assumption) (fun q hq => hq) ⟨es ++ [e], by rw [filt_yes he (by simpa using hpe), hes], hJ.snoc ⟨T, x1, x2, x3, rfl, hT⟩, by rw [List.length_append, List.length_singleton]; omega⟩
      · rename ¬ p0 < e.1 => hpe
        exact TurnEnd.intro (by assumption) (by assumption) (fun q hq => hq) ⟨es, by rw [filt_no he (by simpa using hpe), hes], hJ, by omega⟩
    · (intro ys hr4; obtain ⟨es, hes, hJ, hyl⟩ := hr4)
      have hes : es = evs.filter (fun e => decide (p0 < e.1)) := by
        rw [List.take_of_length_le (by rw [← hH.2.length, Array.length_toList]; exact Nat.le_refl _)] at hes
        exact hes
      cases hJ with
      | nil =>
        have hhd : (evs.filter (fun e => decide (p0 < e.1))).headD (0, (src.length : Int), Str.ofString "Unterminated string ") = (0, (src.length : Int), Str.ofString "Unterminated string ") := by rw [← hes]; rfl
        k_steps
        refine Stop.go ?_
        refine law_spot_pur w src _ (src.length : Int) _ (by omega) (by omega) hsz _ _ _ _ _ _ _ _ _ _ _ _ _ _ _ _ _ _ _ _ _ _ _ (by assumption) (by assumption) (by assumption) (by assumption) (by assumption) rfl (by ktr_room) (by ktr_units) ?_
        (intro v h6 tk6 hr5 F6 N6; obtain ⟨t6, rfl⟩ := hr5)
        have hsp := spot_short (src := src) (pos := (src.length : Int)) hsz
        k_steps
        rename_i kF kN _ _
        exact hret _ [] _ _ ⟨_, .bad hsg hhd (by decide +kernel), rfl, _, rfl⟩ kF (fun q hq => kN q (by repeat (first | exact hq | refine List.Mem.tail _ ?_)))
      | @cons v e vs' es' hv hJ =>
        obtain ⟨T, x1, x2, x3, rfl, hT⟩ := hv
        have hhd : (evs.filter (fun e => decide (p0 < e.1))).headD (0, (src.length : Int), Str.ofString "Unterminated string ") = (e.1, e.2.1, e.2.2) := by rw [← hes]; rfl
        obtain ⟨he1, he2, he3, he4, he5⟩ := hev e (List.mem_filter.mp (show e ∈ evs.filter (fun e => decide (p0 < e.1)) by rw [← hes]; exact .head _)).1
        k_steps
        rename News g' L' _ _ => N9
        have N10 := news_dup N9 (show (T, tupObj [.int e.1 x1, .int e.2.1 x2, .str e.2.2 x3]) ∈ _ from by
          repeat (first | exact hT | refine List.Mem.tail _ ?_))
        clear N9
        k_steps
        · rename (e.2.2 == _) = true => hwe
          refine Stop.go ?_
          refine law_read_pur w _ _ (sl_sz hsz) (hok hsg e.1 e.2.1 e.2.2 hhd hwe) _ _ _ _ _ _ _ _ _ _ _ _ _ _ _ _ _ _ _ _ _ _ _ (by assumption) (by assumption) (by assumption) (by assumption) (by assumption) rfl (by ktr_room) (by ktr_units) ?_
          (intro v h6 tk6 hr6 F6 N6; obtain ⟨t6, rfl⟩ := hr6)
          k_steps
          rename_i kF kN _ _
          exact hret _ [_] _ _ ⟨_, .text hsg hhd hwe, _, _, _, rfl, rfl⟩ kF (fun q hq => kN q (by
            rcases List.mem_cons.mp hq with rfl | hq
            · exact .head _
            · refine .tail _ ?_
              repeat (first | exact hq | refine List.Mem.tail _ ?_)))
        · rename (e.2.2 == _) = false => hwe
          refine Stop.go ?_
          refine law_spot_pur w src _ e.2.1 _ he3 he4 hsz _ _ _ _ _ _ _ _ _ _ _ _ _ _ _ _ _ _ _ _ _ _ _ (by assumption) (by assumption) (by assumption) (by assumption) (by assumption) rfl (by ktr_room) (by ktr_units) ?_
          (intro v h6 tk6 hr7 F6 N6; obtain ⟨t6, rfl⟩ := hr7)
          have hsp := spot_short (src := src) (pos := e.2.1) hsz
          k_steps
          rename_i kF kN _ _
          exact hret _ [] _ _ ⟨_, .bad hsg hhd hwe, rfl, _, rfl⟩ kF (fun q hq => kN q (by repeat (first | exact hq | refine List.Mem.tail _ ?_)))
  · refine Stop.go ?_
    refine law_spot_pur w src _ p0 _ hp0 (by omega) hsz _ _ _ _ _ _ _ _ _ _ _ _ _ _ _ _ _ _ _ _ _ _ _ (by assumption) (by assumption) (by assumption) (by assumption) (by assumption) rfl (by ktr_room) (by ktr_units) ?_
    (intro v h6 tk6 hr8 F6 N6; obtain ⟨t6, rfl⟩ := hr8)
    have hsp := spot_short (src := src) (pos := p0) hsz
    k_steps
    rename_i kF kN _ _
    exact hret _ [] _ _ ⟨_, .other (by assumption) (by assumption) rfl (.inl (by assumption)), rfl, _, rfl⟩ kF (fun q hq => kN q (by repeat (first | exact hq | refine List.Mem.tail _ ?_)))
  · refine Stop.go ?_
    refine law_spot_pur w src _ p0 _ hp0 (by omega) hsz _ _ _ _ _ _ _ _ _ _ _ _ _ _ _ _ _ _ _ _ _ _ _ (by assumption) (by assumption) (by assumption) (by assumption) (by assumption) rfl (by ktr_room) (by ktr_units) ?_
    (intro v h6 tk6 hr9 F6 N6; obtain ⟨t6, rfl⟩ := hr9)
    have hsp := spot_short (src := src) (pos := p0) hsz
    k_steps
    rename_i kF kN _ _
    exact hret _ [] _ _ ⟨_, .other (by assumption) (by assumption) rfl (.inr (by assumption)), rfl, _, rfl⟩ kF (fun q hq => kN q (by repeat (first | exact hq | refine List.Mem.tail _ ?_)))
  · rename_i kF kN _ _
    exact hret _ [_] _ _ ⟨_, .bare (by assumption) (by assumption) rfl (by assumption) (by assumption), _, _, _, rfl, rfl⟩ kF (fun q hq => kN q (by
            rcases List.mem_cons.mp hq with rfl | hq
            · exact .head _
            · refine .tail _ ?_
              repeat (first | exact hq | refine List.Mem.tail _ ?_)))
end NBody
theorem z9 (hp0 : 0 ≤ p0) (hp1 : p0 ≤ src.length + 1) (hsz : (src.length : Int) < 1000000) (hcs : ∀ c ∈ src.cps.toList, c < 1114112) (hvs : vs.size ≤ 1000000) (hev : ∀ e ∈ evs, 0 ≤ e.1 ∧ e.1 ≤ src.length ∧ 0 ≤ e.2.1 ∧ e.2.1 ≤ src.length + 2 ∧ e.2.2.length ≤ 1000) (hok : (Txt.slice src (some p0) (some (p0 + 1)) == Str.ofString "\"") = true → ∀ k pl wd, (evs.filter (fun e => decide (p0 < e.1))).headD (0, (src.length : Int), Str.ofString "Unterminated string ") = (k, pl, wd) → (wd == Str.ofString "") = true → ∀ x ∈ Txt.split (Txt.slice src (some (p0 + 1)) (some k)) bs2, ∀ q ∈ (Txt.split x bs1).tail, PieceOk q) : PurNAt w 6 100 578 [.str src t1, .int p0 t2, .ref Ev] (fun news => (Ev, W.listOf vs n) ∈ news ∧ EvsAre news vs.toList evs) (fun v new => ∃ r, Due src p0 evs r ∧ RetV r v new) k9 := NBody.pk.2 (.mk fun g' L' h' tk' oP oQ u0 => eps_all (ne := NBody.ne_AV) (S := fun v => NBody.pk.1 v.1 v.2.1 v.2.2.1 v.2.2.2.1 v.2.2.2.2.1 v.2.2.2.2.2.1 v.2.2.2.2.2.2) (by with_unfolding_all exact NBody.body) ⟨g', L', h', tk', oP, oQ, u0⟩) hp0 hp1 hsz hcs hvs hev hok
theorem z8 : S1 c9 := by
  with_unfolding_all exact (fun hp0 hp1 hsz hcs hvs hev hok => purN_all (z9 hp0 hp1 hsz hcs hvs hev hok) : (0 ≤ p0) → (p0 ≤ src.length + 1) → ((src.length : Int) < 1000000) → (∀ c ∈ src.cps.toList, c < 1114112) → (vs.size ≤ 1000000) → (∀ e ∈ evs, 0 ≤ e.1 ∧ e.1 ≤ src.length ∧ 0 ≤ e.2.1 ∧ e.2.1 ≤ src.length + 2 ∧ e.2.2.length ≤ 1000) → ((Txt.slice src (some p0) (some (p0 + 1)) == Str.ofString "\"") = true → ∀ k pl wd, (evs.filter (fun e => decide (p0 < e.1))).headD (0, (src.length : Int), Str.ofString "Unterminated string ") = (k, pl, wd) → (wd == Str.ofString "") = true → ∀ x ∈ Txt.split (Txt.slice src (some (p0 + 1)) (some k)) bs2, ∀ q ∈ (Txt.split x bs1).tail, PieceOk q) → PurN w 6 100 578 [.str src t1, .int p0 t2, .ref Ev] (fun news => (Ev, W.listOf vs n) ∈ news ∧ EvsAre news vs.toList evs) (fun v new => ∃ r, Due src p0 evs r ∧ RetV r v new))
end Nlawduepur
theorem law_due_pur (w : World) (src : Str) (t1 : Tok) (p0 : Int) (t2 : Tok) (Ev : Addr) (vs : Array Value) (n : Nat) (evs : List (Int × Int × Str)) (hp0 : 0 ≤ p0) (hp1 : p0 ≤ src.length + 1) (hsz : (src.length : Int) < 1000000) (hcs : ∀ c ∈ src.cps.toList, c < 1114112)
    (hvs : vs.size ≤ 1000000) (hev : ∀ e ∈ evs, 0 ≤ e.1 ∧ e.1 ≤ src.length ∧ 0 ≤ e.2.1 ∧ e.2.1 ≤ src.length + 2 ∧ e.2.2.length ≤ 1000)
    (hok : (Txt.slice src (some p0) (some (p0 + 1)) == Str.ofString "\"") = true → ∀ k pl wd, (evs.filter (fun e => decide (p0 < e.1))).headD (0, (src.length : Int), Str.ofString "Unterminated string ") = (k, pl, wd) → (wd == Str.ofString "") = true → ∀ x ∈ Txt.split (Txt.slice src (some (p0 + 1)) (some k)) bs2, ∀ q ∈ (Txt.split x bs1).tail, PieceOk q) :
    PurN w 6 100 578 [.str src t1, .int p0 t2, .ref Ev] (fun news => (Ev, W.listOf vs n) ∈ news ∧ EvsAre news vs.toList evs) (fun v new => ∃ r, Due src p0 evs r ∧ RetV r v new) := by
  have h := eps_all (ne := Nlawduepur.ne_AV) (S := Nlawduepur.S1) (by with_unfolding_all exact Nlawduepur.z8) ⟨w, src, t1, p0, t2, Ev, vs, n, evs⟩
  exact h hp0 hp1 hsz hcs hvs hev hok
end
section
open PySem.Spec PySem.Calls
theorem fs_ghost {w : World} {h : Heap} {tabs : List (Addr × Addr)} (hT : TabsAt tabs h) {a : Addr} {l : List (Nat × Tok)} (x : FsAt w h a l) : FsAt w (ghostOf h tabs) a l := by
  obtain ⟨es, ep, t, e, ok⟩ := x
  exact ⟨es, ep, t, ghost_get hT e (fun q => by cases q), ok⟩
theorem fsin_ghost {w : World} {h : Heap} {tabs : List (Addr × Addr)} (hT : TabsAt tabs h) (x : FsIn w h) : FsIn w (ghostOf h tabs) :=
  ⟨fs_ghost hT x.f276, fs_ghost hT x.f281, fs_ghost hT x.f286, fs_ghost hT x.f287, fs_ghost hT x.f295, fs_ghost hT x.f296, fs_ghost hT x.f300⟩
def PiecesOk (ps : List Value) : Prop := ps.length = 28 ∧ ∀ (k : Nat) (v : Value), ps[k]? = some v → ∃ x t, v = .str x t ∧ x.length ≤ 9 ∧ ∀ c ∈ x.cps.toList, c < 1114112
theorem pieces_nil : ∀ (k : Nat) (v : Value), ([] : List Value)[k]? = some v → ∃ x t, v = .str x t ∧ x.length ≤ 9 ∧ ∀ c ∈ x.cps.toList, c < 1114112 := fun k v h => by simp at h
theorem pieces_cons {x : Str} {t : Tok} {l : List Value} (h : ∀ (k : Nat) (v : Value), l[k]? = some v → ∃ x t, v = .str x t ∧ x.length ≤ 9 ∧ ∀ c ∈ x.cps.toList, c < 1114112) (h1 : (decide (x.length ≤ 9) && x.cps.toList.all fun c => decide (c < 1114112)) = true) : ∀ (k : Nat) (v : Value), (.str x t :: l)[k]? = some v → ∃ x t, v = .str x t ∧ x.length ≤ 9 ∧ ∀ c ∈ x.cps.toList, c < 1114112
  | 0, v, h2 => by
    simp only [Bool.and_eq_true, decide_eq_true_eq, List.all_eq_true] at h1
    exact ⟨x, t, by simpa using h2.symm, h1⟩
  | k + 1, v, h2 => h k v (by simpa using h2)
noncomputable abbrev digLed (Dv Pc : Addr) (ps : List Value) (vs : Array Value) (n : Nat) : List (Addr × Obj) := [(Dv, W.listOf vs n), (Pc, tupObj ps), (533, tabObj #[]), (580, tabObj #[])]
theorem dig_ne {Dv Pc I : Addr} {ps : List Value} {vs vs' : Array Value} {n n' : Nat} (h : ∀ q ∈ digLed Dv Pc ps vs n, q.1 ≠ I) : ∀ q ∈ digLed Dv Pc ps vs' n', q.1 ≠ I := fun q hq => by
  rcases List.mem_cons.mp hq with rfl | hq
  · exact h (Dv, W.listOf vs n) (.head _)
  · exact h q (.tail _ hq)
inductive DigJ (g0 : Heap) (Dv Pc : Addr) (ps : List Value) (k0 : Nat) (g : Heap) (m : Str → Option Value) (led : List (Addr × Obj)) : Prop
  | mk (h0 : g = g0) (vs : Array Value) (ds : List Int) (n : Nat) (u : Str → Option Value) (h1 : led = digLed Dv Pc ps vs n) (h2 : IntsAre vs.toList ds) (h3 : ds.length ≤ 100) (h4 : (∀ d ∈ ds, 0 ≤ d ∧ d < 35586048)) (h5 : m = fun y => if y = Str.ofString "digits_v" then some (.ref Dv) else if y = Str.ofString "pieces" then some (.ref Pc) else u y) : DigJ g0 Dv Pc ps k0 g m led
inductive DigK (g0 : Heap) (Dv Pc : Addr) (ps : List Value) (Io : Addr × Obj) (d0 : Nat) (k : Nat) (g : Heap) (m : Str → Option Value) (led : List (Addr × Obj)) : Prop
  | mk (h0 : g = g0) (vs : Array Value) (ds : List Int) (n : Nat) (r : Int) (tr : Tok) (u : Str → Option Value) (h1 : led = Io :: digLed Dv Pc ps vs n) (h2 : IntsAre vs.toList ds) (h3 : ds.length ≤ d0 + k) (h4 : (∀ d ∈ ds, 0 ≤ d ∧ d < 35586048)) (h5 : m = fun y => if y = Str.ofString "rest" then some (.int r tr) else if y = Str.ofString "digits_v" then some (.ref Dv) else if y = Str.ofString "pieces" then some (.ref Pc) else u y) : DigK g0 Dv Pc ps Io d0 k g m led
theorem map_three {u : Str → Option Value} {x y z : Str} {a b c : Value} (h1 : u x = some a) (h2 : u y = some b) (h3 : u z = some c) : u = fun v => if v = x then some a else if v = y then some b else if v = z then some c else u v := by
  funext v
  by_cases q : v = x
  · rw [if_pos q, q, h1]
  · by_cases q2 : v = y
    · rw [if_neg q, if_pos q2, q2, h2]
    · by_cases q3 : v = z
      · rw [if_neg q, if_neg q2, if_pos q3, q3, h3]
      · rw [if_neg q, if_neg q2, if_neg q3]
section
variable {g0 h h' : Heap} {L Dv Pc I I2 Sc : Addr} {oI oI2 : Obj} {ps : List Value} {vs : Array Value} {ds : List Int} {n d0 k i tk' : Nat} {r : Int} {tr : Tok} {X : List (Addr × Obj)} {m' : Str → Option Value} {s : Shared}
theorem dig_turn (hv : IntsAre vs.toList ds) (hl : ds.length ≤ d0 + (k + 1)) (hd : ∀ d ∈ ds, 0 ≤ d ∧ d < 35586048) (F : Fr g0 L h' m') (N : News g0 L h' X) (hI : (I2, oI2) ∈ X) (hX : ∀ q ∈ (I, oI) :: digLed Dv Pc ps vs n, q ∈ X) (hne : ∀ q ∈ (I, oI) :: digLed Dv Pc ps vs n, q.1 ≠ I2)
    (hm1 : m' (Str.ofString "rest") = some (.int r tr)) (hm2 : m' (Str.ofString "digits_v") = some (.ref Dv)) (hm3 : m' (Str.ofString "pieces") = some (.ref Pc)) : TurnTo L I2 oI2 [I2] h s (DigK g0 Dv Pc ps (I, oI) d0 (k + 1)) { s with heap := h', toks := tk' } :=
  ⟨g0, h', tk', m', _, rfl, F, fun p hp => by rw [List.mem_singleton.mp hp]; exact N _ hI, fun p hp => N p (hX p hp), hne, fun b hb hne => absurd (List.mem_singleton.mp hb) hne, rfl, vs, ds, n, r, tr, m', rfl, hv, hl, hd, map_three hm1 hm2 hm3⟩
theorem ground_fp {m : Str → Option Value} {items : Array Value} (L1 : g0.IsList Sc items) (F0 : Fr g0 L h m) (F : Fr g0 L h' m') : ∀ b ∈ [I, Sc], b ≠ I → ∀ o, h.get? b = some o → h'.get? b = some o := by
  intro b hb hbI o ho
  rcases List.mem_cons.mp hb with rfl | hb
  · exact absurd rfl hbI
  · rw [List.mem_singleton.mp hb] at ho ⊢
    obtain ⟨o0, e, _⟩ := L1
    have h1 := F0.keep _ _ e
    rw [h1] at ho
    rw [← ho]
    exact F.keep _ _ e
theorem dig_outer {m : Str → Option Value} {items : Array Value} (L1 : g0.IsList Sc items) (F0 : Fr g0 L h m) (hv : IntsAre vs.toList ds) (hl : ds.length ≤ 100) (hd : ∀ d ∈ ds, 0 ≤ d ∧ d < 35586048) (F : Fr g0 L h' m') (N : News g0 L h' X) (hI : (I, oI) ∈ X) (hX : ∀ q ∈ digLed Dv Pc ps vs n, q ∈ X) (hne : ∀ q ∈ digLed Dv Pc ps vs n, q.1 ≠ I)
    (hm2 : m' (Str.ofString "digits_v") = some (.ref Dv)) (hm3 : m' (Str.ofString "pieces") = some (.ref Pc)) : TurnTo L I oI [I, Sc] h s (DigJ g0 Dv Pc ps (i + 1)) { s with heap := h', toks := tk' } :=
  ⟨g0, h', tk', m', _, rfl, F, fun p hp => by rw [List.mem_singleton.mp hp]; exact N _ hI, fun p hp => N p (hX p hp), hne, ground_fp L1 F0 F, rfl, vs, ds, n, m', rfl, hv, hl, hd, map_two hm2 hm3⟩
end
inductive TxtJ (g0 : Heap) (Pc : Addr) (led0 : List (Addr × Obj)) (i : Nat) (g : Heap) (m : Str → Option Value) (led : List (Addr × Obj)) : Prop
  | mk (h0 : g = g0) (h1 : led = led0) (x : Str) (t : Tok) (u : Str → Option Value) (h2 : x.length ≤ 9 * i) (h3 : (∀ c ∈ x.cps.toList, c < 1114112)) (h4 : m = fun y => if y = Str.ofString "text" then some (.str x t) else if y = Str.ofString "pieces" then some (.ref Pc) else u y) : TxtJ g0 Pc led0 i g m led
section
variable {g0 h h' : Heap} {L Pc I D : Addr} {oI oD : Obj} {i tk' : Nat} {x y : Str} {t : Tok} {led0 X : List (Addr × Obj)} {m' : Str → Option Value} {s : Shared}
theorem txt_turn (hxl : x.length ≤ 9 * i) (hxc : ∀ c ∈ x.cps.toList, c < 1114112) (hyl : y.length ≤ 9) (hyc : ∀ c ∈ y.cps.toList, c < 1114112) (F : Fr g0 L h' m') (N : News g0 L h' X) (hI : (I, oI) ∈ X) (hX : ∀ q ∈ led0, q ∈ X) (hne : ∀ q ∈ led0, q.1 ≠ I) (hD : h.get? D = some oD) (hDm : (D, oD) ∈ led0)
    (hm1 : m' (Str.ofString "text") = some (.str (x ++ y) t)) (hm2 : m' (Str.ofString "pieces") = some (.ref Pc)) : TurnTo L I oI [I, D] h s (TxtJ g0 Pc led0 (i + 1)) { s with heap := h', toks := tk' } := by
  refine ⟨g0, h', tk', m', led0, rfl, F, fun p hp => by rw [List.mem_singleton.mp hp]; exact N _ hI, fun p hp => N p (hX p hp), hne, ?_, rfl, rfl, x ++ y, t, m', ?_, ?_, map_two hm1 hm2⟩
  · intro b hb hbI o ho
    rcases List.mem_cons.mp hb with rfl | hb
    · exact absurd rfl hbI
    · rw [List.mem_singleton.mp hb] at ho ⊢
      rw [hD] at ho
      rw [← ho]
      exact (N _ (hX _ hDm)).1
  · rw [PySem.Str.length_append]; omega
  · intro c hc
    have : c ∈ x.cps.toList ++ y.cps.toList := by
      rw [PySem.Str.cps_append] at hc
      simpa using hc
    rcases List.mem_append.mp this with h | h
    · exact hxc c h
    · exact hyc c h
end
inductive DigPost (g0 : Heap) (L Pc : Addr) (ps : List Value) (s : Shared) (v : Value) (s₁ : Shared) : Prop
  | mk (D : Addr) (vs : Array Value) (ds : List Int) (n : Nat) (h : Heap) (tk : Nat) (t : Tok) (u : Str → Option Value) (h0 : v = .ref D) (h1 : s₁ = { s with heap := h, toks := tk }) (h2 : IntsAre vs.toList ds) (h3 : ds.length ≤ 100) (h4 : (∀ d ∈ ds, 0 ≤ d ∧ d < 35586048)) (h5 : Fr g0 L h u) (h6 : News g0 L h (digLed D Pc ps vs n)) (h7 : u (Str.ofString "text") = some (.str (Str.ofString "") t)) (h8 : u (Str.ofString "pieces") = some (.ref Pc)) : DigPost g0 L Pc ps s v s₁
theorem one_chars {n : Nat} (h : n < 1114112) : ∀ c ∈ (⟨#[n]⟩ : Str).cps.toList, c < 1114112 := fun c hc => by
  rw [List.mem_singleton.mp hc]; exact h
theorem item_pc {prog : Program} {w : World} {A : Around} {E : Value → Shared → Prop} {s : Shared} {Q : Value → Shared → Prop} {g : Heap} {L D : Addr} {led : List (Addr × Obj)} {value slice : PySem.Expr} {ps : List Value} {k : Int} {u : Tok}
    (hps : PiecesOk ps) (N : News g L s.heap led) (hm : (D, tupObj ps) ∈ led) (h0 : 0 ≤ k) (h1 : k < 28) (h : ∀ (x : Str) (t : Tok), x.length ≤ 9 → (∀ c ∈ x.cps.toList, c < 1114112) → Q (.str x t) s)
    (hs : subscripted slice false (.ref D) (.int k u) = operate [.ref D, .int k u] (getItem (.ref D) (.int k u)) := by with_unfolding_all rfl) :
    wpAny (model prog w) A (subscriptTail value slice (.ref D) (.int k u)) Q E s := by
  have hlt : k.toNat < ps.length := by rw [hps.1]; omega
  obtain ⟨x, t, hv, hl, hc⟩ := hps.2 k.toNat ps[k.toNat] (List.getElem?_eq_getElem hlt)
  refine item_tup N hm h0 (by omega) (List.getElem?_eq_getElem hlt) ?_ hs
  rw [hv]
  exact h x t hl hc
end
section
open PySem.Spec PySem.Calls
def LamLed (lam : List (Addr × Obj)) : Prop := lam = [(580, tabObj #[])] ∨ ∃ c' oc vs q t, lam = [(580, tabObj #[rawInt 580, rawInt 44, .ref c']), (c', oc)] ∧ oc.data = .fields vs ∧ vs[1]? = some (.str q t) ∧ 533 < c' ∧ 580 < c'
theorem lamHd_of {w : World} {h : Heap} (X : (law_top.heap_385 w.params).In h) : CodeHd h 584 580 :=
  ⟨_, _, _, _, _, _, _, _, _, X 584 _ rfl, rfl, rfl, rfl, rfl, rfl, rfl, rfl, rfl, by decide⟩
theorem lam_533 {lam : List (Addr × Obj)} (h : LamLed lam) : ∀ q ∈ lam, q.1 ≠ 533 := by
  intro q hq
  rcases h with rfl | ⟨c', oc, vs, qn, t, rfl, _, _, h5, _⟩
  · rw [List.mem_singleton.mp hq]; decide
  · rcases List.mem_cons.mp hq with rfl | hq
    · show (580 : Nat) ≠ 533; decide
    · rw [List.mem_singleton.mp hq]; exact Nat.ne_of_gt h5
theorem lam_ne {g h : Heap} {L x : Addr} {o : Obj} {X lam : List (Addr × Obj)} (N : News g L h X) (hx : (x, o) ∈ X) (ht : ∀ p ∈ lam, p ∈ X) (LL : LamLed lam) (hc : o.cls ≠ .none) (ho : ∀ vs q t, o.data = .fields vs → vs[1]? ≠ some (.str q t)) : ∀ p ∈ lam, p.1 ≠ x := by
  intro p hp e
  have a1 := (N _ hx).1
  have a2 := (N _ (ht p hp)).1
  dsimp only at a1
  rw [e, a1] at a2
  have hoo : o = p.2 := Option.some.inj a2
  rcases LL with rfl | ⟨c', oc, vs, qn, t, rfl, h1, h2, _, _⟩
  · rw [List.mem_singleton.mp hp] at hoo
    rw [hoo] at hc; exact hc rfl
  · rcases List.mem_cons.mp hp with rfl | hp
    · rw [hoo] at hc; exact hc rfl
    · rw [List.mem_singleton.mp hp] at hoo
      exact ho vs qn t (by rw [hoo]; exact h1) h2
theorem lam_reorder {g h : Heap} {L : Addr} {fo c t : Addr × Obj} {tl R : List (Addr × Obj)} (N : News g L h (fo :: c :: t :: (tl ++ R))) : News g L h (fo :: (tl ++ ([t, c] ++ R))) := fun q hq => N q (by
  simp only [List.mem_append, List.mem_cons, List.not_mem_nil, or_false] at hq ⊢
  rcases hq with h | h | (h | h) | h <;> simp [h])
section
variable {M : Model} {A : Around} {E : Value → Shared → Prop} {s : Shared} {h₀ : Heap} {L a : Addr} {m mg mb : Str → Option Value} {cn : Str} {cs : Scope} {p : Program} {loose : List Str} {mean : ExcName → Option Value} {tl lam R : List (Addr × Obj)} {params : Arguments} {body : PySem.Expr} {scope : Scope} {pos : Pos} {Q : Value → Shared → Prop}
theorem lam_eval (F : Fr h₀ L s.heap m) (N : News h₀ L s.heap (tl ++ (lam ++ R))) (LL : LamLed lam) (TL : TabLed tl) (T : Top p loose mean mg mb h₀) (C : CodeHd h₀ 584 580) (hne : ∀ q ∈ tl ++ R, q.1 ≠ 580) (hpl : rawInt pos.line = rawInt 580) (hpc : rawInt pos.col = rawInt 44) (hpp : codeAmong pos [rawInt 580, rawInt 44, .ref 0] = some (.ref 0))
    (hpg : ∀ c', codeAmong pos [rawInt 580, rawInt 44, .ref c'] = some (.ref c')) (hcl : closureFor scope (envX cn cs L a (.ref 584) []) = pure []) (hdef : defaultsOf params (envX cn cs L a (.ref 584) []) = ([], []))
    (h : ∀ (f : Addr) (o : Obj) (lam' : List (Addr × Obj)) (h' : Heap) (tk : Nat), LamLed lam' → Fr h₀ L h' m → News h₀ L h' ((f, o) :: (tl ++ (lam' ++ R))) → o.cls ≠ .none → (∀ q ∈ tl ++ R, q.1 < f) → (∀ q ∈ lam', q ∈ lam ∨ (q.1 = 580) ∨ (∀ r ∈ tl ++ R, r.1 < q.1)) → Q (.ref f) { s with heap := h', toks := tk }) :
    wpAny M A (eval (.Lambda params body scope pos) (envX cn cs L a (.ref 584) [])) Q E s := by
  refine kla_eval hdef ?_
  rcases LL with rfl | ⟨c', oc, vs, qn, t, rfl, h1, h2, h5, h8⟩
  · have N2 : News h₀ L s.heap ((580, tabObj #[]) :: (tl ++ R)) := fun q hq => N q (by
      simp only [List.mem_append, List.mem_cons, List.not_mem_nil, or_false] at hq ⊢
      rcases hq with h | h | h <;> simp [h])
    refine kla_nest F N2 T C rfl (.head hne) True.intro rfl hcl ?_
    intro f c' oc vs t ctv h' tk F' N' hd hv hlt hcf
    have h580 : (580 : Nat) < c' := hlt (580, tabObj #[]) (.head _)
    obtain ⟨o5, ho5⟩ := tabled_mem TL
    have h533 : (533 : Nat) < c' := hlt (533, o5) (.tail _ (List.mem_append_left _ ho5))
    have e : tabObj (#[] ++ #[rawInt pos.line, rawInt pos.col, .ref c']) = tabObj #[rawInt 580, rawInt 44, .ref c'] := by rw [hpl, hpc]; rfl
    have key : ∀ fo : Addr × Obj, News h₀ L h' (fo :: (c', oc) :: (580, tabObj (#[] ++ #[rawInt pos.line, rawInt pos.col, .ref c'])) :: (tl ++ R)) → News h₀ L h' (fo :: (c', oc) :: (580, tabObj #[rawInt 580, rawInt 44, .ref c']) :: (tl ++ R)) := fun fo N => by rw [e] at N; exact N
    have N3 := key _ N'
    exact h f _ [(580, tabObj #[rawInt 580, rawInt 44, .ref c']), (c', oc)] h' tk (.inr ⟨c', oc, vs, _, t, rfl, hd, hv, h533, h580⟩) F' (lam_reorder N3) (by intro hh; cases hh) (fun q hq => Nat.lt_trans (hlt q (.tail _ hq)) hcf) (fun q hq => by
      rcases List.mem_cons.mp hq with rfl | hq
      · exact .inr (.inl rfl)
      · rw [List.mem_singleton.mp hq]
        exact .inr (.inr fun r hr => hlt r (.tail _ hr)))
  · refine kla_hit (ps := #[rawInt 580, rawInt 44, .ref c']) F N T C rfl (List.mem_append_right _ (.head _)) (by simp [TriplesOk, rawInt]) (hpg c') hcl ?_
    intro f ctv h' tk F' N' hlt
    exact h f _ _ h' tk (.inr ⟨c', oc, vs, qn, t, rfl, h1, h2, h5, h8⟩) F' N' (by intro hh; cases hh) (fun q hq => hlt q (by
      simp only [List.mem_append] at hq ⊢
      rcases hq with h | h <;> simp [h])) (fun q hq => .inl hq)
end
end
section
open PySem.Spec PySem.Calls
theorem EvsAre.tups {led : List (Addr × Obj)} {vs : List Value} {es : List Ev} (H : EvsAre led vs es) : ∃ tups : List (Addr × Obj), (∀ q ∈ tups, q ∈ led) ∧ (∀ q ∈ tups, q.2.cls ≠ .none) ∧ EvsAre tups vs es := by
  induction H with
  | nil => exact ⟨[], (fun _ h => nomatch h), (fun _ h => nomatch h), .nil⟩
  | @cons v e vs es a _ ih =>
    obtain ⟨T, t1, t2, t3, rfl, hm⟩ := a
    obtain ⟨tups, h1, h2, h3⟩ := ih
    refine ⟨(T, tupObj [.int e.1 t1, .int e.2.1 t2, .str e.2.2 t3]) :: tups, ?_, ?_, .cons ⟨T, t1, t2, t3, rfl, .head _⟩ (h3.mono fun q hq => .tail _ hq)⟩
    · intro q hq
      rcases List.mem_cons.mp hq with rfl | hq
      · exact hm
      · exact h1 q hq
    · intro q hq
      rcases List.mem_cons.mp hq with rfl | hq
      · intro h; cases h
      · exact h2 q hq
theorem evs_len {src : Str} {k : Nat} {evs : List Ev} (h : EvsUpto src k evs) : evs.length ≤ k := by
  induction h with
  | nil => exact Nat.le_refl _
  | @more k evs r _ _ ih =>
    rw [List.length_append]
    cases r with
    | none => simp; omega
    | some e => simp; omega
theorem tabled_cls {tl : List (Addr × Obj)} (TL : TabLed tl) : ∃ o, (533, o) ∈ tl ∧ o.cls = .none := by
  rcases TL with rfl | ⟨c', oc, vs, t, rfl, _⟩
  · exact ⟨_, .head _, rfl⟩
  · exact ⟨_, .head _, rfl⟩
theorem ne_tab {g h : Heap} {L : Addr} {X tl : List (Addr × Obj)} {q : Addr × Obj} (N : News g L h X) (TL : TabLed tl) (ht : ∀ p ∈ tl, p ∈ X) (hq : q ∈ X) (hc : q.2.cls ≠ .none) : q.1 ≠ 533 := by
  obtain ⟨o, ho, hoc⟩ := tabled_cls TL
  intro e
  have a1 := (N _ (ht _ ho)).1
  have a2 := (N _ hq).1
  dsimp only at a1
  rw [e, a1] at a2
  rw [← Option.some.inj a2, hoc] at hc
  exact hc rfl
def MarkOne (x : Str) (k : Int) : Prop := (Txt.item x k = Str.ofString "\"" ∧ Txt.startswith3 x (Str.ofString "\"\"\"") k = false) ∨ (Txt.item x k = aps ∧ Txt.startswith3 x (Str.ofString "'''") k = false)
theorem mark_one {x m3 : Str} {k c : Nat} (hs : Txt.slice x (some (k : Int)) (some ((k : Int) + 1)) = tx [c]) (h3 : m3 = tx [c, c, c]) (hb : (Txt.slice x (some (k : Int)) (some ((k : Int) + 3)) != Txt.mul (Txt.slice x (some (k : Int)) (some ((k : Int) + 1))) 3) = true) : (k : Int) < x.length ∧ Txt.item x (k : Int) = tx [c] ∧ Txt.startswith3 x m3 (k : Int) = false := by
  have e1 := slI (src := x) (i := k) (a := 0) (b := 1)
  rw [Nat.add_zero] at e1
  have e1 : Txt.slice x (some (k : Int)) (some ((k : Int) + 1)) = tx ((x.cps.toList.drop k).take 1) := by simpa using e1
  rw [hs] at e1
  have e2 := tx_inj e1
  have hc : x.cps.toList[k]? = some c := by
    have := congrArg (fun l => l[0]?) e2
    simpa using this.symm
  refine ⟨by have := lt_at hc; omega, item_at hc, ?_⟩
  cases hst : Txt.startswith3 x m3 (k : Int) with
  | false => rfl
  | true =>
    exfalso
    unfold Txt.startswith3 at hst
    rw [Bool.and_eq_true] at hst
    have h4 := hst.2
    rw [from_pos (by omega), show (k : Int).toNat = k from Int.toNat_natCast k, StrLaws.subAt_eq, h3, beq_iff_eq] at h4
    have e3 : Txt.slice x (some (k : Int)) (some ((k : Int) + 3)) = tx ((x.cps.toList.drop k).take 3) := by
      have := slI (src := x) (i := k) (a := 0) (b := 3)
      rw [Nat.add_zero] at this
      simpa using this
    have e4 : (x.cps.toList.drop k).take 3 = [c, c, c] := h4
    rw [e3, e4, hs] at hb
    have e5 : Txt.mul (tx [c]) 3 = tx [c, c, c] := rfl
    rw [e5] at hb
    simp at hb
theorem mark_ok {x : Str} {k : Nat} {b : Bool} (h : ([aps, Str.ofString "\""].any fun y => y == Txt.slice x (some (k : Int)) (some ((k : Int) + 1))) = true) (hb : (Txt.slice x (some (k : Int)) (some ((k : Int) + 3)) != Txt.mul (Txt.slice x (some (k : Int)) (some ((k : Int) + 1))) 3) = b) : b = true → (k : Int) < x.length ∧ MarkOne x k := by
  intro hbt
  rw [hbt] at hb
  simp only [List.any_cons, List.any_nil, Bool.or_false, Bool.or_eq_true, beq_iff_eq] at h
  rcases h with h | h
  · obtain ⟨h1, h2, h3⟩ := mark_one (c := 39) (m3 := Str.ofString "'''") (h.symm.trans st_a) (by kernel_rfl) hb
    exact ⟨h1, .inr ⟨by rw [h2, st_a], h3⟩⟩
  · obtain ⟨h1, h2, h3⟩ := mark_one (c := 34) (m3 := Str.ofString "\"\"\"") (h.symm.trans st_q) (by kernel_rfl) hb
    exact ⟨h1, .inl ⟨by rw [h2, st_q], h3⟩⟩
section
variable {prog : Program} {w : World} {A : Around} {s : Shared} {env : Env} {g : Heap} {E : Value → Shared → Prop} {Q : Flow → Shared → Prop} {x : Str} {body : List Stmt} {m : Str → Option Value} {led : List (Addr × Obj)}
theorem iter_tuple {D : Addr} {items : Array Value} (hl : s.heap.IsTuple D items) (hh : A.handled = none) (hDL : D ≠ env.locals) (F : Fr g env.locals s.heap m) (Nw : News g env.locals s.heap led)
    (J : Nat → Heap → (Str → Option Value) → List (Addr × Obj) → Prop) (h0 : J 0 g m led)
    (turn : ∀ (k : Nat) v g m led h tk I oI, items[k]? = some v → J k g m led → Fr g env.locals h (fun y => if y = x then some v else m y) → News g env.locals h ((I, oI) :: led) → (∀ p ∈ led, p.1 ≠ I) → (∃ a b, oI.data = .fields #[a, .int b 0]) → D ≠ I → h.IsTuple D items →
      wpAny (model prog w) A (execs body env) (TurnFlow env.locals I oI [I, D] h s (J (k + 1)) Q) E { s with heap := h, toks := tk })
    (done : ∀ g m led h tk, J items.size g m led → Fr g env.locals h m → News g env.locals h led → Q .next { s with heap := h, toks := tk }) :
    wpAny (model prog w) A (pyIter (.ref D)) (fun it s₂ => ForLed prog w A env x body Q E it s₂) E s := by
  refine wpAny_pyIter_tuple hl ?_
  have hnew := next_is_new F
  obtain ⟨oD, hD, hDr⟩ := id hl
  have hlt : D < s.heap.objs.size := Heap.lt_size hD
  have hne : D ≠ s.heap.objs.size := Nat.ne_of_lt hlt
  refine ⟨s.heap.objs.size, [s.heap.objs.size, D], items.size, _, _, g, m, led, J, rfl, Walks.tuple hh _ D hne items, ?_, ?_, ?_, F.push _, (fun p hp => ⟨Heap.get?_push_of_some _ (Nw p hp).1, (Nw p hp).2⟩), ?_, hnew, h0, ?_, ?_⟩
  · intro hm
    rcases List.mem_cons.mp hm with e | hm
    · exact absurd F.ns.lt (e ▸ Nat.lt_irrefl _)
    · exact hDL (List.mem_singleton.mp hm).symm
  · exact fun i h st => let ⟨o, ho, _⟩ := st.1; ⟨o, ho⟩
  · exact ⟨⟨_, Heap.get?_push_size _ rfl, rfl, rfl⟩, ⟨oD, Heap.get?_push_of_some _ hD, hDr⟩⟩
  · intro p hp hI
    exact absurd (Heap.lt_size (Nw p hp).1) (hI ▸ Nat.lt_irrefl _)
  · rintro i v g m led h tk oI hi hv hJ F₁ N₁ hnI hst
    obtain ⟨⟨o, ho, hc, hd⟩, hls⟩ := hst
    have e := Option.some.inj (((N₁ _ (.head _)).1).symm.trans ho)
    exact turn i v g m led h tk _ oI hv hJ F₁ N₁ hnI ⟨_, _, (congrArg Obj.data e).trans hd⟩ hne hls
  · exact fun g m led h tk hJ F₁ N₁ => done g m led h tk hJ F₁ N₁
end
theorem news_midE {g h : Heap} {L : Addr} {a b : Addr × Obj} {l1 l2 l3 : List (Addr × Obj)} (N : News g L h (a :: (l1 ++ b :: (l2 ++ l3)))) : News g L h (l2 ++ (a :: (l1 ++ b :: l3))) := fun q hq => N q (by
  simp only [List.mem_append, List.mem_cons] at hq ⊢
  rcases hq with h | h | h | h | h <;> simp [h])
inductive MarkPost (g0 : Heap) (L : Addr) (s : Shared) (m : Str → Option Value) (led : List (Addr × Obj)) (x : Str) (k : Int) (fl : Flow) (s₁ : Shared) : Prop
  | mk (h0 : fl = .next) (b : Bool) (h : Heap) (tk : Nat) (h1 : s₁ = { s with heap := h, toks := tk }) (h2 : (b = true → k < x.length ∧ MarkOne x k)) (h3 : Fr g0 L h (fun y => if y = Str.ofString "mark" then some (.bool b) else m y)) (h4 : News g0 L h led) : MarkPost g0 L s m led x k fl s₁
inductive TwPost (g0 : Heap) (L : Addr) (s : Shared) (m : Str → Option Value) (led : List (Addr × Obj)) (x : Str) (k : Int) (v : Value) (s₁ : Shared) : Prop
  | mk (D : Addr) (its : List Value) (h : Heap) (tk : Nat) (h0 : v = .ref D) (h1 : s₁ = { s with heap := h, toks := tk }) (h2 : (∀ (i : Nat) (y : Value), its[i]? = some y → ∃ c, y = .bool c ∧ (c = true → k < x.length ∧ MarkOne x k))) (h3 : Fr g0 L h m) (h4 : News g0 L h ((D, tupObj its) :: led)) : TwPost g0 L s m led x k v s₁
noncomputable abbrev lawNames (x : Str) (t : Tok) (E : Addr) (k : Int) (tk : Tok) (v : Value) (u : Str → Option Value) : Str → Option Value := fun y => if y = Str.ofString "text" then some (.str x t) else if y = Str.ofString "events" then some (.ref E) else if y = Str.ofString "p" then some (.int k tk) else if y = Str.ofString "due" then some v else u y
theorem map_four {u : Str → Option Value} {x y z r : Str} {a b c d : Value} (h1 : u x = some a) (h2 : u y = some b) (h3 : u z = some c) (h4 : u r = some d) : u = fun v => if v = x then some a else if v = y then some b else if v = z then some c else if v = r then some d else u v := by
  funext v
  by_cases q : v = x
  · rw [if_pos q, q, h1]
  · rw [if_neg q]
    by_cases q2 : v = y
    · rw [if_pos q2, q2, h2]
    · rw [if_neg q2]
      by_cases q3 : v = z
      · rw [if_pos q3, q3, h3]
      · rw [if_neg q3]
        by_cases q4 : v = r
        · rw [if_pos q4, q4, h4]
        · rw [if_neg q4]
def NT (o : Obj) : Prop := o.cls ≠ .none ∨ ∃ vs q t, o.data = .fields vs ∧ vs[1]? = some (.str q t)
theorem ne_580 {g h : Heap} {L : Addr} {X lam : List (Addr × Obj)} {q : Addr × Obj} (N : News g L h X) (LL : LamLed lam) (ht : ∀ p ∈ lam, p ∈ X) (hq : q ∈ X) (hc : NT q.2) : q.1 ≠ 580 := by
  intro e
  have a2 := (N _ hq).1
  have key : ∀ ps : Array Value, (580, tabObj ps) ∈ lam → (∀ q t, ps[1]? ≠ some (.str q t)) → False := by
    intro ps hm hn
    have a1 := (N _ (ht _ hm)).1
    dsimp only at a1
    rw [e, a1] at a2
    have := Option.some.inj a2
    rw [← this] at hc
    rcases hc with hc | ⟨vs, qn, t, h1, h2⟩
    · exact hc rfl
    · cases h1
      exact hn qn t h2
  rcases LL with rfl | ⟨c', oc, vs, qn, t, rfl, _⟩
  · exact key _ (.head _) (fun _ _ h => by simp at h)
  · exact key _ (.head _) (fun _ _ h => by simp [rawInt] at h)
theorem tab_NT {tl : List (Addr × Obj)} (TL : TabLed tl) : ∀ q ∈ tl, q.1 = 533 ∨ NT q.2 := by
  intro q hq
  rcases TL with rfl | ⟨c', oc, vs, t, rfl, h1, h2, _⟩
  · rw [List.mem_singleton.mp hq]; exact .inl rfl
  · rcases List.mem_cons.mp hq with rfl | hq
    · exact .inl rfl
    · rw [List.mem_singleton.mp hq]
      exact .inr (.inr ⟨vs, _, t, h1, h2⟩)
theorem ret_NT {r : Except Str (Int × Str)} {v : Value} {new : List (Addr × Obj)} (h : RetV r v new) : ∀ q ∈ new, q.2.cls ≠ .none := by
  intro q hq
  cases r with
  | error x =>
    obtain ⟨rfl, _⟩ := h
    cases hq
  | ok p =>
    obtain ⟨i, x⟩ := p
    obtain ⟨a, t1, t2, _, rfl⟩ := h
    rw [List.mem_singleton.mp hq]
    intro hh; cases hh
inductive TryPost (P : Heap → Prop) (L : Addr) (s : Shared) (x : Str) (t : Tok) (E : Addr) (k : Int) (tk : Tok) (v : Value) (R : List (Addr × Obj)) (fl : Flow) (s₁ : Shared) : Prop
  | mk (h0 : fl = .next) (rK : Except Str (Int × Str)) (vT : Value) (newT tl lam : List (Addr × Obj)) (g h : Heap) (tk' : Nat) (u : Str → Option Value) (h1 : s₁ = { s with heap := h, toks := tk' }) (h2 : Key x k rK) (h3 : RetV rK vT newT) (h4 : TabLed tl) (h5 : LamLed lam) (h6 : P g) (h7 : Fr g L h (fun y => if y = Str.ofString "told" then some vT else lawNames x t E k tk v u y)) (h8 : News g L h (newT ++ (tl ++ (lam ++ R)))) : TryPost P L s x t E k tk v R fl s₁
inductive InJ (P : Heap → Prop) (x : Str) (t : Tok) (E : Addr) (k : Int) (tk : Tok) (v : Value) (NEWS : List (Addr × Obj)) (k0 : Nat) (g : Heap) (m : Str → Option Value) (led : List (Addr × Obj)) : Prop
  | mk (tl1 lam : List (Addr × Obj)) (u : Str → Option Value) (h0 : led = tl1 ++ (lam ++ NEWS)) (h1 : TabLed tl1) (h2 : LamLed lam) (h3 : m = lawNames x t E k tk v u) (h4 : P g) : InJ P x t E k tk v NEWS k0 g m led
inductive LawJ (P : Heap → Prop) (x : Str) (t : Tok) (E : Addr) (NEWS : List (Addr × Obj)) (k0 : Nat) (g : Heap) (m : Str → Option Value) (led : List (Addr × Obj)) : Prop
  | mk (tl1 lam : List (Addr × Obj)) (u : Str → Option Value) (h0 : led = tl1 ++ (lam ++ NEWS)) (h1 : TabLed tl1) (h2 : LamLed lam) (h3 : m = (fun y => if y = Str.ofString "text" then some (.str x t) else if y = Str.ofString "events" then some (.ref E) else u y)) (h4 : P g) : LawJ P x t E NEWS k0 g m led
end
section
open PySem.Spec PySem.Calls
theorem told_names {m' : Str → Option Value} {x : Str} {t : Tok} {E : Addr} {k : Int} {tk : Tok} {v vT : Value} (h0 : m' (Str.ofString "told") = some vT) (h1 : m' (Str.ofString "text") = some (.str x t)) (h2 : m' (Str.ofString "events") = some (.ref E)) (h3 : m' (Str.ofString "p") = some (.int k tk)) (h4 : m' (Str.ofString "due") = some v) :
    m' = fun y => if y = Str.ofString "told" then some vT else lawNames x t E k tk v m' y := by
  funext y
  by_cases q : y = Str.ofString "told"
  · rw [if_pos q, q, h0]
  · rw [if_neg q]
    exact congrFun (map_four h1 h2 h3 h4) y
theorem lam_ne3 {g h : Heap} {L x : Addr} {o : Obj} {X lam : List (Addr × Obj)} (N : News g L h X) (hx : (x, o) ∈ X) (ht : ∀ p ∈ lam, p ∈ X) (LL : LamLed lam) (h8 : x ≠ 580) (ho : ∀ vs q t, o.data = .fields vs → vs[1]? ≠ some (.str q t)) : ∀ p ∈ lam, p.1 ≠ x := by
  intro p hp e
  have a1 := (N _ hx).1
  have a2 := (N _ (ht p hp)).1
  dsimp only at a1
  rw [e, a1] at a2
  have hoo : o = p.2 := Option.some.inj a2
  rcases LL with rfl | ⟨c', oc, vs, qn, t, rfl, h1, h2, _, _⟩
  · rw [List.mem_singleton.mp hp] at e
    exact h8 e.symm
  · rcases List.mem_cons.mp hp with rfl | hp
    · exact h8 e.symm
    · rw [List.mem_singleton.mp hp] at hoo
      exact ho vs qn t (by rw [hoo]; exact h1) h2
theorem it_no {o : Obj} (h : ∃ a b, o.data = .fields #[a, .int b 0]) : ∀ vs q t, o.data = .fields vs → vs[1]? ≠ some (.str q t) := fun vs q t e => by
  obtain ⟨a, b, h⟩ := h
  rw [h] at e
  cases e
  exact fun z => nomatch z
theorem rng_no {o : Obj} (h : ∃ a b c, o.data = .fields #[rawInt a, rawInt b, rawInt c]) : ∀ vs q t, o.data = .fields vs → vs[1]? ≠ some (.str q t) := fun vs q t e => by
  obtain ⟨a, b, c, h⟩ := h
  rw [h] at e
  cases e
  exact fun z => nomatch z
section
variable {P : Heap → Prop} {x : Str} {t : Tok} {E : Addr} {k : Int} {tk : Tok} {v : Value} {g h h' : Heap} {L I D : Addr} {oI oD : Obj} {newT tl lam new2 R : List (Addr × Obj)} {m' : Str → Option Value} {s : Shared} {j tk' : Nat}
theorem in_turn (F : Fr g L h' m') (N : News g L h' (newT ++ (tl ++ (lam ++ ((I, oI) :: (D, oD) :: R))))) (TL : TabLed tl) (LL : LamLed lam) (hP : P g) (h5 : I ≠ 533) (h8 : I ≠ 580) (hoI : ∃ a b, oI.data = .fields #[a, .int b 0]) (hne : ∀ q ∈ (D, oD) :: R, q.1 ≠ I) (hD : h.get? D = some oD)
    (h1 : m' (Str.ofString "text") = some (.str x t)) (h2 : m' (Str.ofString "events") = some (.ref E)) (h3 : m' (Str.ofString "p") = some (.int k tk)) (h4 : m' (Str.ofString "due") = some v) :
    TurnTo L I oI [I, D] h s (InJ P x t E k tk v ((D, oD) :: R) (j + 1)) { s with heap := h', toks := tk' } := by
  have hI : (I, oI) ∈ newT ++ (tl ++ (lam ++ ((I, oI) :: (D, oD) :: R))) := List.mem_append_right _ (List.mem_append_right _ (List.mem_append_right _ (.head _)))
  have hT : ∀ p ∈ tl, p ∈ newT ++ (tl ++ (lam ++ ((I, oI) :: (D, oD) :: R))) := fun p hp => List.mem_append_right _ (List.mem_append_left _ hp)
  have hM : ∀ p ∈ lam, p ∈ newT ++ (tl ++ (lam ++ ((I, oI) :: (D, oD) :: R))) := fun p hp => List.mem_append_right _ (List.mem_append_right _ (List.mem_append_left _ hp))
  have hR : ∀ p ∈ (D, oD) :: R, p ∈ newT ++ (tl ++ (lam ++ ((I, oI) :: (D, oD) :: R))) := fun p hp => List.mem_append_right _ (List.mem_append_right _ (List.mem_append_right _ (.tail _ hp)))
  refine ⟨g, h', tk', m', tl ++ (lam ++ ((D, oD) :: R)), rfl, F, fun p hp => by rw [List.mem_singleton.mp hp]; exact N _ hI, ?_, ?_, ?_, tl, lam, m', rfl, TL, LL, map_four h1 h2 h3 h4, hP⟩
  · intro p hp
    rcases List.mem_append.mp hp with hp | hp
    · exact N p (hT p hp)
    · rcases List.mem_append.mp hp with hp | hp
      · exact N p (hM p hp)
      · exact N p (hR p hp)
  · intro p hp
    rcases List.mem_append.mp hp with hp | hp
    · exact tab_ne N hI hT TL h5 (fun vs t => it_no hoI vs _ t) p hp
    · rcases List.mem_append.mp hp with hp | hp
      · exact lam_ne3 N hI hM LL h8 (it_no hoI) p hp
      · exact hne p hp
  · intro b hb hbI o ho
    rcases List.mem_cons.mp hb with rfl | hb
    · exact absurd rfl hbI
    · rw [List.mem_singleton.mp hb] at ho ⊢
      rw [hD] at ho
      rw [← ho]
      exact (N _ (hR _ (.head _))).1
theorem law_turn (F : Fr g L h' m') (N : News g L h' (tl ++ (lam ++ ((D, oD) :: (new2 ++ (I, oI) :: R))))) (TL : TabLed tl) (LL : LamLed lam) (hP : P g) (h5 : I ≠ 533) (h8 : I ≠ 580) (hoI : ∃ a b c, oI.data = .fields #[rawInt a, rawInt b, rawInt c]) (hne : ∀ q ∈ R, q.1 ≠ I)
    (h1 : m' (Str.ofString "text") = some (.str x t)) (h2 : m' (Str.ofString "events") = some (.ref E)) :
    TurnTo L I oI [I] h s (LawJ P x t E R (j + 1)) { s with heap := h', toks := tk' } := by
  have hI : (I, oI) ∈ tl ++ (lam ++ ((D, oD) :: (new2 ++ (I, oI) :: R))) := List.mem_append_right _ (List.mem_append_right _ (.tail _ (List.mem_append_right _ (.head _))))
  have hT : ∀ p ∈ tl, p ∈ tl ++ (lam ++ ((D, oD) :: (new2 ++ (I, oI) :: R))) := fun p hp => List.mem_append_left _ hp
  have hM : ∀ p ∈ lam, p ∈ tl ++ (lam ++ ((D, oD) :: (new2 ++ (I, oI) :: R))) := fun p hp => List.mem_append_right _ (List.mem_append_left _ hp)
  have hR : ∀ p ∈ R, p ∈ tl ++ (lam ++ ((D, oD) :: (new2 ++ (I, oI) :: R))) := fun p hp => List.mem_append_right _ (List.mem_append_right _ (.tail _ (List.mem_append_right _ (.tail _ hp))))
  refine ⟨g, h', tk', m', tl ++ (lam ++ R), rfl, F, fun p hp => by rw [List.mem_singleton.mp hp]; exact N _ hI, ?_, ?_, fun b hb hne => absurd (List.mem_singleton.mp hb) hne, tl, lam, m', rfl, TL, LL, map_two h1 h2, hP⟩
  · intro p hp
    rcases List.mem_append.mp hp with hp | hp
    · exact N p (hT p hp)
    · rcases List.mem_append.mp hp with hp | hp
      · exact N p (hM p hp)
      · exact N p (hR p hp)
  · intro p hp
    rcases List.mem_append.mp hp with hp | hp
    · exact tab_ne N hI hT TL h5 (fun vs t => rng_no hoI vs _ t) p hp
    · rcases List.mem_append.mp hp with hp | hp
      · exact lam_ne3 N hI hM LL h8 (rng_no hoI) p hp
      · exact hne p hp
end
theorem lam_580 {lam : List (Addr × Obj)} (h : LamLed lam) : ∃ o, (580, o) ∈ lam := by
  rcases h with rfl | ⟨c', oc, vs, q, t, rfl, _⟩
  · exact ⟨_, .head _⟩
  · exact ⟨_, .head _⟩
theorem enter_callK {M : Model} {A : Around} {s : Shared} {f : Value} {pos : List Value} {kw : List (Str × Value)} {c : ClaimW} {cl : Str → Option Addr} {mean : ExcName → Option Value} {args : List WData} {s₁ : Shared}
    (h : codeAny M A (.call f ⟨pos, kw⟩) (GoodK c cl mean args s₁) s) : wpAny M A (PySem.call f pos kw) (fun v s' => GoodK c cl mean args s₁ (.ok (.ret v)) s') (fun e s' => GoodK c cl mean args s₁ (.error e) s') s :=
  wpAny_call (codeAny_mono h fun res s' g => by
    rcases g.1.1 with ⟨v, _, _, rfl, _⟩ | ⟨e, _, _, rfl, _⟩
    · exact g
    · exact g)
theorem goodK_of {s' s₁ : Shared} {cw : ClaimW} {cl : Str → Option Addr} {mean : ExcName → Option Value} {args : List WData} {tabs : List (Addr × Addr)} {r : Result} (hT : TabsAt tabs s₁.heap) (hr : ∀ a x, cw.raises a x = false)
    (h : GoodW cw cl mean args { s₁ with heap := ghostOf s₁.heap tabs } r s' ∧ GrownAll tabs s'.heap) : GoodK cw cl mean args s₁ r s' := by
  obtain ⟨⟨hc, hk, hos, hg⟩, hgr⟩ := h
  have out : ∀ b o, s₁.heap.get? b = some o → b ∈ tabs.map (·.2) → isCodeTable s₁.heap b ∧ o = tabObj #[] ∧ ∃ ps, s'.heap.get? b = some (tabObj ps) := by
    intro b o e hb
    obtain ⟨q, hq, rfl⟩ := List.mem_map.mp hb
    obtain ⟨a1, a2⟩ := hT q hq
    rw [e] at a2
    have a3 := Option.some.inj a2
    subst a3
    exact ⟨(a1.tab e).isCodeTable, rfl, hgr.get q hq⟩
  have inn : ∀ b o, s₁.heap.get? b = some o → b ∉ tabs.map (·.2) → s'.heap.get? b = some o := fun b o e hb => hk b o (ghost_ne e hb)
  refine ⟨⟨?_, ⟨?_, ?_⟩, hos, .of_eq hg⟩, hg⟩
  · rcases hc with ⟨v, d, as, r1, r2, r3, r4, r5⟩ | ⟨e, ob, x, _, _, _, r4, _⟩
    · refine .inl ⟨v, d, as, r1, r2, r3, r4, fun q => ⟨(r5 q).1, fun a ha => ?_⟩⟩
      have n1 := (r5 q).2 a ha
      cases q1 : s₁.heap.get? a with
      | none => rfl
      | some o =>
        by_cases hb : a ∈ tabs.map (·.2)
        · obtain ⟨_, _, ps, hP⟩ := out a o q1 hb
          exact absurd ha (readsW_apart hP rfl r3)
        · have n2 : (ghostOf s₁.heap tabs).get? a = some o := ghost_ne q1 hb
          dsimp only at n1
          rw [n2] at n1; cases n1
    · rw [hr] at r4; cases r4
  · intro b o e
    by_cases hb : b ∈ tabs.map (·.2)
    · obtain ⟨ht, rfl, ps, hP⟩ := out b o e hb
      exact .inr (.inl ⟨ht, rfl, #[], ps, rfl, by rw [Array.empty_append]; exact hP⟩)
    · exact .inl (inn b o e hb)
  · intro b o e
    by_cases hb : b ∈ tabs.map (·.2)
    · obtain ⟨_, _, ps, hP⟩ := out b o e hb
      exact ⟨_, hP⟩
    · exact ⟨o, inn b o e hb⟩
end
section
open PySem.Spec PySem.Calls PySem.SeqAt
section
variable {w : World} {A : Around} {E : Value → Shared → Prop} {s : Shared} {e t0 : Addr} {oe : Obj}
theorem tde_type {M : Model} (ho : s.heap.get? e = some oe) (hc : oe.cls = .ref 316) : Looks M s.heap (typeOf (.ref e)) (.ref 316) := by
  generalize (Value.ref 316) = C at hc
  subst hc
  exact (Looks.ld ho).andThen .now
theorem tde_is {M : Model} (X : (law_top.heap_385 w.params).In s.heap) (ho : s.heap.get? e = some oe) (hc : oe.cls = .ref 316) : Looks M s.heap (isInstance (.ref e) (.type "BaseException")) true :=
  (tde_type ho hc).andThen (looks_mroIn X (by kernel_rfl))
theorem tde_args {M : Model} {vs : Array Value} {items : List Value} {n : Nat} {ot : Obj} {Q : Value × List Value → Shared → Prop} (ho : s.heap.get? e = some oe) (hd : oe.data = .fields vs) (h0 : vs[0]? = some (.ref t0)) (ht : s.heap.get? t0 = some ot) (htd : ot.data = .seq items.toArray n) (hq : Q (.ref t0, items) s) :
    wpAny M A (Builtin.BaseException.bexcArgs (.ref e)) Q E s := by
  unfold Builtin.BaseException.bexcArgs
  refine wpAny_bind (wpAny_field ho hd h0 (wpAny_bind (wpAny_seqItems ht htd ?_)))
  have : items.toArray.toList = items := by simp
  show wpAny M A (pure (Value.ref t0, items.toArray.toList)) Q E s
  rw [this]; exact wpAny_pure hq
theorem tde_special {M : Model} {Q : Option Value → Shared → Prop} (X : (law_top.heap_385 w.params).In s.heap) (ho : s.heap.get? e = some oe) (hc : oe.cls = .ref 316) (h : wpAny M A (call (.builtin "BaseException.__str__") [.ref e]) (fun v => Q (some v)) E s) : wpAny M A (callSpecial? (.ref e) (Str.ofString "__str__")) Q E s := by
  simp only [callSpecial?]
  have L : Looks M s.heap (specialOf (.ref e) (Str.ofString "__str__")) (some (.builtin "BaseException.__str__")) := (tde_type ho hc).andThen (looks_findIn X (by kernel_rfl))
  refine wpAny_bind (L.here ?_)
  dsimp only
  refine wpAny_holding ?_
  rw [PySem.F.excStr_ValueError.str.bind]
  exact wpAny_bind (wpAny_pure (wpAny_bind (wpAny_mono h (fun _ _ z => wpAny_pure z) fun _ _ z => z)))
theorem tde_call {vs : Array Value} {m : Str} {tk : Tok} {n : Nat} {ot : Obj} {Q : Value → Shared → Prop} (X : (law_top.heap_385 w.params).In s.heap) (ho : s.heap.get? e = some oe) (hc : oe.cls = .ref 316) (hd : oe.data = .fields vs) (h0 : vs[0]? = some (.ref t0)) (ht : s.heap.get? t0 = some ot) (htd : ot.data = .seq [Value.str m tk].toArray n) (hq : Q (.str m tk) s) :
    wpAny (model prog w) A (call (.builtin "BaseException.__str__") [.ref e]) Q E s := by
  refine wpAny_call (codeAny_call_builtin (by decide +kernel) F.entry_bexc_str ?_)
  have hk : builtinKind "BaseException.__str__" = some .slot := by kernel_rfl
  have hsp : splitId "BaseException.__str__" = some ("BaseException", "__str__") := by kernel_rfl
  have ha := F.args_bexc_str (.ref e)
  simp only [checkBuiltinCall, hk, hsp]
  refine wpAny_bind ((tde_is X ho hc).here ?_)
  simp only [Bool.not_true, Bool.false_eq_true, if_false]
  have key : wpAny (model prog w) A.in1 (Builtin.«BaseException.__str__» { pos := [Value.ref e] }) (fun fin s' => match fin with
          | Fin.done f => (match Except.ok f with
            | Except.ok (Flow.ret v) => Q v s'
            | Except.ok _ => False
            | Except.error e => E e s')
          | Fin.again c' => c'.quiet = true ∧ codeAny (model prog w) A c' (fun r s' => match r with
                  | Except.ok (Flow.ret v) => Q v s'
                  | Except.ok _ => False
                  | Except.error e => E e s') s') (fun e s' => match Except.error e with
          | Except.ok (Flow.ret v) => Q v s'
          | Except.ok _ => False
          | Except.error e => E e s') s := by
    unfold Builtin.«BaseException.__str__»
    repeat (first | with_reducible refine tde_args ho hd h0 ht htd ?_ | wp_step)
    exact hq
  cases hsig : Manifest.signature? "BaseException.__str__" with
  | none => exact wpAny_pure key
  | some sig =>
    simp only [argsOk, hsig] at ha
    have h2 : Bind.checkArgs "BaseException.__str__" sig ⟨[.ref e], []⟩ = pure () := ha
    show wpAny (model prog w) A.in1 (Bind.checkArgs "BaseException.__str__" sig ⟨[.ref e], []⟩) _ _ s
    rw [h2]; exact wpAny_pure key
theorem tde_strOf {vs : Array Value} {m : Str} {tk : Tok} {n : Nat} {ot : Obj} {Q : Value → Shared → Prop} (hu : A.units < cLine) (X : (law_top.heap_385 w.params).In s.heap) (ho : s.heap.get? e = some oe) (hc : oe.cls = .ref 316) (hd : oe.data = .fields vs) (h0 : vs[0]? = some (.ref t0)) (ht : s.heap.get? t0 = some ot) (htd : ot.data = .seq [Value.str m tk].toArray n) (hq : Q (.str m tk) s) :
    wpAny (model prog w) A (Builtin.Str.strOf (.ref e)) Q E s := by
  unfold Builtin.Str.strOf
  rw [show Builtin.Str.isExactStr (.ref e) = false from rfl]
  refine wpAny_bind (m := cRoomFor _ _) (wpAny_cRoomFor hu ?_)
  refine wpAny_bind (m := callSpecial? (.ref e) (Str.ofString "__str__")) (tde_special X ho hc (tde_call X ho hc hd h0 ht htd ?_))
  exact wpAny_pure hq
theorem tde_str {vs : Array Value} {m : Str} {tk : Tok} {n : Nat} {ot : Obj} {Q : Value → Shared → Prop} (hu : A.in1.in1.units < cLine) (X : (law_top.heap_385 w.params).In s.heap) (ho : s.heap.get? e = some oe) (hc : oe.cls = .ref 316) (hd : oe.data = .fields vs) (h0 : vs[0]? = some (.ref t0)) (ht : s.heap.get? t0 = some ot) (htd : ot.data = .seq [Value.str m tk].toArray n) (hq : Q (.str m tk) s) :
    wpAny (model prog w) A (call (.type "str") [.ref e]) Q E s := by
  refine callType_codes (T := "str") (Bi := Builtin.«object.__init__») (Q₁ := fun r s₁ => ∃ y u, r = .str y u ∧ Q r s₁) PySem.F.called_str (PySem.F.typeCall_str_1 _) PySem.F.entry_object_init ?_ ?_
  · refine codeAny_of_tree ?_
    show wpAny _ A.in1.in1 (do checkBuiltinCall "str.__new__" ⟨[.type "str", .ref e], []⟩; again (.builtin "str.__new__" ⟨[.type "str", .ref e], []⟩)) _ _ s
    refine wpAny_bind (wpAny_of_eq (PySem.F.newCall_str_1 _) (wpAny_pure ⟨plainId_quiet (by decide +kernel) _, codeAny_builtin PySem.F.entry_str_new ?_⟩))
    rw [Around.under_plainId (by decide +kernel) _]
    rw [str_new_tree]
    refine wpAny_bind (wpAny_pure ?_)
    refine wpAny_bind (wpAny_of_eq isSubtype_str_str ?_)
    refine wpAny_bind (wpAny_mono (tde_strOf hu X ho hc hd h0 ht htd (Q := fun r s₁ => ∃ y u, r = .str y u ∧ Q r s₁) ⟨m, tk, rfl, hq⟩) (fun r s₁ hr => wpAny_pure hr) fun _ _ y => y)
  · (intro obj s₁ hr1; obtain ⟨y, u, rfl, hq⟩ := hr1)
    exact ⟨typeIs_str _ _ _, PySem.F.args_object_init_2 _ _, object_init_meets PySem.F.called_str.init.lookup PySem.F.called_str.made (by decide) prog w A.in1 _ s₁ ⟨typeIs_str _ _ _, rfl, hq⟩⟩
theorem ne_pair {g : Heap} {L a b : Addr} {led : List (Addr × Obj)} {i : Int} {x : Str} {t1 t2 t3 t4 : Tok} {Q : Value → Shared → Prop} (hu : A.units < cLine) (N : News g L s.heap led) (ha : (a, tupObj [.int i t1, .str x t2]) ∈ led) (hb : (b, tupObj [.int i t3, .str x t4]) ∈ led) (hq : Q (.bool false) s) :
    wpAny (model prog w) A (compareOp .NotEq (.ref a) (.ref b)) Q E s := by
  refine cmp_ofNotEq ?_
  refine RcNeAt.tuples (items := #[.int i t1, .str x t2]) (items2 := #[.int i t3, .str x t4]) (e := fun _ => true) ⟨_, (N _ ha).1, rfl, _, rfl⟩ ⟨_, (N _ hb).1, rfl, _, rfl⟩ hu (fun j h1 h2 => ?_) prog w E Q ?_
  · match j with
    | 0 => exact (beq_self_eq_true i) ▸ EqAt.int_int i t1 i t3
    | 1 => exact (beq_self_eq_true x) ▸ EqAt.str_str x t2 x t4
    | j + 2 => simp at h1; omega
  · exact hq
end
end
section
open PySem.Spec PySem.Calls PySem.Builtin.Str
set_option maxHeartbeats 8000000
theorem stop_mark {M : Model} {A : Around} {E : Value → Shared → Prop} {s : Shared} {Q : Flow → Shared → Prop} {env : Env} {e : PySem.Expr} {p p2 : Pos} (h : Stop (wpAny M A (exec (.Assign [.Name (Str.ofString "mark") p] e p2) env) Q E s)) : wpAny M A (exec (.Assign [.Name (Str.ofString "mark") p] e p2) env) Q E s := h
theorem stop_store {M : Model} {A : Around} {E : Value → Shared → Prop} {s : Shared} {Q : Unit → Shared → Prop} {env : Env} {v : Value} (h : Stop (wpAny M A (storeName env (Str.ofString "mark") v) Q E s)) : wpAny M A (storeName env (Str.ofString "mark") v) Q E s := h
end
noncomputable section
open PySem.Spec PySem.Calls PySem.Builtin.Str
set_option maxHeartbeats 8000000
set_option hygiene false
local macro_rules | `(tactic| walk_at "call builtin:list.append") => `(tactic| refine stop_any ?_)
local macro_rules | `(tactic| walk_at "And") => `(tactic| ((with_reducible show GoodW _ _ _ _ _ _ _ ∧ _); refine stop_any ?_))
local macro_rules | `(tactic| walk_at "call type:str") => `(tactic| refine stop_any ?_)
local macro_rules | `(tactic| walk_at "exec Try") => `(tactic| ((fail_if_success (with_reducible show wpAny _ _ _ (TryPost _ _ _ _ _ _ _ _ _ _) _ _)); refine stop_any ?_))
local macro_rules | `(tactic| walk_at "exec Assign cons BoolOp") => `(tactic| ((fail_if_success (with_reducible show wpAny _ _ _ (MarkPost _ _ _ _ _ _ _) _ _)); with_reducible refine stop_mark ?_))
local macro_rules | `(tactic| walk_at "exec Assign") => `(tactic| ((fail_if_success (with_reducible show wpAny _ _ _ (MarkPost _ _ _ _ _ _ _) _ _)); with_reducible refine stop_mark ?_))
local macro_rules | `(tactic| walk_at "storeName") => `(tactic| with_reducible refine stop_store ?_)
local macro_rules | `(tactic| walk_at "exec For Name IfExp cons nil") => `(tactic| refine stop_any ?_)
local macro_rules | `(tactic| walk_at "subscriptTail Name BinOp ref int") => `(tactic| refine stop_any ?_)
local macro_rules | `(tactic| walk_at "exec For Name BoolOp cons nil") => `(tactic| refine stop_any ?_)
set_option hygiene true
namespace NLaw
abbrev AV : Type := World × Shared × Shared × Addr × List Int × Addr × List Value × Heap × Program × List Str × (ExcName → Option Value) × (Str → Option Value) × (Str → Option Value) × Addr × Addr × List Value × (Str → Option Value) × Nat × Heap
theorem ne_AV : Nonempty AV := ne_CV.elim fun v => ne_world.elim fun w => ⟨⟨w, v.s, v.s, 0, [], 0, [], v.h₀, v.p, [], v.mean, v.m, v.m, 0, 0, [], v.m, 0, v.h₀⟩⟩
def pk : (P : World → Shared → Shared → Addr → List Int → Addr → List Value → Heap → Program → List Str → (ExcName → Option Value) → (Str → Option Value) → (Str → Option Value) → Addr → Addr → List Value → (Str → Option Value) → Nat → Heap → Prop) ×' (Hid (∀ w s₀ s₁ fa xs Sc sv g0 pT lT mT gT bT Pc Dv ps u0 Lc h0, P w s₀ s₁ fa xs Sc sv g0 pT lT mT gT bT Pc Dv ps u0 Lc h0) → (PySem.Challenge.rw_kq0035_04.Holds)) := by
  apply PSigma.mk
  case snd =>
    intro HP
    refine law_top ?_
    k_fill
    intro w s₀ s₁ mg mb G Y fa o pm cd doc dV kV ho hd hcd hD hmg hg args vals as hpre hlay hrd hwl hlo
    have KX := kIn_of Y.1
    have KF := Y.2.1
    have KT := Y.2.2
    have X9 := (Ground.X G).1
    have V9 := (Ground.X G).2
    refine Ground.open G ?_
    intro T B D TE TW
    try (refine guard_noD D (by decide +kernel) ?_; clear D)
    have h580 := tab_of (x := Str.ofString "law") (c := 584) (P := 580) T KX rfl (by kernel_rfl)
    have hT9 : TabsAt [(537, 533), (584, 580)] s₁.heap := List.forall_mem_cons.mpr ⟨⟨codeHd_of KX, KT⟩, List.forall_mem_cons.mpr ⟨h580, fun _ h => nomatch h⟩⟩
    have he9 : cd = PySem.Value.ref 584 := law_code (x := Str.ofString "law") (c := 584) (P := 580) KX (Top.g T) (by kernel_rfl) hmg ho hd
    subst he9
    clear hmg
    wrow_args hpre hlay hrd hwl hlo
    refine enter_callK ?_
    w_top on
    refine codeAny_mono ?_ (fun _ _ g => goodK_of hT9 (fun _ _ => rfl) g)
    w_call any ho hd hcd hD T F
    clear hd
    rename Fr _ _ _ _ => F0
    rename News _ _ _ _ => N0
    rename Heap.IsList _ _ _ => hL0
    rename IntsAre _ _ => hI0
    rename ¬ ((63 : Nat) : Int) < _ => h63
    rename_i xs hs9 _ hLay _ _ _ _ Sc sv _ _ _ _ _ _ _
    have F1 := ghost_fr hT9 F0
    have N1 := ghost_news hT9 F0 N0
    have X1 := ghost_K hT9 KX (by kernel_rfl)
    have T1 := ghost_top hT9 T
    have B1 := ghost_below hT9
    have FS1 := fsin_ghost hT9 KF
    have L1 := ghost_list hT9 hL0
    have l0 := ghost_lt hT9 F0
    simp only [tabNews, List.map_cons, List.map_nil, List.nil_append] at N1 l0
    generalize hg0 : ghostOf s₁.heap [(537, 533), (584, 580)] = g0 at F1 N1 X1 T1 B1 FS1 L1 ⊢
    obtain ⟨pT, lT, mT, gT, bT, T1⟩ : ∃ p l m g b, Top p l m g b g0 := ⟨_, _, _, _, _, T1⟩
    clear hT9 hg0 F0 N0 KX KF KT Y hL0 hD T TE TW B X9 V9 h580
    skip
    skip
    k_steps
    refine Stop.go ?_
    rename Fr g0 _ _ _ => F2
    rename News g0 _ _ _ => N2
    rename_i Pc _ lP _ Dv _ lD _
    obtain ⟨ps, hps, N2⟩ : ∃ ps : List Value, PiecesOk ps ∧ News g0 s₁.heap.objs.size _ (digLed Dv Pc ps #[] 0) := ⟨_, ⟨rfl, by repeat' (first | exact pieces_nil | refine pieces_cons ?_ (by decide +kernel))⟩, N2⟩
    obtain ⟨u0, hu1, hu2, F2⟩ : ∃ u0 : Str → Option Value, u0 (Str.ofString "digits_v") = some (.ref Dv) ∧ u0 (Str.ofString "pieces") = some (.ref Pc) ∧ Fr g0 s₁.heap.objs.size _ u0 := ⟨_, rfl, rfl, F2⟩
    have hPD : Pc ≠ Dv := Nat.ne_of_lt lD.1
    have h5D : (533 : Addr) ≠ Dv := Nat.ne_of_lt lD.2.1
    have h8D : (580 : Addr) ≠ Dv := Nat.ne_of_lt lD.2.2
    have hall : ∀ p ∈ [(Pc, tupObj ps), (533, tabObj #[]), (580, tabObj #[])], p.1 ≠ Dv := by
      intro p hp
      rcases List.mem_cons.mp hp with rfl | hp
      · exact hPD
      · rcases List.mem_cons.mp hp with rfl | hp
        · exact h5D
        · rw [List.mem_singleton.mp hp]; exact h8D
    generalize hLc : s₁.heap.objs.size = Lc at F2 N2 ⊢
    have hScL : Sc < Lc := by
      obtain ⟨o, e, _⟩ := L1
      exact Nat.lt_of_lt_of_le (Heap.lt_size e) F2.above
    rename Heap => h0
    (skip)
    revert hScL; revert N2; revert F2; revert hall; revert h8D; revert h5D; revert hPD; revert hu2; revert hu1; revert hps; revert T1; revert L1; revert FS1; revert B1; revert X1; revert h63; revert hI0; revert hg
    exact HP.go w s₀ s₁ fa xs Sc sv g0 pT lT mT gT bT Pc Dv ps u0 Lc h0
@[irreducible] def c9 : AV := eps ne_AV fun v => pk.1 v.1 v.2.1 v.2.2.1 v.2.2.2.1 v.2.2.2.2.1 v.2.2.2.2.2.1 v.2.2.2.2.2.2.1 v.2.2.2.2.2.2.2.1 v.2.2.2.2.2.2.2.2.1 v.2.2.2.2.2.2.2.2.2.1 v.2.2.2.2.2.2.2.2.2.2.1 v.2.2.2.2.2.2.2.2.2.2.2.1 v.2.2.2.2.2.2.2.2.2.2.2.2.1 v.2.2.2.2.2.2.2.2.2.2.2.2.2.1 v.2.2.2.2.2.2.2.2.2.2.2.2.2.2.1 v.2.2.2.2.2.2.2.2.2.2.2.2.2.2.2.1 v.2.2.2.2.2.2.2.2.2.2.2.2.2.2.2.2.1 v.2.2.2.2.2.2.2.2.2.2.2.2.2.2.2.2.2.1 v.2.2.2.2.2.2.2.2.2.2.2.2.2.2.2.2.2.2
@[irreducible] def w : World := c9.1
@[irreducible] def s₀ : Shared := c9.2.1
@[irreducible] def s₁ : Shared := c9.2.2.1
@[irreducible] def fa : Addr := c9.2.2.2.1
@[irreducible] def xs : List Int := c9.2.2.2.2.1
@[irreducible] def Sc : Addr := c9.2.2.2.2.2.1
@[irreducible] def sv : List Value := c9.2.2.2.2.2.2.1
@[irreducible] def g0 : Heap := c9.2.2.2.2.2.2.2.1
@[irreducible] def pT : Program := c9.2.2.2.2.2.2.2.2.1
@[irreducible] def lT : List Str := c9.2.2.2.2.2.2.2.2.2.1
@[irreducible] def mT : ExcName → Option Value := c9.2.2.2.2.2.2.2.2.2.2.1
@[irreducible] def gT : Str → Option Value := c9.2.2.2.2.2.2.2.2.2.2.2.1
@[irreducible] def bT : Str → Option Value := c9.2.2.2.2.2.2.2.2.2.2.2.2.1
@[irreducible] def Pc : Addr := c9.2.2.2.2.2.2.2.2.2.2.2.2.2.1
@[irreducible] def Dv : Addr := c9.2.2.2.2.2.2.2.2.2.2.2.2.2.2.1
@[irreducible] def ps : List Value := c9.2.2.2.2.2.2.2.2.2.2.2.2.2.2.2.1
@[irreducible] def u0 : Str → Option Value := c9.2.2.2.2.2.2.2.2.2.2.2.2.2.2.2.2.1
@[irreducible] def Lc : Nat := c9.2.2.2.2.2.2.2.2.2.2.2.2.2.2.2.2.2.1
@[irreducible] def h0 : Heap := c9.2.2.2.2.2.2.2.2.2.2.2.2.2.2.2.2.2.2
namespace NTurn
abbrev AV : Type := Str × Tok × Addr × Array Value × Nat × List (Int × Int × Str) × List (Addr × Obj) × Heap × Nat × Nat × Tok × Heap × Heap × Nat × Addr × Obj × List (Addr × Obj) × List (Addr × Obj) × (Str → Option Value)
theorem ne_AV : Nonempty AV := ne_CV.elim fun v => ne_world.elim fun w => ⟨⟨default, 0, 0, #[], 0, [], [], v.h₀, 0, 0, 0, v.h₀, v.h₀, 0, 0, tabObj #[], [], [], v.m⟩⟩
def pk : (P : Str → Tok → Addr → Array Value → Nat → List (Int × Int × Str) → List (Addr × Obj) → Heap → Nat → Nat → Tok → Heap → Heap → Nat → Addr → Obj → List (Addr × Obj) → List (Addr × Obj) → (Str → Option Value) → Prop) ×' (Hid (∀ x tx0 Ea vs3 n3 evs tups h70 tk70 k tkk g h8 tk8 I oI tl3 lam3 u, P x tx0 Ea vs3 n3 evs tups h70 tk70 k tkk g h8 tk8 I oI tl3 lam3 u) → (pk.1 w s₀ s₁ fa xs Sc sv g0 pT lT mT gT bT Pc Dv ps u0 Lc h0)) := by
  apply PSigma.mk
  case snd =>
    intro HP
    delta pk
    dsimp -zeta only
    intro hg hI0 h63 X1 B1 FS1 L1 T1 hps hu1 hu2 hPD h5D h8D hall F2 N2 hScL
    refine iter_list (g := g0) (items := sv.toArray) (by obtain ⟨o, e, q⟩ := L1; exact ⟨o, F2.keep _ _ e, q⟩) rfl (Nat.ne_of_lt hScL) F2 N2 (DigJ g0 Dv Pc ps) ?_ ?_ ?_
    · exact ⟨rfl, #[], [], 0, _, rfl, .nil, by simp, (fun _ h => nomatch h), map_two hu1 hu2⟩
    · (intro i v g m led h2 tk2 I oI hv hr1 F3 N3 hnI hoI hDI hlD; obtain ⟨rfl, vs, ds, n, u, rfl, hI, hl, hd, rfl⟩ := hr1)
      obtain ⟨x, tx0, rfl, hx⟩ := IntsAre.at hI0 i v (by simpa using hv)
      have hID : I ≠ Dv := fun e => hnI (Dv, W.listOf vs n) (.head _) e.symm
      have hIk : IntsAre vs.toList ds ∧ (∀ d ∈ ds, 0 ≤ d ∧ d < 35586048) := ⟨hI, hd⟩
      have hdl : ((100 : Int) - (ds.length : Int)) = ((100 - ds.length : Nat) : Int) := (Int.ofNat_sub hl).symm
      refine gen_Q fun Q1 hQ1 => ?_
      k_steps
      all_goals (
        refine Stop.go ?_
        rename IsRange _ _ _ _ _ _ _ _ => R4
        rename Fr g0 _ _ _ => F4
        rename News g0 _ _ _ => N4
        obtain ⟨r4, t4, u4, hm1, hm2, hm3, F4⟩ : ∃ (r4 : Int) (t4 : Tok) (u4 : Str → Option Value), u4 (Str.ofString "rest") = some (.int r4 t4) ∧ u4 (Str.ofString "digits_v") = some (.ref Dv) ∧ u4 (Str.ofString "pieces") = some (.ref Pc) ∧ Fr g0 Lc _ u4 := ⟨_, _, _, rfl, rfl, rfl, F4⟩
        refine iter_range (g := g0) (100 - ds.length) hdl rfl R4 (by omega) F4 N4 (DigK g0 Dv Pc ps (I, oI) ds.length) ?_ ?_ ?_
        · exact ⟨rfl, vs, ds, n, r4, t4, u4, rfl, hIk.1, Nat.le_refl _, hIk.2, map_three hm1 hm2 hm3⟩
        · (intro k tk3 g2 m2 led2 h3 tk I2 oI2 hk hr2 F5 N5 hnI2 hoI2; obtain ⟨rfl, vs, ds2, n, r, tr, u, rfl, hI, hl2, hd, rfl⟩ := hr2)
          have hl3 : ds2.length ≤ 100 := by omega
          have hvz : vs.size ≤ 1000000 := by
            have := hI.length
            rw [Array.length_toList] at this
            omega
          have hnI2' : ∀ (vs' : Array Value) (n' : Nat), ∀ q ∈ (I, oI) :: digLed Dv Pc ps vs' n', q.1 ≠ I2 := fun vs' n' q hq => by
            rcases List.mem_cons.mp hq with rfl | hq
            · exact hnI2 (I, oI) (.head _)
            · exact dig_ne (fun q hq => hnI2 q (.tail _ hq)) q hq
          dsimp only [digLed] at N5 hnI2
          have hIk2 : IntsAre vs.toList ds2 ∧ ds2.length ≤ ds.length + k ∧ (∀ d ∈ ds2, 0 ≤ d ∧ d < 35586048) := ⟨hI, hl2, hd⟩
          have hI2D : I2 ≠ Dv := fun e => hnI2 (Dv, W.listOf vs n) (.tail _ (.head _)) e.symm
          refine gen_Q fun Q2 hQ2 => ?_
          k_steps
          · rename 0 < r => hr0
            rename Fr g0 _ _ _ => F5
            rename News g0 _ _ _ => N5
            refine Stop.go ?_
            refine append_K F5 N5 (.tail hI2D (.tail hID (.head hall))) (fun h4z F6 N6 => ?_) (by rw [PySem.sizeLine_eq]; omega)
            clear F5 N5
            k_steps
            rename Fr g0 _ _ _ => F6
            rename News g0 _ _ _ => N6
            obtain ⟨hIa, hIb, hIc⟩ := hIk2
            refine hQ2.go _ _ ?_
            refine dig_turn (n := n + 1) (ds := ds2 ++ [(r - 1).fmod 35586048]) (by rw [Array.toList_push]; exact ints_snoc hIa) (by rw [List.length_append, List.length_singleton]; exact Nat.succ_le_succ hIb) ?_ F6 N6 (.head _) (fun q hq => .tail _ hq) (hnI2' _ _) (by rfl) (by rfl) (by rfl)
            intro d hd'
            rcases List.mem_append.mp hd' with h | h
            · exact hIc d h
            · rw [List.mem_singleton.mp h]
              have e1 := Int.fmod_eq_emod_of_nonneg (r - 1) (b := 35586048) (by decide)
              rw [e1]; exact ⟨Int.emod_nonneg _ (by decide), Int.emod_lt_of_pos _ (by decide)⟩
          · obtain ⟨hIa, hIb, hIc⟩ := hIk2
            refine hQ2.go _ _ ?_
            refine dig_turn (k := k) hIa (Nat.le_succ_of_le hIb) hIc (by assumption) (by assumption) (.head _) (fun q hq => .tail _ hq) hnI2 (by rfl) (by rfl) (by rfl)
        · (intro g2 m2 led2 h3 tk hr3 F5 N5; obtain ⟨rfl, vs, ds2, n, r, tr, u, rfl, hI, hl2, hd, rfl⟩ := hr3)
          have hl3 : ds2.length ≤ 100 := by omega
          k_steps
          refine hQ1.go _ _ ?_
          exact dig_outer L1 F3 hI hl3 hd (by assumption) (by assumption) (.head _) (fun q hq => .tail _ hq) (dig_ne hnI) (by rfl) (by rfl))
    · (intro g m led h2 tk2 hr4 F3 N3; obtain ⟨rfl, vs, ds, n, u, rfl, hI, hl, hd, rfl⟩ := hr4)
      have hN9 : vs.size ≤ 1000000 := by
        have := hI.length
        rw [Array.length_toList] at this
        omega
      dsimp only [digLed] at N3
      k_steps
      refine Stop.go ?_
      with_unfolding_all refine For_led ?_
      rename Fr g0 _ _ _ => F4
      rename News g0 _ _ _ => N4
      refine wpAny_mono (Q := DigPost g0 Lc Pc ps s₁) ?_ ?_ (fun _ _ e => e)
      · k_steps
        · exact ⟨Dv, vs, ds, n, _, _, _, _, rfl, rfl, hI, hl, hd, by assumption, by assumption, rfl, rfl⟩
        · rename Fr g0 _ _ _ => F5
          rename News g0 _ _ _ => N5
          exact ⟨_, _, [0, 4, 6, 3], 0, _, _, _, _, rfl, rfl, .cons 0 _ (.cons 4 _ (.cons 6 _ (.cons 3 _ .nil))), by decide, by decide, F5, fun q hq => N5 q (by
            rcases List.mem_cons.mp hq with rfl | hq
            · exact .head _
            · exact .tail _ (.tail _ hq)), rfl, rfl⟩
      · (intro v s' hr5; obtain ⟨D, vs2, ds2, n2, h5, tk5, t5, u5, rfl, rfl, hI2, hl2, hd2, F5, N5, hu5, hu6⟩ := hr5)
        have F6 := fr_eq F5 (map_two hu5 hu6)
        refine iter_list (g := g0) (items := vs2) ⟨_, (N5 _ (.head _)).1, rfl, _, rfl⟩ rfl (N5 _ (.head _)).2.1 F6 N5 (TxtJ g0 Pc (digLed D Pc ps vs2 n2)) ?_ ?_ ?_
        · exact ⟨rfl, rfl, _, t5, u5, Nat.zero_le _, (fun c h => by
            have e : (Str.ofString "").cps.toList = [] := by kernel_rfl
            rw [e] at h; cases h), rfl⟩
        · (intro i v g1 m1 led1 h6 tk6 I oI hv hr6 F7 N7 hnI hoI hDI hlD; obtain ⟨rfl, rfl, x, tx0, u, hxl, hxc, rfl⟩ := hr6)
          obtain ⟨d, td, rfl, hd⟩ := IntsAre.at hI2 i v (by simpa using hv)
          obtain ⟨hd0, hd1⟩ := hd2 d (List.mem_of_getElem? hd)
          have hi : i < 100 := by
            have := (List.getElem?_eq_some_iff.mp hd).1
            omega
          have hx9 : x.length ≤ 900 := by omega
          have q1 := Int.fmod_eq_emod_of_nonneg d (b := 32) (by decide)
          have q2 := Int.fdiv_eq_ediv_of_nonneg d (b := 32) (by decide)
          have q3 : 0 ≤ d.fmod 32 := by rw [q1]; exact Int.emod_nonneg _ (by decide)
          have q4 : 0 ≤ d.fdiv 32 := by rw [q2]; exact Int.ediv_nonneg hd0 (by decide)
          have q5 : d.fdiv 32 < 1112064 := by rw [q2]; exact Int.ediv_lt_of_lt_mul (by decide) hd1
          have hDo := (N7 (D, W.listOf vs2 n2) (.tail _ (.head _))).1
          refine gen_Q fun Q3 hQ3 => ?_
          k_steps
          all_goals first
            | (refine Stop.go ?_
               refine item_pc hps (by assumption) (.tail _ (.tail _ (.head _))) q3 (by assumption) (fun y ty hyl hyc => ?_)
               k_steps
               refine hQ3.go _ _ ?_
               exact txt_turn hxl hxc hyl hyc (by assumption) (by assumption) (.head _) (fun q hq => .tail _ hq) hnI hDo (.head _) (by rfl) (by rfl))
            | (refine hQ3.go _ _ ?_
               refine txt_turn (y := ⟨#[_]⟩) hxl hxc (Nat.le_of_ble_eq_true rfl) ?yc (by assumption) (by assumption) (.head _) (fun q hq => .tail _ hq) hnI hDo (.head _) (by rfl) (by rfl)
               case yc => exact one_chars (by omega))
        · (intro g1 m1 led1 h6 tk6 hr7 F7 N7; obtain ⟨rfl, rfl, x, tx0, u, hxl, hxc, rfl⟩ := hr7)
          have hx9 : (x.length : Int) < 1000000 := by
            have := hI2.length
            rw [Array.length_toList] at this
            omega
          have N8 : News g0 Lc h6 ([(533, tabObj #[])] ++ [(580, tabObj #[])]) := fun q hq => N7 q (.tail _ (.tail _ hq))
          have D0 : KtsDicts (frs []) g0 := fun b hb => nomatch hb
          clear hI2 hl2 hd2 N5 F5 F6 hu5 hu6 N4 F4 N3 F3 hI hl hd N7 hps
          (try clear N2)
          (try clear F2)
          dsimp only
          k_steps
          refine Stop.go ?_
          refine law_events_ctr w x _ hx9 hxc _ _ _ _ _ _ _ _ _ _ _ _ _ _ _ _ _ _ _ _ [(580, tabObj #[])] [(533, tabObj #[])] _ _ _ (fun _ => rfl) (lam_533 (.inl rfl)) B1 (by assumption) X1 N8 (.inl rfl) T1 rfl X1 T1 D0 KtsTurn.refl FS1 ?c4 ?c5 ?c6 (fun _ _ _ _ _ _ _ _ _ hX => hX.elim)
          case c4 => ktr_room
          case c5 => ktr_units
          case c6 =>
            (intro v new tl2 g2 h7 tk7 hr8 TL2 T2 F8 N9 B2 X2 P2 D2; obtain ⟨Ea, vs3, n3, evs, rfl, hE1, hE2, hE3⟩ := hr8)
            obtain ⟨tups, ht1, ht2, ht3⟩ := hE3.tups
            have NB : ∀ q ∈ (Ea, W.listOf vs3 n3) :: tups, q ∈ new ++ (tl2 ++ [(580, tabObj #[])]) := fun q hq => by
              rcases List.mem_cons.mp hq with rfl | hq
              · exact List.mem_append_left _ hE1
              · exact List.mem_append_left _ (ht1 q hq)
            have hN5 : ∀ q ∈ (Ea, W.listOf vs3 n3) :: tups, q.1 ≠ 533 := fun q hq => ne_tab N9 TL2 (fun p hp => List.mem_append_right _ (List.mem_append_left _ hp)) (NB q hq) (by
              rcases List.mem_cons.mp hq with rfl | hq
              · intro h; cases h
              · exact ht2 q hq)
            have N10 : News g2 Lc h7 (tl2 ++ ([(580, tabObj #[])] ++ ((Ea, W.listOf vs3 n3) :: tups))) := fun q hq => by
              rcases List.mem_append.mp hq with hq | hq
              · exact N9 q (List.mem_append_right _ (List.mem_append_left _ hq))
              · rcases List.mem_append.mp hq with hq | hq
                · exact N9 q (List.mem_append_right _ (List.mem_append_right _ hq))
                · exact N9 q (NB q hq)
            clear N9 N8 NB hE1 hE3 ht1
            k_steps
            refine Stop.go ?_
            rename IsRange _ _ _ _ _ _ _ _ => R5
            rename Fr g2 _ _ _ => F9
            rename News g2 _ _ _ => N11
            rename_i h70 tk70 _ _ _ _
            obtain ⟨u9, hu1, hu2, F9⟩ : ∃ u9 : Str → Option Value, u9 (Str.ofString "text") = some (.str x tx0) ∧ u9 (Str.ofString "events") = some (.ref Ea) ∧ Fr g2 Lc _ u9 := ⟨_, rfl, rfl, F9⟩
            refine iter_range (g := g2) (x.length + 2) (by push_cast; rfl) rfl R5 (by omega) F9 N11 (LawJ (GR (frs []) g0 callerA g0 [] (law_top.heap_385 w.params) pT lT mT gT bT) x tx0 Ea ((Ea, W.listOf vs3 n3) :: tups)) ?_ ?_ ?_
            · exact ⟨tl2, [(580, tabObj #[])], u9, rfl, TL2, .inl rfl, map_two hu1 hu2, T2, B2, X2, P2, D2⟩
            · (intro k tkk g m led h8 tk8 I oI hk hr9 F10 N12 hnI hoI; obtain ⟨tl3, lam3, u, rfl, TL3, LL3, rfl, T3, B3, X3, P3, D3⟩ := hr9)
              dsimp only
              revert F10; revert hnI; revert N12; revert D3; revert P3; revert X3; revert B3; revert T3; revert LL3; revert TL3; revert hoI; revert hk; revert hN5; revert ht3; revert ht2; revert hE2; revert hx9; revert hxc; revert T1; revert FS1; revert B1; revert X1
              exact HP.go x tx0 Ea vs3 n3 evs tups h70 tk70 k tkk g h8 tk8 I oI tl3 lam3 u
            · (intro g m led h8 tk8 hr10 F10 N12; obtain ⟨tl3, lam3, u, rfl, TL3, LL3, rfl, T3, B3, X3, P3, D3⟩ := hr10)
              have F11 : Fr g0 Lc h8 _ := ⟨F10.ns, fun b o e => F10.keep b o (T3.other b o e (fun hm => nomatch hm)), by
                have h1 := F10.above
                have h2 := T3.size
                rw [← h2]; exact h1⟩
              have hG5 : GrownAt 533 h8 := by
                rcases TL3 with rfl | ⟨c', oc, vs, t, rfl, _⟩
                · exact GrownAt.of N12 (.head _)
                · exact GrownAt.of N12 (.head _)
              have hG8 : GrownAt 580 h8 := by
                rcases LL3 with rfl | ⟨c', oc, vs, qn, t, rfl, _⟩
                · exact GrownAt.of N12 (List.mem_append_right _ (.head _))
                · exact GrownAt.of N12 (List.mem_append_right _ (.head _))
              dsimp only
              skip
              k_steps
              refine Stop.go ?_
              exact ⟨goodW_bool F11 hg (fun _ => rfl) (by first | wrow_post | kc_post), hG5, hG8, True.intro⟩
@[irreducible] def c9 : AV := eps ne_AV fun v => pk.1 v.1 v.2.1 v.2.2.1 v.2.2.2.1 v.2.2.2.2.1 v.2.2.2.2.2.1 v.2.2.2.2.2.2.1 v.2.2.2.2.2.2.2.1 v.2.2.2.2.2.2.2.2.1 v.2.2.2.2.2.2.2.2.2.1 v.2.2.2.2.2.2.2.2.2.2.1 v.2.2.2.2.2.2.2.2.2.2.2.1 v.2.2.2.2.2.2.2.2.2.2.2.2.1 v.2.2.2.2.2.2.2.2.2.2.2.2.2.1 v.2.2.2.2.2.2.2.2.2.2.2.2.2.2.1 v.2.2.2.2.2.2.2.2.2.2.2.2.2.2.2.1 v.2.2.2.2.2.2.2.2.2.2.2.2.2.2.2.2.1 v.2.2.2.2.2.2.2.2.2.2.2.2.2.2.2.2.2.1 v.2.2.2.2.2.2.2.2.2.2.2.2.2.2.2.2.2.2
@[irreducible] def x : Str := c9.1
@[irreducible] def tx0 : Tok := c9.2.1
@[irreducible] def Ea : Addr := c9.2.2.1
@[irreducible] def vs3 : Array Value := c9.2.2.2.1
@[irreducible] def n3 : Nat := c9.2.2.2.2.1
@[irreducible] def evs : List (Int × Int × Str) := c9.2.2.2.2.2.1
@[irreducible] def tups : List (Addr × Obj) := c9.2.2.2.2.2.2.1
@[irreducible] def h70 : Heap := c9.2.2.2.2.2.2.2.1
@[irreducible] def tk70 : Nat := c9.2.2.2.2.2.2.2.2.1
@[irreducible] def k : Nat := c9.2.2.2.2.2.2.2.2.2.1
@[irreducible] def tkk : Tok := c9.2.2.2.2.2.2.2.2.2.2.1
@[irreducible] def g : Heap := c9.2.2.2.2.2.2.2.2.2.2.2.1
@[irreducible] def h8 : Heap := c9.2.2.2.2.2.2.2.2.2.2.2.2.1
@[irreducible] def tk8 : Nat := c9.2.2.2.2.2.2.2.2.2.2.2.2.2.1
@[irreducible] def I : Addr := c9.2.2.2.2.2.2.2.2.2.2.2.2.2.2.1
@[irreducible] def oI : Obj := c9.2.2.2.2.2.2.2.2.2.2.2.2.2.2.2.1
@[irreducible] def tl3 : List (Addr × Obj) := c9.2.2.2.2.2.2.2.2.2.2.2.2.2.2.2.2.1
@[irreducible] def lam3 : List (Addr × Obj) := c9.2.2.2.2.2.2.2.2.2.2.2.2.2.2.2.2.2.1
@[irreducible] def u : Str → Option Value := c9.2.2.2.2.2.2.2.2.2.2.2.2.2.2.2.2.2.2
theorem body : pk.1 x tx0 Ea vs3 n3 evs tups h70 tk70 k tkk g h8 tk8 I oI tl3 lam3 u := by
  delta pk
  dsimp -zeta only
  intro X1 B1 FS1 T1 hxc hx9 hE2 ht2 ht3 hN5 hk hoI TL3 LL3 T3 B3 X3 P3 D3 N12 hnI F10
  refine gen_Q fun Q4 hQ4 => ?_
  k_steps
  refine Stop.go ?_
  refine law_due_pur w x _ (k : Int) _ Ea vs3 n3 evs (by omega) (by omega) hx9 hxc (by
    have h1 := ht3.length
    have h2 := evs_len hE2
    rw [Array.length_toList] at h1
    omega) (ev_bounds hxc hE2) (fun hs k' pl wd h hw => body_ok hx9 hE2 hs h hw) _ _ _ _ _ _ _ _ _ _ _ _ _ _ _ _ _ _ _ _ _ _ _ B3 (by assumption) X3 N12 P3 rfl (by ktr_room) (by ktr_units) ⟨.tail _ (List.mem_append_right _ (List.mem_append_right _ (.head _))), ht3.mono fun q hq => .tail _ (List.mem_append_right _ (List.mem_append_right _ (.tail _ hq)))⟩ ?_
  (intro v new2 h9 tk9 hr11 F11 N13; obtain ⟨r2, hDue, hRet⟩ := hr11)
  k_steps
  refine Stop.go ?_
  rename Fr g _ _ _ => F12
  rename News g _ _ _ => N14
  obtain ⟨u12, hv1, hv2, hv3, hv4, F12⟩ : ∃ u12 : Str → Option Value, u12 (Str.ofString "text") = some (.str x tx0) ∧ u12 (Str.ofString "events") = some (.ref Ea) ∧ u12 (Str.ofString "p") = some (.int (k : Int) tkk) ∧ u12 (Str.ofString "due") = some v ∧ Fr g Lc _ u12 := ⟨_, rfl, rfl, rfl, rfl, F12⟩
  have F13 := fr_eq F12 (map_four hv1 hv2 hv3 hv4)
  clear F12
  refine wpAny_mono (Q := MarkPost g Lc s₁ (lawNames x tx0 Ea (k : Int) tkk v u12) (new2 ++ (I, oI) :: (tl3 ++ (lam3 ++ (Ea, W.listOf vs3 n3) :: tups))) x (k : Int)) ?_ ?_ (fun _ _ e => e)
  · k_steps
    · refine Stop.go ?_
      rename List.any _ _ = true => hin
      rename Fr g _ _ _ => F14
      rename News g _ _ _ => N15
      refine storeX_L F14 (news_drop N15) (fun h10 F15 N16 => ?_) rfl rfl
      exact ⟨rfl, _, h10, _, rfl, mark_ok hin rfl, F15, N16⟩
    · refine Stop.go ?_
      rename List.any _ _ = false => hin
      rename Fr g _ _ _ => F14
      rename News g _ _ _ => N15
      rw [hin]
      refine storeX_L F14 (news_drop N15) (fun h10 F15 N16 => ?_) rfl rfl
      exact ⟨rfl, false, h10, _, rfl, (fun h => by cases h), F15, N16⟩
  · (intro fl s2 hr12; obtain ⟨rfl, b, h10, tk10, rfl, hMK, F16, N17⟩ := hr12)
    clear F13 N14
    dsimp only
    k_steps
    refine Stop.go ?_
    with_unfolding_all refine For_led ?_
    obtain ⟨u16, hw1, hw2, hw3, hw4, hw5, F16⟩ : ∃ u16 : Str → Option Value, u16 (Str.ofString "text") = some (.str x tx0) ∧ u16 (Str.ofString "events") = some (.ref Ea) ∧ u16 (Str.ofString "p") = some (.int (k : Int) tkk) ∧ u16 (Str.ofString "due") = some v ∧ u16 (Str.ofString "mark") = some (.bool b) ∧ Fr g Lc _ u16 := ⟨_, rfl, rfl, rfl, rfl, rfl, F16⟩
    refine wpAny_mono (Q := TwPost g Lc s₁ u16 (new2 ++ (I, oI) :: (tl3 ++ (lam3 ++ (Ea, W.listOf vs3 n3) :: tups))) x (k : Int)) ?_ ?_ (fun _ _ e => e)
    · have F17 := fr_eq F16 (show u16 = fun y => if y = Str.ofString "mark" then some (.bool b) else u16 y from by
        funext y
        by_cases q : y = Str.ofString "mark"
        · rw [if_pos q, q, hw5]
        · rw [if_neg q])
      clear F16
      k_steps
      all_goals (
        rename Fr g _ _ _ => F18
        rename News g _ _ _ => N18
        have F18 := fr_eq F18 (show _ = u16 from by
          funext y
          by_cases q : y = Str.ofString "mark"
          · rw [if_pos q, q, hw5]
          · rw [if_neg q])
        refine ⟨_, _, _, _, rfl, rfl, ?_, F18, N18⟩)
      · intro i y hy
        match i with
        | 0 => exact ⟨false, (Option.some.inj hy).symm, fun h => by cases h⟩
        | 1 => exact ⟨true, (Option.some.inj hy).symm, fun _ => hMK (by assumption)⟩
        | i + 2 => simp at hy
      · intro i y hy
        match i with
        | 0 => exact ⟨false, (Option.some.inj hy).symm, fun h => by cases h⟩
        | i + 1 => simp at hy
    · (intro v9 s9 hr13; obtain ⟨D, its, h11, tk11, rfl, rfl, hits, F17, N18⟩ := hr13)
      have F18 := fr_eq F17 (map_four hw1 hw2 hw3 hw4)
      clear F17 F16 N17
      have hDm := N18 (D, tupObj its) (.head _)
      have N19 : News g Lc h11 (tl3 ++ (lam3 ++ ((D, tupObj its) :: (new2 ++ (I, oI) :: ((Ea, W.listOf vs3 n3) :: tups))))) := fun q hq => N18 q (by
        simp only [List.mem_append, List.mem_cons] at hq ⊢
        rcases hq with h | h | h | h | h | h | h <;> simp [h])
      refine iter_tuple (g := g) (items := its.toArray) ⟨_, hDm.1, rfl, _, rfl⟩ rfl hDm.2.1 F18 N19 (InJ (GR (frs []) g0 callerA g0 [] (law_top.heap_385 w.params) pT lT mT gT bT) x tx0 Ea (k : Int) tkk v ((D, tupObj its) :: (new2 ++ (I, oI) :: ((Ea, W.listOf vs3 n3) :: tups)))) ?_ ?_ ?_
      · exact ⟨tl3, lam3, u16, rfl, TL3, LL3, rfl, T3, B3, X3, P3, D3⟩
      · (intro j vT gg mm led hh tt I2 oI2 hvT hr14 F19 N20 hnI2 hoI2 hDI2 hlD; obtain ⟨tl4, lam4, u4, rfl, TL4, LL4, rfl, T4, B4, X4, P4, D4⟩ := hr14)
        obtain ⟨c, rfl, hc⟩ := hits j vT (by simpa using hvT)
        have N21 : News gg Lc hh (tl4 ++ (lam4 ++ ((I2, oI2) :: (D, tupObj its) :: (new2 ++ (I, oI) :: ((Ea, W.listOf vs3 n3) :: tups))))) := fun q hq => N20 q (by
          simp only [List.mem_append, List.mem_cons] at hq ⊢
          rcases hq with h | h | h | h | h | h | h | h <;> simp [h])
        refine gen_Q fun Q5 hQ5 => ?_
        k_steps
        refine Stop.go ?_
        refine wpAny_mono (Q := TryPost (GR (frs []) g0 callerA g0 [] (law_top.heap_385 w.params) pT lT mT gT bT) Lc s₁ x tx0 Ea (k : Int) tkk v ((I2, oI2) :: (D, tupObj its) :: (new2 ++ (I, oI) :: ((Ea, W.listOf vs3 n3) :: tups)))) ?_ ?_ (fun _ _ e => e)
        · have h533I : I ≠ 533 := by
            obtain ⟨o5, ho5⟩ := tabled_mem TL3
            exact fun e => hnI (533, o5) (List.mem_append_left _ ho5) e.symm
          have h533J : I2 ≠ 533 := by
            obtain ⟨o5, ho5⟩ := tabled_mem TL4
            exact fun e => hnI2 (533, o5) (List.mem_append_left _ ho5) e.symm
          have hT4 : ∀ p ∈ tl4, p ∈ tl4 ++ (lam4 ++ ((I2, oI2) :: (D, tupObj its) :: (new2 ++ (I, oI) :: ((Ea, W.listOf vs3 n3) :: tups)))) := fun p hp => List.mem_append_left _ hp
          have hR5 : ∀ q ∈ ((I2, oI2) :: (D, tupObj its) :: (new2 ++ (I, oI) :: ((Ea, W.listOf vs3 n3) :: tups))), q.1 ≠ 533 := by
            intro q hq
            rcases List.mem_cons.mp hq with rfl | hq
            · exact h533J
            · rcases List.mem_cons.mp hq with rfl | hq
              · exact ne_tab N21 TL4 hT4 (List.mem_append_right _ (List.mem_append_right _ (.tail _ (.head _)))) (fun h => by cases h)
              · rcases List.mem_append.mp hq with hq | hq
                · exact ne_tab N21 TL4 hT4 (List.mem_append_right _ (List.mem_append_right _ (.tail _ (.tail _ (List.mem_append_left _ hq))))) (ret_NT hRet q hq)
                · rcases List.mem_cons.mp hq with rfl | hq
                  · exact h533I
                  · exact hN5 q hq
          have hL5 : ∀ q ∈ lam4 ++ ((I2, oI2) :: (D, tupObj its) :: (new2 ++ (I, oI) :: ((Ea, W.listOf vs3 n3) :: tups))), q.1 ≠ 533 := by
            intro q hq
            rcases List.mem_append.mp hq with hq | hq
            · exact lam_533 LL4 q hq
            · exact hR5 q hq
          cases c with
          | true =>
            have hmk := hc rfl
            have h580 : ∀ q ∈ tl4 ++ ((I2, oI2) :: (D, tupObj its) :: (new2 ++ (I, oI) :: ((Ea, W.listOf vs3 n3) :: tups))), q.1 ≠ 580 := by
              obtain ⟨o8, ho8⟩ := lam_580 LL4
              obtain ⟨o9, ho9⟩ := lam_580 LL3
              have hM4 : ∀ p ∈ lam4, p ∈ tl4 ++ (lam4 ++ ((I2, oI2) :: (D, tupObj its) :: (new2 ++ (I, oI) :: ((Ea, W.listOf vs3 n3) :: tups)))) := fun p hp => List.mem_append_right _ (List.mem_append_left _ hp)
              intro q hq
              rcases List.mem_append.mp hq with hq | hq
              · rcases tab_NT TL4 q hq with e | e
                · rw [e]; decide
                · exact ne_580 N21 LL4 hM4 (hT4 q hq) e
              · rcases List.mem_cons.mp hq with rfl | hq
                · exact fun e => hnI2 (580, o8) (List.mem_append_right _ (List.mem_append_left _ ho8)) e.symm
                · rcases List.mem_cons.mp hq with rfl | hq
                  · exact ne_580 N21 LL4 hM4 (List.mem_append_right _ (List.mem_append_right _ (.tail _ (.head _)))) (.inl (fun h => by cases h))
                  · rcases List.mem_append.mp hq with hq | hq
                    · exact ne_580 N21 LL4 hM4 (List.mem_append_right _ (List.mem_append_right _ (.tail _ (.tail _ (List.mem_append_left _ hq))))) (.inl (ret_NT hRet q hq))
                    · rcases List.mem_cons.mp hq with rfl | hq
                      · exact fun e => hnI (580, o9) (List.mem_append_right _ (List.mem_append_left _ ho9)) e.symm
                      · refine ne_580 N21 LL4 hM4 (List.mem_append_right _ (List.mem_append_right _ (.tail _ (.tail _ (List.mem_append_right _ (.tail _ hq)))))) (.inl ?_)
                        rcases List.mem_cons.mp hq with rfl | hq
                        · intro h; cases h
                        · exact ht2 q hq
            skip
            k_steps
            refine lam_eval (tl := tl4) (lam := lam4) (R := ((I2, oI2) :: (D, tupObj its) :: (new2 ++ (I, oI) :: ((Ea, W.listOf vs3 n3) :: tups)))) (by assumption) N21 LL4 TL4 P4 (lamHd_of X4) h580 rfl rfl rfl (fun c' => rfl) rfl rfl (fun f of lam6 h5x tk5x LL6 F5x N5x hcf hlt hl6 => ?_)
            k_steps
            refine Stop.go ?_
            have N5y : News gg Lc h5x (tl4 ++ ((f, of) :: (lam6 ++ ((I2, oI2) :: (D, tupObj its) :: (new2 ++ (I, oI) :: ((Ea, W.listOf vs3 n3) :: tups)))))) := fun q hq => N5x q (by
              rcases List.mem_append.mp hq with hq | hq
              · exact .tail _ (List.mem_append_left _ hq)
              · rcases List.mem_cons.mp hq with rfl | hq
                · exact .head _
                · exact .tail _ (List.mem_append_right _ hq))
            have hL6 : ∀ q ∈ (f, of) :: (lam6 ++ ((I2, oI2) :: (D, tupObj its) :: (new2 ++ (I, oI) :: ((Ea, W.listOf vs3 n3) :: tups)))), q.1 ≠ 533 := by
              intro q hq
              rcases List.mem_cons.mp hq with rfl | hq
              · obtain ⟨o5, ho5⟩ := tabled_mem TL4
                exact Nat.ne_of_gt (hlt (533, o5) (List.mem_append_left _ ho5))
              · rcases List.mem_append.mp hq with hq | hq
                · exact lam_533 LL6 q hq
                · exact hR5 q hq
            refine parse_value_ctr w x _ (k : Int) _ _ (by omega) hmk.1 hx9 hxc hmk.2 _ _ _ _ _ _ _ _ _ _ _ _ _ _ _ _ _ _ _ _ ((f, of) :: (lam6 ++ ((I2, oI2) :: (D, tupObj its) :: (new2 ++ (I, oI) :: ((Ea, W.listOf vs3 n3) :: tups))))) tl4 _ _ _ (fun _ => rfl) hL6 B4 (by assumption) X4 N5y TL4 P4 rfl X1 T1 D4 T4 FS1 ?c4 ?c5 ?c6 ?c7
            case c4 => ktr_room
            case c5 => ktr_units
            case c6 =>
              (intro v' new' tl6 g6 h6 tk6 hr15 TL6 T6 F6 N6 B6 X6 P6 D6; obtain ⟨a6, i6, x6, t6, u6, hKey, rfl, rfl⟩ := hr15)
              k_steps
              rename Fr g6 _ _ _ => F7
              rename News g6 _ _ _ => N7
              exact ⟨rfl, .ok (i6, x6), _, [(a6, _)], tl6, lam6, g6, _, _, _, rfl, hKey, ⟨a6, t6, u6, rfl, rfl⟩, TL6, LL6, ⟨T6, B6, X6, P6, D6⟩, fr_eq F7 (told_names rfl rfl rfl rfl rfl), fun q hq => N7 q (by
                rcases List.mem_append.mp hq with hq | hq
                · exact List.mem_append_left _ hq
                · rcases List.mem_append.mp hq with hq | hq
                  · exact List.mem_append_right _ (List.mem_append_left _ hq)
                  · exact List.mem_append_right _ (List.mem_append_right _ (.tail _ hq)))⟩
            case c7 =>
              intro msg e9 t9 k9 tl6 g6 G6 h6 tk6 hKey TL6 T6 F6 B6 D6 R6 U6
              k_dflt (refine' caught_SOB (C := 316) R6 F6 B6 U6 X1 T1 D6 T6 ?ex ?q ?_)
              case ex => k_is
              case q => kts_isx
              all_goals (try k_whole)
              rintro h7 g7 n7 tk7 T7 F7 N7 G7 N8 B7 X7 P7 D7
              clear F6 B6 D6 R6 U6 T6 N21 N20 F19
              k_steps
              refine Stop.go ?_
              obtain ⟨oe, ot, ws, nt, q1, q2, q3, q4, q5, q6, q7⟩ := G7
              refine tde_str (by ktr_units) (X7.keeps F7.keep) (N7 _ q1).1 q3 q4 q5 (N7 _ q2).1 q7 ?_
              clear q1 q2 q3 q4 q5 q6 q7 N7
              k_steps
              rename Fr g7 _ _ _ => F8
              rename News g7 _ _ _ => N9
              exact ⟨rfl, .error msg, _, [], tl6, lam6, g7, _, _, _, rfl, hKey, ⟨rfl, _, rfl⟩, TL6, LL6, ⟨T7, B7, X7, P7, D7⟩, fr_eq F8 (told_names rfl rfl rfl rfl rfl), (fun q hq => N9 q (by
                rcases List.mem_append.mp hq with hq | hq
                · cases hq
                · rcases List.mem_append.mp hq with hq | hq
                  · exact List.mem_append_left _ hq
                  · exact List.mem_append_right _ (.tail _ hq)))⟩
          | false =>
            skip
            k_steps
            refine Stop.go ?_
            refine parse_key_part_ctr w x _ (k : Int) _ (by omega) (by omega) hx9 hxc _ _ _ _ _ _ _ _ _ _ _ _ _ _ _ _ _ _ _ _ (lam4 ++ ((I2, oI2) :: (D, tupObj its) :: (new2 ++ (I, oI) :: ((Ea, W.listOf vs3 n3) :: tups)))) tl4 _ _ _ (fun _ => rfl) hL5 B4 (by assumption) X4 N21 TL4 P4 rfl X1 T1 D4 T4 FS1 ?c4 ?c5 ?c6 ?c7
            case c4 => ktr_room
            case c5 => ktr_units
            case c6 =>
              (intro v' new' tl6 g6 h6 tk6 hr16 TL6 T6 F6 N6 B6 X6 P6 D6; obtain ⟨a6, i6, x6, t6, u6, hKey, rfl, rfl⟩ := hr16)
              k_steps
              rename Fr g6 _ _ _ => F7
              rename News g6 _ _ _ => N7
              exact ⟨rfl, .ok (i6, x6), _, [(a6, _)], tl6, lam4, g6, _, _, _, rfl, hKey, ⟨a6, t6, u6, rfl, rfl⟩, TL6, LL4, ⟨T6, B6, X6, P6, D6⟩, fr_eq F7 (told_names rfl rfl rfl rfl rfl), N7⟩
            case c7 =>
              intro msg e9 t9 k9 tl6 g6 G6 h6 tk6 hKey TL6 T6 F6 B6 D6 R6 U6
              k_dflt (refine' caught_SOB (C := 316) R6 F6 B6 U6 X1 T1 D6 T6 ?ex ?q ?_)
              case ex => k_is
              case q => kts_isx
              all_goals (try k_whole)
              rintro h7 g7 n7 tk7 T7 F7 N7 G7 N8 B7 X7 P7 D7
              clear F6 B6 D6 R6 U6 T6 N21 N20 F19
              k_steps
              refine Stop.go ?_
              obtain ⟨oe, ot, ws, nt, q1, q2, q3, q4, q5, q6, q7⟩ := G7
              refine tde_str (by ktr_units) (X7.keeps F7.keep) (N7 _ q1).1 q3 q4 q5 (N7 _ q2).1 q7 ?_
              clear q1 q2 q3 q4 q5 q6 q7 N7
              k_steps
              rename Fr g7 _ _ _ => F8
              rename News g7 _ _ _ => N9
              exact ⟨rfl, .error msg, _, [], tl6, lam4, g7, _, _, _, rfl, hKey, ⟨rfl, _, rfl⟩, TL6, LL4, ⟨T7, B7, X7, P7, D7⟩, fr_eq F8 (told_names rfl rfl rfl rfl rfl), N9⟩
        · (intro fl s9 hr17; obtain ⟨rfl, rK, vT, newT, tl5, lam5, g5, h12, tk12, u5, rfl, hKey, hRT, TL5, LL5, P5, F20, N22⟩ := hr17)
          have hrr := key_due hE2 hKey hDue
          subst hrr
          obtain ⟨o5, ho5⟩ := tabled_mem TL4
          obtain ⟨o8, ho8⟩ := lam_580 LL4
          have hI25 : I2 ≠ 533 := fun e => hnI2 (533, o5) (List.mem_append_left _ ho5) e.symm
          have hI28 : I2 ≠ 580 := fun e => hnI2 (580, o8) (List.mem_append_right _ (List.mem_append_left _ ho8)) e.symm
          have hne2 : ∀ q ∈ (D, tupObj its) :: (new2 ++ (I, oI) :: ((Ea, W.listOf vs3 n3) :: tups)), q.1 ≠ I2 := fun q hq => hnI2 q (List.mem_append_right _ (List.mem_append_right _ hq))
          have hDo2 := (N21 (D, tupObj its) (List.mem_append_right _ (List.mem_append_right _ (.tail _ (.head _))))).1
          dsimp only
          k_steps
          cases rK with
          | error msg =>
            obtain ⟨rfl, t9, rfl⟩ := hRT
            obtain ⟨rfl, u9', rfl⟩ := hRet
            refine ne_str ?_
            rw [show (msg != msg) = false from by simp]
            k_steps
            refine hQ5.go _ _ ?_
            exact in_turn (by assumption) (by assumption) TL5 LL5 P5 hI25 hI28 hoI2 hne2 hDo2 (by rfl) (by rfl) (by rfl) (by rfl)
          | ok r =>
            obtain ⟨i9, x9⟩ := r
            obtain ⟨a9, t9, u9', rfl, rfl⟩ := hRT
            obtain ⟨b9, t8, u8, rfl, rfl⟩ := hRet
            refine ne_pair (by ktr_units) N22 (.head _) (List.mem_append_right _ (List.mem_append_right _ (List.mem_append_right _ (.tail _ (.tail _ (List.mem_append_left _ (.head _))))))) ?_
            k_steps
            refine hQ5.go _ _ ?_
            exact in_turn (by assumption) (by assumption) TL5 LL5 P5 hI25 hI28 hoI2 hne2 hDo2 (by rfl) (by rfl) (by rfl) (by rfl)
      · (intro gg mm led hh tt hr18 F19 N20; obtain ⟨tl4, lam4, u4, rfl, TL4, LL4, rfl, T4, B4, X4, P4, D4⟩ := hr18)
        obtain ⟨o5, ho5⟩ := tabled_mem TL3
        obtain ⟨o8, ho8⟩ := lam_580 LL3
        have hI5 : I ≠ 533 := fun e => hnI (533, o5) (List.mem_append_left _ ho5) e.symm
        have hI8 : I ≠ 580 := fun e => hnI (580, o8) (List.mem_append_right _ (List.mem_append_left _ ho8)) e.symm
        dsimp only
        k_steps
        refine hQ4.go _ _ ?_
        exact law_turn (by assumption) (by assumption) TL4 LL4 ⟨T4, B4, X4, P4, D4⟩ hI5 hI8 hoI (fun q hq => hnI q (List.mem_append_right _ (List.mem_append_right _ hq))) (by rfl) (by rfl)
end NTurn
theorem body : pk.1 w s₀ s₁ fa xs Sc sv g0 pT lT mT gT bT Pc Dv ps u0 Lc h0 := NTurn.pk.2 (.mk fun x tx0 Ea vs3 n3 evs tups h70 tk70 k tkk g h8 tk8 I oI tl3 lam3 u => eps_all (ne := NTurn.ne_AV) (S := fun v => NTurn.pk.1 v.1 v.2.1 v.2.2.1 v.2.2.2.1 v.2.2.2.2.1 v.2.2.2.2.2.1 v.2.2.2.2.2.2.1 v.2.2.2.2.2.2.2.1 v.2.2.2.2.2.2.2.2.1 v.2.2.2.2.2.2.2.2.2.1 v.2.2.2.2.2.2.2.2.2.2.1 v.2.2.2.2.2.2.2.2.2.2.2.1 v.2.2.2.2.2.2.2.2.2.2.2.2.1 v.2.2.2.2.2.2.2.2.2.2.2.2.2.1 v.2.2.2.2.2.2.2.2.2.2.2.2.2.2.1 v.2.2.2.2.2.2.2.2.2.2.2.2.2.2.2.1 v.2.2.2.2.2.2.2.2.2.2.2.2.2.2.2.2.1 v.2.2.2.2.2.2.2.2.2.2.2.2.2.2.2.2.2.1 v.2.2.2.2.2.2.2.2.2.2.2.2.2.2.2.2.2.2) (by with_unfolding_all exact NTurn.body) ⟨x, tx0, Ea, vs3, n3, evs, tups, h70, tk70, k, tkk, g, h8, tk8, I, oI, tl3, lam3, u⟩)
end NLaw
theorem law_holds : PySem.Challenge.rw_kq0035_04.Holds := NLaw.pk.2 (.mk fun w s₀ s₁ fa xs Sc sv g0 pT lT mT gT bT Pc Dv ps u0 Lc h0 => eps_all (ne := NLaw.ne_AV) (S := fun v => NLaw.pk.1 v.1 v.2.1 v.2.2.1 v.2.2.2.1 v.2.2.2.2.1 v.2.2.2.2.2.1 v.2.2.2.2.2.2.1 v.2.2.2.2.2.2.2.1 v.2.2.2.2.2.2.2.2.1 v.2.2.2.2.2.2.2.2.2.1 v.2.2.2.2.2.2.2.2.2.2.1 v.2.2.2.2.2.2.2.2.2.2.2.1 v.2.2.2.2.2.2.2.2.2.2.2.2.1 v.2.2.2.2.2.2.2.2.2.2.2.2.2.1 v.2.2.2.2.2.2.2.2.2.2.2.2.2.2.1 v.2.2.2.2.2.2.2.2.2.2.2.2.2.2.2.1 v.2.2.2.2.2.2.2.2.2.2.2.2.2.2.2.2.1 v.2.2.2.2.2.2.2.2.2.2.2.2.2.2.2.2.2.1 v.2.2.2.2.2.2.2.2.2.2.2.2.2.2.2.2.2.2) (by with_unfolding_all exact NLaw.body) ⟨w, s₀, s₁, fa, xs, Sc, sv, g0, pT, lT, mT, gT, bT, Pc, Dv, ps, u0, Lc, h0⟩)
end
end Mine
theorem PySem.Challenge.cw_kq0035_04_holds : PySem.Challenge.rw_kq0035_04.Holds := by
  exact Mine.law_holds
