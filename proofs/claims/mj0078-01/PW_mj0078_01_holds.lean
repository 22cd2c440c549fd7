import PyProof.Rows.All
import Wide.All
import OpenK.AllK
import Wide.FinOn
import Lean
import PySem.Challenge.RW_mj0078_01
section
open PySem PySem.W PyProof.Rows
set_option Elab.async false
set_option maxRecDepth 100000
set_option maxHeartbeats 0
namespace Mine
/-- the head, in one look: the opening is the library's, the rest is one run -/
theorem left_of_boot {p q : Program} {loose : List Str} {Xt : Shared → Bool} {α : Type} {Yf : Shared → α} {Ya : World → α} {N : Nat} (e : opening p = plainProg p.main.scope.names) (hN : Nat.ble 600 N = true) (f : ∀ s, fenceModules? p s = some s)
    (h : ∀ (w : World) (os : OsState), (topFrom treeTable p w N ⟨boot_heap w.params, Array.mk [], boot_drawn, boot_toks, os⟩).map (fun s => (openSeen q loose (importedModules p.main.body) Xt true s, Yf s)) = some (openGood q loose, Ya w)) :
    LeftO p q loose Xt Yf Ya N := fun w => by
  have b := boot_open e hN f w
  obtain ⟨s, hs, hv⟩ := Option.map_eq_some_iff.mp b
  obtain ⟨hp, g, d, k, os⟩ := s
  simp only [Prod.mk.injEq] at hv
  obtain ⟨rfl, rfl, rfl, rfl⟩ := hv
  unfold openEnds
  rw [hs]
  exact h w os
/-- of the text: add_callers and law alone are looked at -/
noncomputable def vw : Program := view PySem.Challenge.pw_mj0078_01 [3, 31]
noncomputable def loo : List Str := ["_wall", "add_func_stats", "count_calls", "_buffer", "_truth", "_B64", "b2a_base64", "_NO_SEP", "b2a_hex", "hexlify", "b64encode", "standard_b64encode", "_urlsafe_encode_translation", "urlsafe_b64encode", "b16encode", "_law_pieces", "_law_signs", "_law_callers", "_law_total", "_law_line", "_law_ledger", "_law_counted", "_law_summed", "_law_often", "_law_kind", "_law_all"]
theorem boots : opening PySem.Challenge.pw_mj0078_01 = plainProg PySem.Challenge.pw_mj0078_01.main.scope.names := by kernel_rfl
theorem fences : ∀ s, fenceModules? PySem.Challenge.pw_mj0078_01 s = some s := fun s => by kernel_rfl
local macro_rules | `(tactic| o_head $H) => do
  let hw := Lean.mkIdent `hw
  let hc := Lean.mkIdent `hc
  `(tactic| (
    refine holds_open (q := vw) (loose := loo) (Xt := fun s => xlAt vw [] s && recOk (RowW.records (OpenRow.toRowW (OpenLaw.row PySem.Challenge.rw_mj0078_01))) s) (XP := XL vw []) (Yf := Hook.obs $H) (Ya := Hook.val $H) (YP := Hook.says $H) (N := 1836) ?hl (Hook.of $H) (Hook.keeps $H) (fun s e => xl_of s (Bool.and_eq_true_iff.mp e).1) XL.keeps (by rfl) (by rfl) (by rfl) (fun s e => recFacts_of (Bool.and_eq_true_iff.mp e).2) (by rfl) (by assumption) (by decide +kernel) ⟨rfl, rfl, rfl, rfl, rfl, by decide +kernel⟩ ?$hw ?$hc
    · refine left_of_boot boots rfl fences fun w os => ?_
      unfold topFrom
      rw [PySem.W.Fast.te14082659384304107361, PySem.W.Fast.te14364793385576792824, PySem.W.Fast.te4187177175401517315, PySem.W.Fast.te5923862056798008813]
      kernel_rfl))
open_top hd for PySem.Challenge.rw_mj0078_01
end Mine
end
section
open PySem PySem.W PyProof.Rows
set_option Elab.async false
set_option maxRecDepth 100000
set_option autoImplicit false
set_option linter.unusedVariables false
namespace Mine
open Sem (wp)
theorem upd_size (h : Heap) (a : Addr) (f : Obj → Obj) : (h.update a f).objs.size = h.objs.size := by
  unfold Heap.update
  simp
theorem runs_size {M : Model} {Γ : Ctx} {p : Pos} {t : Sem Fin} {fs : List PySem.Frame} {s s' : Shared} {e : End} (h : Runs M Γ p t fs s e s') : s.heap.objs.size ≤ s'.heap.objs.size := by
  induction h <;> (try simp only [Shared.setGen, Heap.size_push, upd_size] at *) <;> omega
theorem returns_size {M : Model} {Γ : Ctx} {p : Pos} {s s' : Shared} {r : Result} (h : Returns M Γ p s r s') : s.heap.objs.size ≤ s'.heap.objs.size := runs_size h
theorem wakes_size {M : Model} {Γ : Ctx} {p : Pos} {g : Nat} {r : Resume} {s s' : Shared} {res : GenResult} (h : Wakes M Γ p g r s res s') : s.heap.objs.size ≤ s'.heap.objs.size := by
  unfold Wakes at h
  split at h
  · exact h.elim
  · split at h
    · obtain ⟨e₁, s₁, hr, _, _, rfl⟩ := h; exact (runs_size hr : (s.setGen g .running).heap.objs.size ≤ s₁.heap.objs.size)
    · rw [h.2]; exact Nat.le_refl _
    · rw [h.2]; exact Nat.le_refl _
  · obtain ⟨e₁, s₁, hr, _, _, rfl⟩ := h; exact (runs_size hr : (s.setGen g .running).heap.objs.size ≤ s₁.heap.objs.size)
  · rw [h.2]; exact Nat.le_refl _
  · rw [h.2]; exact Nat.le_refl _
theorem wp_size {α : Type} (M : Model) (Γ : Ctx) (n : Nat) (t : Sem α) : ∀ (Q : α → Pos → Shared → Prop) (E : Value → Pos → Shared → Prop) (p : Pos) (s : Shared), n ≤ s.heap.objs.size → wp M Γ t Q E p s →
    wp M Γ t (fun a p' s' => n ≤ s'.heap.objs.size ∧ Q a p' s') (fun e p' s' => n ≤ s'.heap.objs.size ∧ E e p' s') p s := by
  induction t with
  | pure a => intro Q E p s hn h; exact ⟨hn, h⟩
  | raise e => intro Q E p s hn h; exact ⟨hn, h⟩
  | unsupported _ => intro Q E p s _ h; exact h
  | finish _ => intro Q E p s _ h; exact h
  | rule _ k ih => intro Q E p s hn h; exact ih () Q E p s hn h
  | «at» p' k ih => intro Q E p s hn h; exact ih () Q E p' s hn h
  | load a _ k ih => intro Q E p s hn h; obtain ⟨o, ho, h⟩ := h; exact ⟨o, ho, ih o Q E p s hn h⟩
  | update a _ f k ih => intro Q E p s hn h; exact ⟨h.1, ih () Q E p _ (by show n ≤ (Heap.update _ _ _).objs.size; rw [upd_size]; exact hn) h.2⟩
  | loadIfAlive a k ih => intro Q E p s hn h; exact ih _ Q E p s hn h
  | point _ k ih => intro Q E p s hn h; exact ih () Q E p s hn h
  | register _ _ => intro Q E p s _ h; exact h
  | alloc o k ih => intro Q E p s hn h; exact ih _ Q E p _ (by show n ≤ (Heap.push _ _).objs.size; rw [Heap.size_push]; exact Nat.le_succ_of_le hn) h
  | fresh k ih => intro Q E p s hn h; exact ih _ Q E p _ hn h
  | ask k ih => intro Q E p s hn h; exact ih _ Q E p s hn h
  | choose src m k ih => intro Q E p s hn h; exact ⟨h.1, ih _ Q E p _ hn h.2⟩
  | os q _ k ih => intro Q E p s hn h; exact ih _ Q E p _ hn h
  | call c hd _ _ k ih => intro Q E p s hn h; obtain ⟨r, s', hr, h⟩ := h; exact ⟨r, s', hr, ih r Q E p s' (Nat.le_trans hn (returns_size hr)) h⟩
  | handled own k ih => intro Q E p s hn h; exact ih _ Q E p s hn h
  | genState g k ih => intro Q E p s hn h; obtain ⟨st, hs, h⟩ := h; exact ⟨st, hs, ih _ Q E p s hn h⟩
  | newGen c k ih => intro Q E p s hn h; exact ih _ Q E p _ hn h
  | resume g r _ k ih => intro Q E p s hn h; obtain ⟨res, s', hw, h⟩ := h; exact ⟨res, s', hw, ih res Q E p s' (Nat.le_trans hn (wakes_size hw)) h⟩
  | yield _ _ _ _ => intro Q E p s _ h; exact h
  | stack k ih => intro Q E p s hn h; exact ih _ Q E p s hn h
  | fork _ _ => intro Q E p s _ h; exact h
  | thread k ih => intro Q E p s hn h; exact ih _ Q E p s hn h
  | await _ _ _ _ _ => intro Q E p s _ h; exact h
theorem wpAny_size {α : Type} {M : Model} {A : Around} {s : Shared} {t : Sem α} {Q : α → Shared → Prop} {E : Value → Shared → Prop} (h : wpAny M A t (fun a s' => s.heap.objs.size ≤ s'.heap.objs.size → Q a s') E s) : wpAny M A t Q E s := by
  have h' : wpAny M A t (fun a s' => s.heap.objs.size ≤ s'.heap.objs.size ∧ (s.heap.objs.size ≤ s'.heap.objs.size → Q a s')) (fun e s' => s.heap.objs.size ≤ s'.heap.objs.size ∧ E e s') s :=
    fun Γ p hΓ => wp_size M Γ s.heap.objs.size t _ _ p s (Nat.le_refl _) (h Γ p hΓ)
  exact wpAny_mono h' (fun _ _ h => h.2 h.1) fun _ _ h => h.2
end Mine
end
section
open PySem PySem.W PyProof.Rows
set_option Elab.async false
set_option maxRecDepth 100000
set_option autoImplicit false
set_option linter.unusedVariables false
namespace Mine

/-- the code table of add_callers (its generator expression's code is laid there at its first run) and its code object -/
noncomputable abbrev TP : Addr := 30
noncomputable abbrev TC : Addr := 34
noncomputable abbrev PR : Program := PySem.Challenge.pw_mj0078_01

noncomputable abbrev Sto := Addr → Option Obj

/-- plain Python data -/
inductive D where
  | val (v : Value)
  | int (i : Int)
  | str (x : Str)
  | bytes (l : List UInt8)
  | list (ds : List D)
  | tup (ds : List D)
  | dict (kvs : List (Str × D))
  | view (T : String) (kvs : List (Str × D))
  | range (a b k : Int)
noncomputable abbrev D.none : D := .val .none
noncomputable abbrev D.bool (b : Bool) : D := .val (.bool b)

mutual
/-- the value reads as the datum over the store -/
inductive Rep (P : World) (σ : Sto) : D → Value → Prop where
  | val {v} : Rep P σ (.val v) v
  | int {i t} : Rep P σ (.int i) (.int i t)
  | str {x t} : Rep P σ (.str x) (.str x t)
  | bytes {l t} : Rep P σ (.bytes l) (.bytes l.toArray t)
  | list {a o items n ds} : σ a = some o → o.cls = .type "list" → o.data = .seq items n → RepL P σ ds items.toList → Rep P σ (.list ds) (.ref a)
  | tup {a o items n ds} : σ a = some o → o.cls = .type "tuple" → o.data = .seq items n → RepL P σ ds items.toList → Rep P σ (.tup ds) (.ref a)
  | dict {a o kvs es} : σ a = some o → o.IsDictOf (strKind PR P) es → RepE P σ kvs es → Rep P σ (.dict kvs) (.ref a)
  | view {a o T e kvs} : σ a = some o → o.cls = .type T → o.data = .fields #[.ref e] → Rep P σ (.dict kvs) (.ref e) → Rep P σ (.view T kvs) (.ref a)
  | range {a x y z t1 t2 t3} : σ a = some { cls := .type "range", dict := none, data := .fields #[.int x t1, .int y t2, .int z t3], slots := #[] } → Rep P σ (.range x y z) (.ref a)
inductive RepL (P : World) (σ : Sto) : List D → List Value → Prop where
  | nil : RepL P σ [] []
  | cons {d v ds vs} : Rep P σ d v → RepL P σ ds vs → RepL P σ (d :: ds) (v :: vs)
inductive RepE (P : World) (σ : Sto) : List (Str × D) → List (Str × Value) → Prop where
  | nil : RepE P σ [] []
  | cons {k d v kvs es} : Rep P σ d v → RepE P σ kvs es → RepE P σ ((k, d) :: kvs) ((k, v) :: es)
end

section mono
variable {P : World} {σ σ' : Sto}
theorem Rep.mono (h : ∀ a o, σ a = some o → σ' a = some o) {d v} (r : Rep P σ d v) : Rep P σ' d v := by
  refine Rep.rec (motive_1 := fun d v _ => Rep P σ' d v) (motive_2 := fun ds vs _ => RepL P σ' ds vs) (motive_3 := fun kvs es _ => RepE P σ' kvs es)
    .val .int .str .bytes ?_ ?_ ?_ ?_ ?_ .nil ?_ .nil ?_ r
  · intro a o items n ds ho hc hd _ ih; exact .list (h _ _ ho) hc hd ih
  · intro a o items n ds ho hc hd _ ih; exact .tup (h _ _ ho) hc hd ih
  · intro a o kvs es ho hc _ ih; exact .dict (h _ _ ho) hc ih
  · intro a o T e kvs ho hc hd _ ih; exact .view (h _ _ ho) hc hd ih
  · intro a x y z t1 t2 t3 ho; exact .range (h _ _ ho)
  · intro d v ds vs _ _ ih1 ih2; exact .cons ih1 ih2
  · intro k d v kvs es _ _ ih1 ih2; exact .cons ih1 ih2
theorem RepL.mono (h : ∀ a o, σ a = some o → σ' a = some o) : ∀ {ds vs}, RepL P σ ds vs → RepL P σ' ds vs
  | _, _, .nil => .nil
  | _, _, .cons r rs => .cons (r.mono h) (RepL.mono h rs)
theorem RepE.mono (h : ∀ a o, σ a = some o → σ' a = some o) : ∀ {ds vs}, RepE P σ ds vs → RepE P σ' ds vs
  | _, _, .nil => .nil
  | _, _, .cons r rs => .cons (r.mono h) (RepE.mono h rs)
end mono

/-- old objects are kept: but the table, and but the slots of frames that the call has made -/
noncomputable def KP (N : Nat) (h h' : Heap) : Prop := ∀ b o, h.get? b = some o → b ≠ TP → ∃ o', h'.get? b = some o' ∧ (o' = o ∨ (N ≤ b ∧ o.cls = .type "frame" ∧ ∃ sl, o' = { o with slots := sl }))
theorem KP.refl (N : Nat) (h : Heap) : KP N h h := fun _ o e _ => ⟨o, e, .inl rfl⟩
theorem KP.trans {N : Nat} {h h' h'' : Heap} (x : KP N h h') (y : KP N h' h'') : KP N h h'' := fun b o e ne => by
  obtain ⟨o', e', r⟩ := x b o e ne
  obtain ⟨o'', e'', r'⟩ := y b o' e' ne
  refine ⟨o'', e'', ?_⟩
  rcases r with rfl | ⟨hN, hc, sl, rfl⟩
  · exact r'
  · rcases r' with rfl | ⟨_, _, sl', rfl⟩
    · exact .inr ⟨hN, hc, sl, rfl⟩
    · exact .inr ⟨hN, hc, sl', rfl⟩
theorem KP.of_keep {N : Nat} {h h' : Heap} (k : ∀ b o, h.get? b = some o → h'.get? b = some o) : KP N h h' := fun b o e _ => ⟨o, k b o e, .inl rfl⟩
theorem KP.low {N : Nat} {h h' : Heap} (x : KP N h h') {b : Addr} {o : Obj} (e : h.get? b = some o) (ne : b ≠ TP) (lt : b < N) : h'.get? b = some o := by
  obtain ⟨o', e', r⟩ := x b o e ne
  rcases r with rfl | ⟨hN, _⟩
  · exact e'
  · exact absurd lt (Nat.not_lt.mpr hN)
theorem KP.nofr {N : Nat} {h h' : Heap} (x : KP N h h') {b : Addr} {o : Obj} (e : h.get? b = some o) (ne : b ≠ TP) (hc : o.cls ≠ .type "frame") : h'.get? b = some o := by
  obtain ⟨o', e', r⟩ := x b o e ne
  rcases r with rfl | ⟨_, hc', _⟩
  · exact e'
  · exact absurd hc' hc
theorem KP.data {N : Nat} {h h' : Heap} (x : KP N h h') {b : Addr} {o : Obj} (e : h.get? b = some o) (ne : b ≠ TP) : ∃ o', h'.get? b = some o' ∧ o'.data = o.data ∧ o'.cls = o.cls := by
  obtain ⟨o', e', r⟩ := x b o e ne
  rcases r with rfl | ⟨_, _, sl, rfl⟩
  · exact ⟨_, e', rfl, rfl⟩
  · exact ⟨_, e', rfl, rfl⟩

/-- what the whole run may lean on: the text's own objects, the built-ins, no limit set, the table -/
structure Base (K : Frag) (N : Nat) (h : Heap) : Prop where
  frag : ∀ a o, K.lookup a = some o → h.get? a = some o ∧ a < N ∧ a ≠ TP
  blt : ∃ mb : Str → Option Value, h.Ns builtinsNs mb ∧ ∀ x : Str, x ≠ "__name__" → mb x = bootBuiltins x
  lim : h.NoLimit
  mods : ∃ ob, h.get? 4 = some ob ∧ ob.cls = .type "module" ∧ ob.dict = some builtinsNs ∧ ob.data = .plain
  tab : ∃ ps, h.IsCode TC TP ps ∧ h.TableAt TC TP ps
  big : 100 ≤ N
  size : N ≤ h.objs.size

theorem ns_kp {N : Nat} {h h' : Heap} (x : KP N h h') {a : Addr} {m : Str → Option Value} (hn : h.Ns a m) (ne : a ≠ TP) : h'.Ns a m := by
  obtain ⟨o, es, ep, ho, hd, r⟩ := hn
  obtain ⟨o', ho', hd', _⟩ := x.data ho ne
  exact ⟨o', es, ep, ho', hd'.trans hd, r⟩
theorem cell_kp {N : Nat} {h h' : Heap} (x : KP N h h') {a : Addr} {v : Option Value} (hn : h.IsCell a v) (ne : a ≠ TP) : h'.IsCell a v := by
  obtain ⟨o, ho, hd⟩ := hn
  obtain ⟨o', ho', hd', _⟩ := x.data ho ne
  exact ⟨o', ho', hd'.trans hd⟩
theorem Base.kp {K : Frag} {N : Nat} {h h' : Heap} (b : Base K N h) (x : KP N h h') (ht : ∃ ps, h'.IsCode TC TP ps ∧ h'.TableAt TC TP ps) (hs : h.objs.size ≤ h'.objs.size) : Base K N h' := by
  have hb := b.big
  refine ⟨fun a o e => ⟨x.low (b.frag a o e).1 (b.frag a o e).2.2 (b.frag a o e).2.1, (b.frag a o e).2⟩, ?_, ?_, ?_, ht, hb, Nat.le_trans b.size hs⟩
  · obtain ⟨mb, hn, r⟩ := b.blt
    exact ⟨mb, ns_kp x hn (by decide), r⟩
  · obtain ⟨mc, hn, r⟩ := b.lim
    exact ⟨mc, ns_kp x hn (by decide), r⟩
  · obtain ⟨ob, ho, r⟩ := b.mods
    exact ⟨ob, x.low ho (by decide) (Nat.lt_of_lt_of_le (by decide) hb), r⟩
/-- where the table itself stays too -/
theorem Base.keep {K : Frag} {N : Nat} {h h' : Heap} (b : Base K N h) (x : KP N h h') (ht : ∀ o, h.get? TP = some o → h'.get? TP = some o) (hs : h.objs.size ≤ h'.objs.size) : Base K N h' := by
  refine b.kp x ?_ hs
  obtain ⟨ps, hc, ht'⟩ := b.tab
  obtain ⟨⟨o, vs, ho, hcl, hd, h11⟩, hp⟩ := ht'
  have hlow : TC < N := Nat.lt_of_lt_of_le (by decide) b.big
  refine ⟨ps, ?_, ⟨o, vs, x.low ho (by decide) hlow, hcl, hd, h11⟩, ht _ hp⟩
  obtain ⟨o, vs, file, tf, flags, tg, inF, text, tt, op, a, r1, r2, r3, r4, r5, r6, b', r⟩ := hc
  exact ⟨o, vs, file, tf, flags, tg, inF, text, tt, op, x.low a (by decide) hlow, r1, r2, r3, r4, r5, r6, ht _ b', r⟩

/-- clear of the table and of sys.modules -/
noncomputable def Hi (a : Addr) : Prop := a ≠ TP ∧ (a == sysModules) = false
theorem not_sys {a : Addr} (h : 100 ≤ a) : (a == sysModules) = false := by
  cases q : a == sysModules with
  | false => rfl
  | true =>
    have e : a = sysModules := eq_of_beq q
    rw [e] at h; exact absurd h (by decide)
theorem hi_of {a : Addr} (h : 100 ≤ a) : Hi a := ⟨fun q => by rw [q] at h; exact absurd h (by decide), not_sys h⟩

structure G (K : Frag) (N : Nat) (σ : Sto) (s : Shared) : Prop where
  base : Base K N s.heap
  sto : ∀ a o, σ a = some o → s.heap.get? a = some o ∧ Hi a ∧ o.cls ≠ .type "frame"
  gens : AllBare s.gens

structure Step (K : Frag) (N : Nat) (σ : Sto) (s : Shared) (σ' : Sto) (s' : Shared) : Prop where
  g : G K N σ' s'
  kp : KP N s.heap s'.heap
  ext : ∀ a o, σ a = some o → σ' a = some o
  new : ∀ a o, σ' a = some o → σ a = some o ∨ s.heap.objs.size ≤ a
  size : s.heap.objs.size ≤ s'.heap.objs.size
  os : s'.os = s.os

theorem Step.refl {K : Frag} {N : Nat} {σ : Sto} {s : Shared} (g : G K N σ s) : Step K N σ s σ s :=
  ⟨g, .refl _ _, fun _ _ e => e, fun _ _ e => .inl e, Nat.le_refl _, rfl⟩
theorem Step.trans {K : Frag} {N : Nat} {σ σ' σ'' : Sto} {s s' s'' : Shared} (x : Step K N σ s σ' s') (y : Step K N σ' s' σ'' s'') : Step K N σ s σ'' s'' :=
  ⟨y.g, x.kp.trans y.kp, fun a o e => y.ext a o (x.ext a o e), fun a o e => (y.new a o e).elim (fun e => x.new a o e) fun l => .inr (Nat.le_trans x.size l), Nat.le_trans x.size y.size, y.os.trans x.os⟩
theorem Step.none {K : Frag} {N : Nat} {σ σ' : Sto} {s s' : Shared} (x : Step K N σ s σ' s') {a : Addr} (h : σ a = none) (lt : a < s.heap.objs.size) : σ' a = none := by
  cases e : σ' a with
  | none => rfl
  | some o =>
    rcases x.new a o e with q | q
    · rw [h] at q; cases q
    · exact absurd lt (Nat.not_lt.mpr q)

/-- what is around a call: room, no exception handled, the frames below stand -/
structure Rm (N : Nat) (A : Around) (k : Nat) (h : Heap) : Prop where
  depth : A.depth + k ≤ 900
  units : A.units + 100 * k ≤ 9000
  handled : A.handled = none
  frames : ∃ l, A.frames = some l ∧ ∀ env ∈ l, env.scope.kind = .function ∧ ∃ L o, env.frame = some L ∧ N ≤ L ∧ L ≠ TP ∧ h.get? L = some o ∧ o.cls = .type "frame" ∧ ∃ es n, o.data = .dict es n
theorem Rm.kp {N : Nat} {A : Around} {k : Nat} {h h' : Heap} (r : Rm N A k h) (x : KP N h h') : Rm N A k h' := by
  obtain ⟨l, hl, hf⟩ := r.frames
  refine ⟨r.depth, r.units, r.handled, l, hl, fun env he => ?_⟩
  obtain ⟨hk, L, o, h1, h2, h3, h4, h5, es, n, h6⟩ := hf env he
  obtain ⟨o', a1, a2, a3⟩ := x.data h4 h3
  exact ⟨hk, L, o', h1, h2, h3, a1, a3.trans h5, es, n, a2.trans h6⟩
theorem Rm.mono {N : Nat} {A : Around} {k k' : Nat} {h : Heap} (r : Rm N A k h) (hk : k' ≤ k) : Rm N A k' h :=
  ⟨by have := r.depth; omega, by have := r.units; omega, r.handled, r.frames⟩

section
variable (K : Frag) (w : World) (N : Nat)
/-- a tree over values, told by data: it ends, keeps what is old, and its value reads as d -/
noncomputable def Prim (k : Nat) (t : List Value → Sem Value) (ds : List D) (d : D) : Prop :=
  ∀ (A : Around) (σ : Sto) (s : Shared) (vs : List Value) (Q : Value → Shared → Prop) (E : Value → Shared → Prop), G K N σ s → Rm N A k s.heap → RepL w σ ds vs →
    (∀ σ' s' v, Step K N σ s σ' s' → Rep w σ' d v → Q v s') → wpAny (model PR w) A (t vs) Q E s
noncomputable abbrev Fun (k : Nat) (f : Value) (ds : List D) (d : D) : Prop := Prim K w N k (fun vs => call f vs) ds d
end

structure Cx where
  K : Frag
  w : World
  N : Nat
  k : Nat
  A : Around
  env : Env
  ns : List Str
  fn : Bool
  s₀ : Shared
  σ₀ : Sto

/-- an own object that is still being changed: what is known of it -/
noncomputable abbrev Pr := Sto → Obj → Prop
structure Own where
  a : Addr
  p : Pr

/-- the frame: locals V by place, own objects M -/
structure F (c : Cx) (V : List (Option D)) (M : List Own) (σ : Sto) (s : Shared) : Prop where
  step : Step c.K c.N c.σ₀ c.s₀ σ s
  rm : Rm c.N c.A c.k s.heap
  kind : c.env.scope.kind = .function
  lo : c.N ≤ c.s₀.heap.objs.size
  loc : ∃ m, s.heap.Ns c.env.locals m ∧ ∀ (i : Nat) x d, c.ns[i]? = some x → V[i]? = some (some d) → c.env.kindOf x = some .local → ∃ v, m x = some v ∧ Rep c.w σ d v
  cel : ∀ (i : Nat) x, c.ns[i]? = some x → c.env.kindOf x ≠ some .local → (c.env.kindOf x = some .cell ∨ c.env.kindOf x = some .free) ∧ ∃ a v, c.env.cells.lookup x = some a ∧ a ≠ TP ∧ s.heap.IsCell a v ∧ ∀ d, V[i]? = some (some d) → ∃ u, v = some u ∧ Rep c.w σ d u
  nodup : c.ns.Nodup
  names : ∀ x ∈ c.ns, (x == ("__debug__" : Str)) = false ∧ (x == ("__classdict__" : Str)) = false
  nofree : c.fn = true → ∀ x ∈ c.ns, c.env.kindOf x ≠ some .free
  tops : c.env.globals = mainGlobals ∧ c.env.builtins = builtinsNs
  own : ∀ a, (a = c.env.locals ∨ (c.fn = true ∧ ∃ x, c.env.kindOf x = some .cell ∧ c.env.cells.lookup x = some a) ∨ ∃ p, (⟨a, p⟩ : Own) ∈ M) → c.s₀.heap.objs.size ≤ a ∧ a < s.heap.objs.size ∧ σ a = none ∧ a ≠ TP
  locM : ∀ x ∈ M, x.a ≠ c.env.locals
  celL : ∀ y a, c.env.cells.lookup y = some a → a < s.heap.objs.size
  celF : ∀ x ∈ M, ∀ y a, c.env.cells.lookup y = some a → x.a ≠ a
  locC : ∀ y a, c.env.cells.lookup y = some a → a ≠ c.env.locals
  celC : ∀ x y a, c.env.cells.lookup x = some a → c.env.cells.lookup y = some a → x = y
  apart : M.Pairwise fun x y => x.a ≠ y.a
  muta : ∀ x ∈ M, ∃ o, s.heap.get? x.a = some o ∧ o.cls ≠ .type "frame" ∧ x.p σ o
  mono : ∀ x ∈ M, ∀ σ₁ σ₂ : Sto, (∀ a o, σ₁ a = some o → σ₂ a = some o) → ∀ o, x.p σ₁ o → x.p σ₂ o

theorem F.stable {c : Cx} {V : List (Option D)} {M : List Own} {σ σ' : Sto} {s s' : Shared} (f : F c V M σ s) (x : Step c.K c.N σ s σ' s') : F c V M σ' s' := by
  refine ⟨f.step.trans x, f.rm.kp x.kp, f.kind, f.lo, ?_, ?_, f.nodup, f.names, f.nofree, f.tops, ?_, f.locM, fun y a h => Nat.lt_of_lt_of_le (f.celL y a h) x.size, f.celF, f.locC, f.celC, f.apart, ?_, f.mono⟩
  · obtain ⟨m, hn, hv⟩ := f.loc
    refine ⟨m, ns_kp x.kp hn (f.own _ (.inl rfl)).2.2.2, fun i y d h1 h2 h3 => ?_⟩
    obtain ⟨v, e, r⟩ := hv i y d h1 h2 h3
    exact ⟨v, e, r.mono x.ext⟩
  · intro i y h1 h2
    obtain ⟨hk, a, v, ha, nt, hc, hr⟩ := f.cel i y h1 h2
    refine ⟨hk, a, v, ha, nt, cell_kp x.kp hc nt, fun d hd => ?_⟩
    obtain ⟨u, hu, r⟩ := hr d hd
    exact ⟨u, hu, r.mono x.ext⟩
  · intro a ha
    obtain ⟨h1, h2, h3, h4⟩ := f.own a ha
    exact ⟨h1, Nat.lt_of_lt_of_le h2 x.size, x.none h3 h2, h4⟩
  · intro y hy
    obtain ⟨o, ho, hc, hp⟩ := f.muta y hy
    have nt := (f.own y.a (.inr (.inr ⟨y.p, hy⟩))).2.2.2
    exact ⟨o, x.kp.nofr ho nt hc, hc, f.mono y hy _ _ x.ext o hp⟩

noncomputable def Ev (c : Cx) (V : List (Option D)) (M : List Own) (e : Expr) (d : D) : Prop :=
  ∀ (σ : Sto) (s : Shared) (Q : Value → Shared → Prop) (E : Value → Shared → Prop), F c V M σ s →
    (∀ σ' s' v, Step c.K c.N σ s σ' s' → Rep c.w σ' d v → Q v s') → wpAny (model PR c.w) c.A (eval e c.env) Q E s

end Mine
end
section
open PySem PySem.W PyProof.Rows PySem.Calls
set_option Elab.async false
set_option maxRecDepth 100000
set_option autoImplicit false
set_option linter.unusedVariables false
namespace Mine

section
variable {c : Cx} {V : List (Option D)} {M : List Own}

theorem Ev.use {e : Expr} {d : D} (h : Ev c V M e d) {σ : Sto} {s : Shared} {Q : Value → Shared → Prop} {E : Value → Shared → Prop} (f : F c V M σ s)
    (k : ∀ σ' s' v, Step c.K c.N σ s σ' s' → F c V M σ' s' → Rep c.w σ' d v → Q v s') : wpAny (model PR c.w) c.A (eval e c.env) Q E s :=
  h σ s Q E f fun σ' s' v x r => k σ' s' v x (f.stable x) r

/-- a new token only -/
theorem Step.tok {K : Frag} {N : Nat} {σ : Sto} {s : Shared} (g : G K N σ s) (t : Nat) : Step K N σ s σ { s with toks := t } :=
  ⟨⟨g.base, g.sto, g.gens⟩, .refl _ _, fun _ _ e => e, fun _ _ e => .inl e, Nat.le_refl _, rfl⟩

theorem push_new {h : Heap} {a : Addr} {o : Obj} (lt : a < h.objs.size) (x : Obj) (e : (h.push x).get? a = some o) : h.get? a = some o := by
  obtain ⟨h1, h2⟩ := Heap.get?_some_iff.mp e
  refine Heap.get?_some_iff.mpr ⟨?_, h2⟩
  obtain ⟨objs, l⟩ := h
  simp only [Heap.push, Array.getElem?_push] at h1
  rw [if_neg (Nat.ne_of_lt lt)] at h1
  exact h1

noncomputable def put (σ : Sto) (a : Addr) (o : Obj) : Sto := fun b => if b = a then some o else σ b
theorem put_self {σ : Sto} {a : Addr} {o : Obj} : put σ a o a = some o := if_pos rfl

/-- a new object, laid into the store -/
theorem Step.push {K : Frag} {N : Nat} {σ : Sto} {s : Shared} (g : G K N σ s) {o : Obj} (hf : o.isFreed = false) (hc : o.cls ≠ .type "frame") :
    Step K N σ s (put σ s.heap.objs.size o) { s with heap := s.heap.push o } := by
  have big := g.base.big
  have size := g.base.size
  refine ⟨⟨g.base.keep (.of_keep fun b o e => Heap.get?_push_of_some _ e) (fun o e => Heap.get?_push_of_some _ e) (by rw [Heap.size_push]; exact Nat.le_succ _), fun a o' e => ?_, g.gens⟩,
    .of_keep fun b o e => Heap.get?_push_of_some _ e, fun a o' e => ?_, fun a o' e => ?_, (by show s.heap.objs.size ≤ (s.heap.push o).objs.size; rw [Heap.size_push]; exact Nat.le_succ _), rfl⟩
  · unfold put at e
    split at e
    · rename_i h
      subst h
      cases e
      exact ⟨Heap.get?_push_size _ hf, hi_of (Nat.le_trans big size), hc⟩
    · obtain ⟨h1, h2⟩ := g.sto a o' e
      exact ⟨Heap.get?_push_of_some _ h1, h2⟩
  · have : a ≠ s.heap.objs.size := Nat.ne_of_lt (Heap.lt_size (g.sto a o' e).1)
    show (if a = s.heap.objs.size then some o else σ a) = some o'
    rw [if_neg this]; exact e
  · unfold put at e
    split at e
    · rename_i h; exact .inr (Nat.le_of_eq h.symm)
    · exact .inl e

/-- a new object that no one will ask for (a slice, an iterator dropped) -/
theorem Step.pushOff {K : Frag} {N : Nat} {σ : Sto} {s : Shared} (g : G K N σ s) (o : Obj) : Step K N σ s σ { s with heap := s.heap.push o } :=
  ⟨⟨g.base.keep (.of_keep fun b o e => Heap.get?_push_of_some _ e) (fun o e => Heap.get?_push_of_some _ e) (by rw [Heap.size_push]; exact Nat.le_succ _), fun a o' e => ⟨Heap.get?_push_of_some _ (g.sto a o' e).1, (g.sto a o' e).2⟩, g.gens⟩,
    .of_keep fun b o e => Heap.get?_push_of_some _ e, fun _ _ e => e, fun _ _ e => .inl e, (by show s.heap.objs.size ≤ (s.heap.push o).objs.size; rw [Heap.size_push]; exact Nat.le_succ _), rfl⟩

theorem ev_var {x : Str} {pos : Pos} {d : D} (i : Nat) (hx : c.ns[i]? = some x) (hv : V[i]? = some (some d)) : Ev c V M (.Name x pos) d := fun σ s Q E f k => by
  have hm : x ∈ c.ns := List.mem_of_getElem? hx
  obtain ⟨n1, n2⟩ := f.names x hm
  refine wpAny_Name ?_ n1
  by_cases hl : c.env.kindOf x = some .local
  · obtain ⟨m, hn, hr⟩ := f.loc
    obtain ⟨v, e, r⟩ := hr i x d hx hv hl
    exact wpAny_loadName_local f.kind hl hn e (k σ s v (.refl f.step.g) r)
  · obtain ⟨hk, a, v, ha, _, hc, hr⟩ := f.cel i x hx hl
    obtain ⟨u, rfl, r⟩ := hr d hv
    rcases hk with hk | hk
    · exact wpAny_loadName_cell f.kind hk ha hc (k σ s u (.refl f.step.g) r)
    · exact wpAny_loadName_free f.kind hk ha hc (k σ s u (.refl f.step.g) r) n2

/-- a global of the text -/
noncomputable def Glo (K : Frag) (x : Str) (r : Option Value) : Prop := ∃ o es ep, K.lookup mainGlobals = some o ∧ o.data = .dict es ep ∧ StrKeys es ∧ nsFind es x = r

theorem ev_glob {x : Str} {pos : Pos} {v : Value} (hk : c.env.kindOf x = some .globalImplicit) (g : Glo c.K x (some v)) (hd : (x == ("__debug__" : Str)) = false := by decide +kernel) :
    Ev c V M (.Name x pos) (.val v) := fun σ s Q E f k => by
  obtain ⟨o, es, ep, ho, hdd, hs, hf⟩ := g
  refine Name_function_global f.kind hk (loadGlobal_global (mg := fun y => nsFind es y) ?_ hf (k σ s v (.refl f.step.g) .val)) hd
  rw [f.tops.1]
  exact ⟨o, es, ep, (f.step.g.base.frag _ _ ho).1, hdd, hs, fun _ => rfl⟩

theorem ev_blt {x : Str} {pos : Pos} {v : Value} (hk : c.env.kindOf x = some .globalImplicit) (g : Glo c.K x none) (hb : bootBuiltins x = some v) (hn : (x == ("__name__" : Str)) = false := by decide +kernel)
    (hd : (x == ("__debug__" : Str)) = false := by decide +kernel) : Ev c V M (.Name x pos) (.val v) := fun σ s Q E f k => by
  obtain ⟨o, es, ep, ho, hdd, hs, hf⟩ := g
  obtain ⟨mb, hmb, hbt⟩ := f.step.g.base.blt
  refine Name_function_global f.kind hk (loadGlobal_builtin (mg := fun y => nsFind es y) (mb := mb) ?_ hf ?_ ?_ (k σ s v (.refl f.step.g) .val)) hd
  · rw [f.tops.1]; exact ⟨o, es, ep, (f.step.g.base.frag _ _ ho).1, hdd, hs, fun _ => rfl⟩
  · rw [f.tops.2]; exact hmb
  · rw [hbt x (fun e => by rw [e] at hn; simp at hn)]; exact hb

theorem ev_int {i : Int} {k : Nat} {pos : Pos} : Ev c V M (.Constant (.int i) k pos) (.int i) := fun σ s Q E f k =>
  wpAny_Constant_int (k _ _ _ (.tok f.step.g _) .int)
theorem ev_str {x : Str} {k : Nat} {pos : Pos} : Ev c V M (.Constant (.str x) k pos) (.str x) := fun σ s Q E f k =>
  PySem.wpAny_Constant_str (k _ _ _ (.tok f.step.g _) .str)
theorem ev_none {k : Nat} {pos : Pos} : Ev c V M (.Constant .none k pos) .none := fun σ s Q E f k => wpAny_pure (k _ _ _ (.refl f.step.g) .val)
theorem ev_bool {b : Bool} {k : Nat} {pos : Pos} : Ev c V M (.Constant (.bool b) k pos) (.bool b) := fun σ s Q E f k => wpAny_pure (k _ _ _ (.refl f.step.g) .val)
theorem ev_bytes {b : List UInt8} {k : Nat} {pos : Pos} : Ev c V M (.Constant (.bytes b) k pos) (.bytes b) := fun σ s Q E f k =>
  wpAny_bind (m := fresh) (wpAny_fresh (wpAny_pure (k _ _ _ (.tok f.step.g _) .bytes)))

end

section
variable (K : Frag) (w : World) (N : Nat)
noncomputable def P1 (t : Value → Sem Value) (d1 d : D) : Prop :=
  ∀ (A : Around) (σ : Sto) (s : Shared) (v1 : Value) (Q : Value → Shared → Prop) (E : Value → Shared → Prop), G K N σ s → Rm N A 0 s.heap → Rep w σ d1 v1 →
    (∀ σ' s' v, Step K N σ s σ' s' → Rep w σ' d v → Q v s') → wpAny (model PR w) A (t v1) Q E s
noncomputable def P2 (t : Value → Value → Sem Value) (d1 d2 d : D) : Prop :=
  ∀ (A : Around) (σ : Sto) (s : Shared) (v1 v2 : Value) (Q : Value → Shared → Prop) (E : Value → Shared → Prop), G K N σ s → Rm N A 0 s.heap → Rep w σ d1 v1 → Rep w σ d2 v2 →
    (∀ σ' s' v, Step K N σ s σ' s' → Rep w σ' d v → Q v s') → wpAny (model PR w) A (t v1 v2) Q E s
noncomputable def Tru (d1 : D) (b : Bool) : Prop :=
  ∀ (A : Around) (σ : Sto) (s : Shared) (v1 : Value) (Q : Bool → Shared → Prop) (E : Value → Shared → Prop), G K N σ s → Rm N A 0 s.heap → Rep w σ d1 v1 →
    (∀ σ' s', Step K N σ s σ' s' → Q b s') → wpAny (model PR w) A (truthy v1) Q E s
end

section
variable {c : Cx} {V : List (Option D)} {M : List Own}

theorem ev_binop {l r : Expr} {op : Operator} {pos : Pos} {d1 d2 d : D} (h1 : Ev c V M l d1) (h2 : Ev c V M r d2) (h : P2 c.K c.w c.N (binaryOp op) d1 d2 d) : Ev c V M (.BinOp l op r pos) d := fun σ s Q E f k =>
  wpAny_BinOp (h1.use f fun σ1 s1 v1 x1 f1 r1 => h2.use f1 fun σ2 s2 v2 x2 f2 r2 =>
    h _ σ2 s2 v1 v2 _ _ f2.step.g (f2.rm.mono (Nat.zero_le _)) (r1.mono x2.ext) r2 fun σ3 s3 v x3 r3 => k _ _ _ ((x1.trans x2).trans x3) r3)

theorem ev_cmp {l r : Expr} {op : CmpOp} {pos : Pos} {d1 d2 d : D} (h1 : Ev c V M l d1) (h2 : Ev c V M r d2) (h : P2 c.K c.w c.N (compareOp op) d1 d2 d)
    (hm : behindInMarks op r = false := by with_unfolding_all rfl) : Ev c V M (.Compare l [op] [r] pos) d := fun σ s Q E f k =>
  wpAny_Compare1 (h1.use f fun σ1 s1 v1 x1 f1 r1 => h2.use f1 fun σ2 s2 v2 x2 f2 r2 =>
    h _ σ2 s2 v1 v2 _ _ f2.step.g (f2.rm.mono (Nat.zero_le _)) (r1.mono x2.ext) r2 fun σ3 s3 v x3 r3 => k _ _ _ ((x1.trans x2).trans x3) r3) hm

/-- a test -/
noncomputable def Et (c : Cx) (V : List (Option D)) (M : List Own) (e : Expr) (b : Bool) : Prop :=
  ∀ (σ : Sto) (s : Shared) (Q : Bool → Shared → Prop) (E : Value → Shared → Prop), F c V M σ s →
    (∀ σ' s', Step c.K c.N σ s σ' s' → Q b s') → wpAny (model PR c.w) c.A (isTrue e c.env (eval e c.env)) Q E s
theorem Et.use {e : Expr} {b : Bool} (h : Et c V M e b) {σ : Sto} {s : Shared} {Q : Bool → Shared → Prop} {E : Value → Shared → Prop} (f : F c V M σ s)
    (k : ∀ σ' s', Step c.K c.N σ s σ' s' → F c V M σ' s' → Q b s') : wpAny (model PR c.w) c.A (isTrue e c.env (eval e c.env)) Q E s :=
  h σ s Q E f fun σ' s' x => k σ' s' x (f.stable x)

theorem et_val {e : Expr} {d : D} {b : Bool} (h : Ev c V M e d) (ht : Tru c.K c.w c.N d b)
    (he : isTrue e c.env (eval e c.env) = (do let v ← eval e c.env; standAt e.pos; holding [v] (truthy v)) := by rfl) : Et c V M e b := fun σ s Q E f k =>
  wpAny_isTrue_value (h.use f fun σ1 s1 v1 x1 f1 r1 => ht _ σ1 s1 v1 _ _ f1.step.g (f1.rm.mono (Nat.zero_le _)) r1 fun σ2 s2 x2 => k _ _ (x1.trans x2)) he
theorem et_cmp {l r : Expr} {op : CmpOp} {pos : Pos} {d1 d2 d : D} {b : Bool} (h1 : Ev c V M l d1) (h2 : Ev c V M r d2) (h : P2 c.K c.w c.N (compareOp op) d1 d2 d) (ht : Tru c.K c.w c.N d b)
    (hm : behindInMarks op r = false := by with_unfolding_all rfl) : Et c V M (.Compare l [op] [r] pos) b := fun σ s Q E f k =>
  wpAny_isTrue_Compare1 (h1.use f fun σ1 s1 v1 x1 f1 r1 => h2.use f1 fun σ2 s2 v2 x2 f2 r2 =>
    h _ σ2 s2 v1 v2 _ _ f2.step.g (f2.rm.mono (Nat.zero_le _)) (r1.mono x2.ext) r2 fun σ3 s3 v x3 r3 =>
      ht _ σ3 s3 v _ _ x3.g ((f2.stable x3).rm.mono (Nat.zero_le _)) r3 fun σ4 s4 x4 => k _ _ (((x1.trans x2).trans x3).trans x4)) hm
theorem et_not {e : Expr} {pos : Pos} {b : Bool} (h : Et c V M e b) : Et c V M (.UnaryOp .Not e pos) (!b) := fun σ s Q E f k =>
  wpAny_isTrue_Not (h.use f fun σ1 s1 x1 _ => k _ _ x1)
theorem tru_bool {K : Frag} {w : World} {N : Nat} {b : Bool} : Tru K w N (.bool b) b := fun A σ s v Q E g _ r k => by
  cases r; exact wpAny_pure (k σ s (.refl g))
theorem tru_none {K : Frag} {w : World} {N : Nat} : Tru K w N .none false := fun A σ s v Q E g _ r k => by
  cases r; exact wpAny_pure (k σ s (.refl g))

theorem ev_ifexp {t a b : Expr} {pos : Pos} {v : Bool} {d : D} (ht : Et c V M t v) (ha : v = true → Ev c V M a d) (hb : v = false → Ev c V M b d) : Ev c V M (.IfExp t a b pos) d := fun σ s Q E f k => by
  refine wpAny_IfExp (ht.use f fun σ1 s1 x1 f1 => ?_)
  cases v with
  | true => exact (ha rfl).use f1 fun σ2 s2 v x2 _ r => k _ _ _ (x1.trans x2) r
  | false => exact (hb rfl).use f1 fun σ2 s2 v x2 _ r => k _ _ _ (x1.trans x2) r

theorem et_and_or_nil : True := trivial
/-- a chain of and / or: the tests that are looked at -/
inductive All2 (c : Cx) (V : List (Option D)) (M : List Own) : BoolOp → List Expr → Bool → Prop where
  | nil {op} : All2 c V M op [] (op == .And)
  | andF {x r} : Et c V M x false → All2 c V M .And (x :: r) false
  | andT {x r b} : Et c V M x true → All2 c V M .And r b → All2 c V M .And (x :: r) b
  | orT {x r} : Et c V M x true → All2 c V M .Or (x :: r) true
  | orF {x r b} : Et c V M x false → All2 c V M .Or r b → All2 c V M .Or (x :: r) b
theorem All2.walk {op : BoolOp} {es : List Expr} {b : Bool} (h : All2 c V M op es b) : ∀ (σ : Sto) (s : Shared) (Q : Bool → Shared → Prop) (E : Value → Shared → Prop), F c V M σ s →
    (∀ σ' s', Step c.K c.N σ s σ' s' → Q b s') → wpAny (model PR c.w) c.A (allTrue op es c.env) Q E s := by
  induction h with
  | nil => intro σ s Q E f k; unfold allTrue; exact wpAny_pure (k _ _ (.refl f.step.g))
  | andF h => intro σ s Q E f k; unfold allTrue; exact wpAny_bind (h.use f fun σ1 s1 x1 f1 => wpAny_pure (k _ _ x1))
  | andT h _ ih => intro σ s Q E f k; unfold allTrue; exact wpAny_bind (h.use f fun σ1 s1 x1 f1 => ih _ _ _ _ f1 fun σ2 s2 x2 => k _ _ (x1.trans x2))
  | orT h => intro σ s Q E f k; unfold allTrue; exact wpAny_bind (h.use f fun σ1 s1 x1 f1 => wpAny_pure (k _ _ x1))
  | orF h _ ih => intro σ s Q E f k; unfold allTrue; exact wpAny_bind (h.use f fun σ1 s1 x1 f1 => ih _ _ _ _ f1 fun σ2 s2 x2 => k _ _ (x1.trans x2))
theorem et_chain {op : BoolOp} {es : List Expr} {pos : Pos} {b : Bool} (h : All2 c V M op es b) : Et c V M (.BoolOp op es pos) b := fun σ s Q E f k =>
  wpAny_isTrue_BoolOp (h.walk σ s Q E f k)

/-- arguments -/
inductive EvL (c : Cx) (V : List (Option D)) (M : List Own) : List Expr → List D → Prop where
  | nil : EvL c V M [] []
  | cons {e es d ds} : isStarred e = false → Ev c V M e d → EvL c V M es ds → EvL c V M (e :: es) (d :: ds)

theorem starEach_cons {e : Expr} {es : List Expr} {env : Env} (h : isStarred e = false) : starEach (e :: es) env = (false, eval e env) :: starEach es env := by
  cases e <;> first | rfl | cases h

theorem EvL.walk {es : List Expr} {ds : List D} (h : EvL c V M es ds) : ∀ (pos : Pos) (σ : Sto) (s : Shared) (Q : List Value → Shared → Prop) (E : Value → Shared → Prop), F c V M σ s →
    (∀ σ' s' vs, Step c.K c.N σ s σ' s' → RepL c.w σ' ds vs → Q vs s') → wpAny (model PR c.w) c.A (spliced (backTo pos (starEach es c.env))) Q E s := by
  induction h with
  | nil => intro pos σ s Q E f k; exact wpAny_pure (k _ _ _ (.refl f.step.g) .nil)
  | cons hs h _ ih =>
    intro pos σ s Q E f k
    rw [starEach_cons hs]
    exact spliced_cons (h.use f fun σ1 s1 v x1 f1 r1 => ih pos _ _ _ _ f1 fun σ2 s2 vs x2 r2 => k _ _ _ (x1.trans x2) (.cons (r1.mono x2.ext) r2))

theorem EvL.args {es : List Expr} {ds : List D} (h : EvL c V M es ds) {fv : Value} {pos : Pos} {σ : Sto} {s : Shared} {Q : Args → Shared → Prop} {E : Value → Shared → Prop} (f : F c V M σ s)
    (k : ∀ σ' s' vs, Step c.K c.N σ s σ' s' → F c V M σ' s' → RepL c.w σ' ds vs → Q ⟨vs, []⟩ s') : wpAny (model PR c.w) c.A (evalArgs fv true (backTo pos (starEach es c.env)) []) Q E s := by
  have hw := h.walk pos σ s (fun vs s' => Q ⟨vs, []⟩ s') E f fun σ' s' vs x r => k _ _ _ x (f.stable x) r
  cases h with
  | nil => exact PyProof.Rows.evalArgs_none (k _ _ _ (.refl f.step.g) f .nil)
  | cons hs _ _ =>
    rw [starEach_cons hs] at hw ⊢
    exact evalArgs_plain hw

theorem backTo_plain {es : List Expr} {ds : List D} (h : EvL c V M es ds) (pos : Pos) : (backTo pos (starEach es c.env)).any (·.1) = false := by
  induction h with
  | nil => rfl
  | cons hs _ _ ih => rw [starEach_cons hs]; exact ih

/-- what may stand at a call's head -/
inductive Callee (K : Frag) : Value → Prop where
  | blt {id} : Callee K (.builtin id)
  | typ {T} : Callee K (.type T)
  | fn {a o fd} : K.lookup a = some o → o.data = .func fd → Callee K (.ref a)

theorem call_args {es : List Expr} {ds dz : List D} {vz : List Value} {v : Value} {d : D} {k : Nat} {pos : Pos} (hc : Callee c.K v) (ha : EvL c V M es ds) (hf : Fun c.K c.w c.N k v (dz ++ ds) d) (hk : k ≤ c.k)
    {σ : Sto} {s : Shared} {Q : Value → Shared → Prop} {E : Value → Shared → Prop} (f : F c V M σ s) (rz : RepL c.w σ dz vz)
    (q : ∀ σ' s' v, Step c.K c.N σ s σ' s' → Rep c.w σ' d v → Q v s') : wpAny (model PR c.w) c.A (callWith pos v vz (backTo pos (starEach es c.env)) []) Q E s := by
  have app : ∀ {σ : Sto} {ds vs}, RepL c.w σ ds vs → ∀ {dz vz}, RepL c.w σ dz vz → RepL c.w σ (dz ++ ds) (vz ++ vs) := fun {σ ds vs} r {dz vz} rz => by
    induction dz generalizing vz with
    | nil => cases rz; exact r
    | cons d dz ih => cases rz with | cons r1 r2 => exact .cons r1 (ih r2)
  have fin : ∀ σ1 s1 vs, Step c.K c.N σ s σ1 s1 → F c V M σ1 s1 → RepL c.w σ1 ds vs → wpAny (model PR c.w) c.A (call v (vz ++ vs) []) Q E s1 := fun σ1 s1 vs x1 f1 r1 =>
    hf c.A σ1 s1 _ Q E f1.step.g (f1.rm.mono hk) (app r1 (rz.mono x1.ext)) fun σ2 s2 u x2 r2 => q _ _ _ (x1.trans x2) r2
  cases hc with
  | blt => exact callWith_builtin (backTo_plain ha pos) (ha.args f fun σ1 s1 vs x1 f1 r1 => fin σ1 s1 vs x1 f1 r1)
  | typ => exact PySem.callWith_type (backTo_plain ha pos) (ha.args f fun σ1 s1 vs x1 f1 r1 => fin σ1 s1 vs x1 f1 r1)
  | fn h1 h2 => exact callWith_function (ha.args f fun σ1 s1 vs x1 f1 r1 => ⟨⟨(f1.step.g.base.frag _ _ h1).1, h2⟩, fin σ1 s1 vs x1 f1 r1⟩)

theorem ev_call {x : Str} {np pos : Pos} {es : List Expr} {ds : List D} {v : Value} {d : D} {k : Nat} (hn : Ev c V M (.Name x np) (.val v)) (hc : Callee c.K v) (ha : EvL c V M es ds)
    (hf : Fun c.K c.w c.N k v ds d) (hk : k ≤ c.k) : Ev c V M (.Call (.Name x np) es [] pos) d := fun σ s Q E f q =>
  wpAny_Call_ofName (hn.use f fun σ1 s1 v1 x1 f1 r1 => by
    cases r1
    exact call_args hc ha (dz := []) hf hk f1 .nil fun σ2 s2 u x2 r2 => q _ _ _ (x1.trans x2) r2)

end
end Mine
end
section
open PySem PySem.W PyProof.Rows PySem.Calls
set_option Elab.async false
set_option maxRecDepth 100000
set_option autoImplicit false
set_option linter.unusedVariables false
namespace Mine

theorem put_cls (name : Str) (h : Int) (key v : Value) (o : Obj) : (Obj.putName name h key v o).cls = o.cls := by
  rw [Obj.putName_eq]
  obtain ⟨c, d, dt, sl⟩ := o
  cases dt with
  | dict es n => simp only [Obj.putNameByArray]; split <;> rfl
  | _ => rfl

/-- a name laid into a namespace: the class of its object stays -/
theorem nsSet_cls {M : Model} {A : Around} {E : Value → Shared → Prop} {s : Shared} {a : Addr} {m : Str → Option Value} {name : Str} {v : Value} {Q : Unit → Shared → Prop} (hn : s.heap.Ns a m)
    (h : ∀ h', h'.Ns a (fun x => if x = name then some v else m x) → Heap.SameBut a s.heap h' → (∀ o, s.heap.get? a = some o → ∃ o', h'.get? a = some o' ∧ o'.cls = o.cls) → Q () { s with heap := h', toks := s.toks + 1 }) :
    wpAny M A (nsSet a name v) Q E s := fun Γ p hΓ => by
  have e1 : ∀ Q' : Unit → Pos → Shared → Prop, Sem.wp M Γ (nsSet a name v) Q' (fun e _ s' => E e s') p s ↔
      Q' () p { s with heap := s.heap.update a (Obj.putName name (PyData.keyHash M.w.params name) (.str name s.toks) v), toks := s.toks + 1 } := fun Q' => by
    obtain ⟨o, es, ep, ho, hd, hk, hm⟩ := hn
    have hany : es.any (·.refKey) = false := by
      rw [Array.any_eq_false']; intro e he; obtain ⟨n, t, h⟩ := hk e he; simp [DictEntry.refKey, h]
    simp only [nsSet, strHash, Sem.wp_bind', Sem.wp_cmd_ask, Sem.wp_pure', Sem.wp_cmd_mkText]
    rw [Sem.wp_loadPart_of M Γ _ p { s with toks := s.toks + 1 } (o := o) _ ho]
    simp only [hd, aRefKeyMayBeTheName_eq, aRefKeyMayBeTheNameByArray, hany, Bool.and_false, Bool.false_eq_true, if_false, Sem.wp_cmd_updatePart]
    exact ⟨fun q => q.2, fun q => ⟨by rw [ho]; rfl, q⟩⟩
  have e2 := Sem.wp_nsSet M Γ (fun e _ s' => E e s') p s hn name v (fun _ _ s' => ∃ h', s' = { s with heap := h', toks := s.toks + 1 } ∧ h'.Ns a (fun x => if x = name then some v else m x) ∧ Heap.SameBut a s.heap h')
    fun h' x y => ⟨h', rfl, x, y⟩
  rw [e1] at e2 ⊢
  obtain ⟨h', e, hn', hs'⟩ := e2
  have e' : s.heap.update a (Obj.putName name (PyData.keyHash M.w.params name) (.str name s.toks) v) = h' := congrArg Shared.heap e
  rw [e']
  refine h h' hn' hs' fun o ho => ?_
  refine ⟨Obj.putName name (PyData.keyHash M.w.params name) (.str name s.toks) v o, e' ▸ Heap.get?_update_self _ ho ?_, put_cls ..⟩
  obtain ⟨o₂, es, ep, ho₂, hd, _⟩ := hn
  rw [ho] at ho₂; cases ho₂
  rw [Obj.putName_eq]
  obtain ⟨c, d, dt, sl⟩ := o
  subst hd
  simp only [Obj.putNameByArray]
  split <;> rfl

section
variable {c : Cx} {V : List (Option D)} {M : List Own} {σ : Sto} {s : Shared}

/-- all but one object is kept -/
structure Ch (a : Addr) (h h' : Heap) : Prop where
  keep : ∀ b o, b ≠ a → h.get? b = some o → h'.get? b = some o
  size : h.objs.size ≤ h'.objs.size
theorem Ch.of {a : Addr} {h h' : Heap} (x : Heap.SameBut a h h') : Ch a h h' := ⟨fun b o ne e => (x.2 b ne).trans e, Nat.le_of_eq x.1.symm⟩
theorem Ch.ns {a b : Addr} {h h' : Heap} {m : Str → Option Value} (x : Ch a h h') (hn : h.Ns b m) (ne : b ≠ a) : h'.Ns b m := hn.extBut x.keep ne
theorem Ch.cell {a b : Addr} {h h' : Heap} {m : Option Value} (x : Ch a h h') (hn : h.IsCell b m) (ne : b ≠ a) : h'.IsCell b m := let ⟨o, ho, r⟩ := hn; ⟨o, x.keep _ _ ne ho, r⟩

/-- one own object is written: all else stays -/
theorem F.write (f : F c V M σ s) {a : Addr} {s' : Shared} (hs : Ch a s.heap s'.heap) (hlo : c.s₀.heap.objs.size ≤ a) (hσ : σ a = none) (nt : a ≠ TP)
    (hg : s'.gens = s.gens) (ho : s'.os = s.os) : G c.K c.N σ s' ∧ Step c.K c.N c.σ₀ c.s₀ σ s' := by
  have hN : c.N ≤ a := Nat.le_trans f.lo hlo
  have k1 : KP c.N c.s₀.heap s'.heap := fun b o e ne => by
    obtain ⟨o', e', r⟩ := f.step.kp b o e ne
    have : b ≠ a := Nat.ne_of_lt (Nat.lt_of_lt_of_le (Heap.lt_size e) hlo)
    exact ⟨o', hs.keep b _ this e', r⟩
  have low : ∀ b, b < c.N → b ≠ a := fun b hb => Nat.ne_of_lt (Nat.lt_of_lt_of_le hb hN)
  have b := f.step.g.base
  have big := b.big
  have tab : ∃ ps, s'.heap.IsCode TC TP ps ∧ s'.heap.TableAt TC TP ps := by
    obtain ⟨ps, h1, h2⟩ := b.tab
    refine ⟨ps, ?_, let ⟨o, vs, q, r⟩ := h2.1; ⟨o, vs, hs.keep _ _ (low _ (Nat.lt_of_lt_of_le (by decide) big)) q, r⟩, hs.keep _ _ (Ne.symm nt) h2.2⟩
    obtain ⟨o, vs, file, tf, flags, tg, inF, text, tt, op, q, r1, r2, r3, r4, r5, r6, q', r⟩ := h1
    exact ⟨o, vs, file, tf, flags, tg, inF, text, tt, op, hs.keep _ _ (low _ (Nat.lt_of_lt_of_le (by decide) big)) q, r1, r2, r3, r4, r5, r6, hs.keep _ _ (Ne.symm nt) q', r⟩
  have sto : ∀ x o, σ x = some o → s'.heap.get? x = some o := fun x o e => by
    refine hs.keep x _ (fun q => ?_) (f.step.g.sto x o e).1
    rw [q, hσ] at e; cases e
  have g : G c.K c.N σ s' := ⟨⟨fun x o e => ⟨hs.keep x _ (low x (b.frag x o e).2.1) (b.frag x o e).1, (b.frag x o e).2⟩,
      (let ⟨mb, hn, r⟩ := b.blt; ⟨mb, hs.ns hn (low _ (Nat.lt_of_lt_of_le (by decide) big)), r⟩), b.lim.extBut hs.keep (low _ (Nat.lt_of_lt_of_le (by decide) big)),
      (let ⟨ob, h4, r⟩ := b.mods; ⟨ob, hs.keep 4 _ (low _ (Nat.lt_of_lt_of_le (by decide) big)) h4, r⟩), tab, big, Nat.le_trans b.size hs.size⟩, fun x o e => ⟨sto x o e, (f.step.g.sto x o e).2⟩, hg ▸ f.step.g.gens⟩
  exact ⟨g, g, k1, f.step.ext, f.step.new, Nat.le_trans f.step.size hs.size, ho.trans f.step.os⟩

theorem set_get {α : Type} {l : List (Option α)} {i j : Nat} {d d' : α} (h : (l.set i (some d))[j]? = some (some d')) : (i = j ∧ d' = d) ∨ (i ≠ j ∧ l[j]? = some (some d')) := by
  by_cases e : i = j
  · subst e
    rw [List.getElem?_set_self'] at h
    cases q : l[i]? with
    | none => rw [q] at h; cases h
    | some x => rw [q] at h; cases h; exact .inl ⟨rfl, rfl⟩
  · rw [List.getElem?_set_ne e] at h; exact .inr ⟨e, h⟩

theorem rm_write {N : Nat} {A : Around} {k : Nat} {h h' : Heap} {a : Addr} (r : Rm N A k h) (hs : Ch a h h')
    (hc : ∀ o es n, h.get? a = some o → o.cls = .type "frame" → o.data = .dict es n → ∃ o' es n, h'.get? a = some o' ∧ o'.cls = o.cls ∧ o'.data = .dict es n) : Rm N A k h' := by
  obtain ⟨l, hl, hf⟩ := r.frames
  refine ⟨r.depth, r.units, r.handled, l, hl, fun env he => ?_⟩
  obtain ⟨hk, L, o, h1, h2, h3, h4, h5, es, n, h6⟩ := hf env he
  by_cases e : L = a
  · subst e
    obtain ⟨o', es', n', a1, a2, a3⟩ := hc o es n h4 h5 h6
    exact ⟨hk, L, o', h1, h2, h3, a1, a2.trans h5, es', n', a3⟩
  · exact ⟨hk, L, o, h1, h2, h3, hs.keep L _ e h4, h5, es, n, h6⟩

theorem F.store' (f : F c V M σ s) {i : Nat} {x : Str} {d : D} {v : Value} {Q : Unit → Shared → Prop} {E : Value → Shared → Prop} (hx : c.ns[i]? = some x) (r : Rep c.w σ d v)
    (hfree : c.fn = true ∨ c.env.kindOf x = some .local) {A' : Around}
    (k : ∀ s' b, F c (V.set i (some d)) M σ s' → Heap.SameBut b s.heap s'.heap → (b = c.env.locals ∨ c.env.cells.lookup x = some b) → Q () s') : wpAny (model PR c.w) A' (storeName c.env x v) Q E s := by
  have uniq : ∀ (j : Nat), c.ns[j]? = some x → j = i := fun j hj => (List.getElem?_inj (List.getElem?_eq_some_iff.mp hj).1 f.nodup).mp (hj.trans hx.symm)
  by_cases hl : c.env.kindOf x = some .local
  · obtain ⟨m, hn, hv⟩ := f.loc
    rw [storeName_local hl (by rw [f.kind]; rfl)]
    refine nsSet_cls hn fun h' hn' hs hcls => k _ _ ?_ hs (.inl rfl)
    obtain ⟨o1, o2, o3, o4⟩ := f.own _ (.inl rfl)
    obtain ⟨g, st⟩ := f.write (s' := { s with heap := h', toks := s.toks + 1 }) (.of hs) o1 o3 o4 rfl rfl
    refine ⟨st, ?_, f.kind, f.lo, ?_, ?_, f.nodup, f.names, f.nofree, f.tops, ?_, f.locM, fun y a h => hs.1 ▸ f.celL y a h, f.celF, f.locC, f.celC, f.apart, ?_, f.mono⟩
    · refine rm_write f.rm (.of hs) fun o es n ho hc hd => ?_
      obtain ⟨o', ho', hc'⟩ := hcls o ho
      obtain ⟨o'', es', n', ho'', hd', _⟩ := hn'
      rw [ho'] at ho''; cases ho''
      exact ⟨o', es', n', ho', hc', hd'⟩
    · refine ⟨_, hn', fun j y d' hy hd' hk => ?_⟩
      rcases set_get hd' with ⟨rfl, rfl⟩ | ⟨ne, h2⟩
      · rw [hx] at hy; cases hy
        exact ⟨v, if_pos rfl, r⟩
      · obtain ⟨u, hu, ru⟩ := hv j y d' hy h2 hk
        refine ⟨u, ?_, ru⟩
        show (if y = x then some v else m y) = some u
        rw [if_neg fun (e : y = x) => ne (uniq j (e ▸ hy)).symm]; exact hu
    · intro j y hy hk
      obtain ⟨hk', a, u, ha, nt, hc, hr⟩ := f.cel j y hy hk
      refine ⟨hk', a, u, ha, nt, hc.sameBut hs (f.locC y a ha), fun d' hd' => ?_⟩
      rcases set_get hd' with ⟨rfl, rfl⟩ | ⟨ne, h2⟩
      · rw [hx] at hy; cases hy; exact absurd hl hk
      · exact hr d' h2
    · intro a ha
      obtain ⟨p1, p2, p3, p4⟩ := f.own a ha
      exact ⟨p1, by show a < h'.objs.size; rw [hs.1]; exact p2, p3, p4⟩
    · intro y hy
      obtain ⟨o, ho, q⟩ := f.muta y hy
      exact ⟨o, (hs.2 _ (f.locM y hy)).trans ho, q⟩
  · obtain ⟨hk', a, u, ha, nt, hc, hr⟩ := f.cel i x hx hl
    have hfn : c.fn = true := hfree.resolve_right hl
    have hk : c.env.kindOf x = some .cell := hk'.resolve_right fun q => f.nofree hfn x (List.mem_of_getElem? hx) q
    refine wpAny_storeName_cell f.kind hk ha hc fun h' hc' hs => k _ _ ?_ hs (.inr ha)
    obtain ⟨o1, o2, o3, o4⟩ := f.own a (.inr (.inl ⟨hfn, x, hk, ha⟩))
    obtain ⟨g, st⟩ := f.write (s' := { s with heap := h' }) (.of hs) o1 o3 o4 rfl rfl
    refine ⟨st, ?_, f.kind, f.lo, ?_, ?_, f.nodup, f.names, f.nofree, f.tops, ?_, f.locM, fun y a h => hs.1 ▸ f.celL y a h, f.celF, f.locC, f.celC, f.apart, ?_, f.mono⟩
    · refine rm_write f.rm (.of hs) fun o es n ho _ hd => ?_
      obtain ⟨o', ho', hd'⟩ := hc
      rw [ho] at ho'; cases ho'
      rw [hd] at hd'; cases hd'
    · obtain ⟨m, hn, hv⟩ := f.loc
      refine ⟨m, hn.sameBut hs (Ne.symm (f.locC x a ha)), fun j y d' hy hd' hkl => ?_⟩
      rcases set_get hd' with ⟨rfl, rfl⟩ | ⟨ne, h2⟩
      · rw [hx] at hy; cases hy; exact absurd hkl hl
      · exact hv j y d' hy h2 hkl
    · intro j y hy hky
      obtain ⟨hk'', b, z, hb, nt', hcb, hrb⟩ := f.cel j y hy hky
      by_cases e : j = i
      · subst e
        rw [hx] at hy; cases hy
        rw [ha] at hb; cases hb
        refine ⟨.inl hk, a, some v, ha, nt, hc', fun d' hd' => ?_⟩
        rcases set_get hd' with ⟨_, rfl⟩ | ⟨ne, _⟩
        · exact ⟨v, rfl, r⟩
        · exact absurd rfl ne
      · refine ⟨hk'', b, z, hb, nt', hcb.sameBut hs fun q => e (uniq j ?_), fun d' hd' => ?_⟩
        · rw [f.celC y x a (q ▸ hb) ha] at hy; exact hy
        · rcases set_get hd' with ⟨q, _⟩ | ⟨ne, h2⟩
          · exact absurd q.symm e
          · exact hrb d' h2
    · intro b hb
      obtain ⟨p1, p2, p3, p4⟩ := f.own b hb
      exact ⟨p1, by show b < h'.objs.size; rw [hs.1]; exact p2, p3, p4⟩
    · intro y hy
      obtain ⟨o, ho, q⟩ := f.muta y hy
      exact ⟨o, (hs.2 _ (f.celF y hy x a ha)).trans ho, q⟩

theorem F.store (f : F c V M σ s) {i : Nat} {x : Str} {d : D} {v : Value} {Q : Unit → Shared → Prop} {E : Value → Shared → Prop} (hx : c.ns[i]? = some x) (r : Rep c.w σ d v)
    (hfree : c.fn = true ∨ c.env.kindOf x = some .local) {A' : Around} (k : ∀ s', F c (V.set i (some d)) M σ s' → Q () s') : wpAny (model PR c.w) A' (storeName c.env x v) Q E s :=
  f.store' hx r hfree fun s' b f' _ _ => k s' f'

end
end Mine
end
section
open PySem PySem.W PyProof.Rows PySem.Calls
set_option Elab.async false
set_option maxRecDepth 100000
set_option autoImplicit false
set_option linter.unusedVariables false
namespace Mine

section
variable {c : Cx} {V : List (Option D)} {M : List Own} {σ : Sto} {s : Shared}

noncomputable abbrev Own.Mono (p : Pr) : Prop := ∀ σ₁ σ₂ : Sto, (∀ a o, σ₁ a = some o → σ₂ a = some o) → ∀ o, p σ₁ o → p σ₂ o

/-- a new own object -/
theorem F.alloc (f : F c V M σ s) {o : Obj} {p : Pr} (hf : o.isFreed = false) (hc : o.cls ≠ .type "frame") (hp : p σ o) (hm : Own.Mono p) :
    F c V (⟨s.heap.objs.size, p⟩ :: M) σ { s with heap := s.heap.push o } := by
  have f' := f.stable (Step.pushOff f.step.g o)
  have big := f.step.g.base.big
  have size := f.step.g.base.size
  refine ⟨f'.step, f'.rm, f.kind, f.lo, f'.loc, f'.cel, f.nodup, f.names, f.nofree, f.tops, ?_, ?_, f'.celL, ?_, f.locC, f.celC, ?_, ?_, ?_⟩
  · rintro a (h | h | ⟨q, h⟩)
    · exact f'.own a (.inl h)
    · exact f'.own a (.inr (.inl h))
    · rcases List.mem_cons.mp h with e | h
      · cases e
        refine ⟨f.step.size, by show s.heap.objs.size < (s.heap.push o).objs.size; rw [Heap.size_push]; exact Nat.lt_succ_self _, ?_, fun q => by have : s.heap.objs.size = 30 := q; omega⟩
        cases e : σ s.heap.objs.size with
        | none => rfl
        | some x => exact absurd (Heap.lt_size (f.step.g.sto _ _ e).1) (Nat.lt_irrefl _)
      · exact f'.own a (.inr (.inr ⟨q, h⟩))
  · intro x hx
    rcases List.mem_cons.mp hx with rfl | hx
    · exact Nat.ne_of_gt (f.own _ (.inl rfl)).2.1
    · exact f.locM x hx
  · intro x hx y a h2
    rcases List.mem_cons.mp hx with rfl | hx
    · exact Nat.ne_of_gt (f.celL y a h2)
    · exact f.celF x hx y a h2
  · refine List.pairwise_cons.mpr ⟨fun y hy => Nat.ne_of_gt (f.own y.a (.inr (.inr ⟨y.p, hy⟩))).2.1, f.apart⟩
  · intro x hx
    rcases List.mem_cons.mp hx with rfl | hx
    · exact ⟨o, Heap.get?_push_size _ hf, hc, hp⟩
    · exact f'.muta x hx
  · intro x hx
    rcases List.mem_cons.mp hx with rfl | hx
    · exact hm
    · exact f.mono x hx

theorem pair_ne : ∀ {M : List Own} {i j : Nat} {x y : Own}, (M.Pairwise fun x y => x.a ≠ y.a) → M[i]? = some x → M[j]? = some y → i ≠ j → x.a ≠ y.a := by
  intro M i j x y hp hi hj ne
  rw [List.pairwise_iff_getElem] at hp
  obtain ⟨h1, rfl⟩ := List.getElem?_eq_some_iff.mp hi
  obtain ⟨h2, rfl⟩ := List.getElem?_eq_some_iff.mp hj
  rcases Nat.lt_or_gt_of_ne ne with h | h
  · exact hp i j h1 h2 h
  · exact (hp j i h2 h1 h).symm

theorem mem_set {α : Type} {l : List α} {i : Nat} {x y : α} (h : y ∈ l.set i x) : y = x ∧ i < l.length ∨ ∃ j, j ≠ i ∧ l[j]? = some y := by
  obtain ⟨j, hj, e⟩ := List.getElem_of_mem h
  rw [List.getElem_set] at e
  split at e
  · rename_i q; subst q; exact .inl ⟨e.symm, by simpa using hj⟩
  · rename_i q; exact .inr ⟨j, Ne.symm q, List.getElem?_eq_some_iff.mpr ⟨by simpa using hj, e⟩⟩

/-- an own object is changed -/
theorem F.upd (f : F c V M σ s) {i : Nat} {a : Addr} {p p' : Pr} {s' : Shared} (hi : M[i]? = some ⟨a, p⟩) (hs : Ch a s.heap s'.heap) {o' : Obj} (ho' : s'.heap.get? a = some o') (hc : o'.cls ≠ .type "frame") (hp : p' σ o')
    (hm : Own.Mono p') (hg : s'.gens = s.gens) (hos : s'.os = s.os) : F c V (M.set i ⟨a, p'⟩) σ s' := by
  have mem : (⟨a, p⟩ : Own) ∈ M := List.mem_of_getElem? hi
  obtain ⟨o1, o2, o3, o4⟩ := f.own a (.inr (.inr ⟨p, mem⟩))
  obtain ⟨g, st⟩ := f.write hs o1 o3 o4 hg hos
  obtain ⟨o, ho, hoc, _⟩ := f.muta _ mem
  refine ⟨st, ?_, f.kind, f.lo, ?_, ?_, f.nodup, f.names, f.nofree, f.tops, ?_, ?_, fun y a h => Nat.lt_of_lt_of_le (f.celL y a h) hs.size, ?_, f.locC, f.celC, ?_, ?_, ?_⟩
  · refine rm_write f.rm hs fun o₂ es n h1 h2 _ => ?_
    have : o₂ = o := Option.some.inj (h1.symm.trans ho)
    exact absurd (this ▸ h2) hoc
  · obtain ⟨m, hn, hv⟩ := f.loc
    exact ⟨m, hs.ns hn (Ne.symm (f.locM _ mem)), hv⟩
  · intro j y hy hk
    obtain ⟨hk', b, u, hb, nt, hcb, hr⟩ := f.cel j y hy hk
    refine ⟨hk', b, u, hb, nt, ?_, hr⟩
    by_cases e : b = a
    · subst e
      exact absurd rfl (f.celF _ mem y b hb)
    · exact hs.cell hcb e
  · rintro b (h | h | ⟨q, h⟩)
    · obtain ⟨q1, q2, q3⟩ := f.own b (.inl h); exact ⟨q1, Nat.lt_of_lt_of_le q2 hs.size, q3⟩
    · obtain ⟨q1, q2, q3⟩ := f.own b (.inr (.inl h)); exact ⟨q1, Nat.lt_of_lt_of_le q2 hs.size, q3⟩
    · rcases mem_set h with ⟨e, _⟩ | ⟨j, _, hj⟩
      · cases e; exact ⟨o1, Nat.lt_of_lt_of_le o2 hs.size, o3, o4⟩
      · obtain ⟨q1, q2, q3⟩ := f.own b (.inr (.inr ⟨q, List.mem_of_getElem? hj⟩)); exact ⟨q1, Nat.lt_of_lt_of_le q2 hs.size, q3⟩
  · intro x hx
    rcases mem_set hx with ⟨rfl, _⟩ | ⟨j, _, hj⟩
    · exact f.locM ⟨a, p⟩ mem
    · exact f.locM _ (List.mem_of_getElem? hj)
  · intro x hx
    rcases mem_set hx with ⟨rfl, _⟩ | ⟨j, _, hj⟩
    · exact f.celF ⟨a, p⟩ mem
    · exact f.celF _ (List.mem_of_getElem? hj)
  · rw [List.pairwise_iff_getElem]
    intro j k hj hk hjk
    have hj' : j < M.length := by simpa using hj
    have hk' : k < M.length := by simpa using hk
    have base := List.pairwise_iff_getElem.mp f.apart j k hj' hk' hjk
    obtain ⟨hil, hie⟩ := List.getElem?_eq_some_iff.mp hi
    rw [List.getElem_set, List.getElem_set]
    split <;> split
    · omega
    · rename_i q _; subst q; rw [hie] at base; exact base
    · rename_i _ q; subst q; rw [hie] at base; exact base
    · exact base
  · intro x hx
    rcases mem_set hx with ⟨rfl, _⟩ | ⟨j, ne, hj⟩
    · exact ⟨o', ho', hc, hp⟩
    · obtain ⟨o₂, ho₂, r⟩ := f.muta x (List.mem_of_getElem? hj)
      exact ⟨o₂, hs.keep _ _ (pair_ne f.apart hj hi ne) ho₂, r⟩
  · intro x hx
    rcases mem_set hx with ⟨rfl, _⟩ | ⟨j, _, hj⟩
    · exact hm
    · exact f.mono x (List.mem_of_getElem? hj)

/-- the first own object is changed, and forgotten -/
theorem F.gone {a : Addr} {p : Pr} (f : F c V (⟨a, p⟩ :: M) σ s) {s' : Shared} (hs : Ch a s.heap s'.heap) (hg : s'.gens = s.gens) (hos : s'.os = s.os) : F c V M σ s' := by
  have mem : (⟨a, p⟩ : Own) ∈ (⟨a, p⟩ :: M : List Own) := List.mem_cons_self
  obtain ⟨o1, o2, o3, o4⟩ := f.own a (.inr (.inr ⟨p, mem⟩))
  obtain ⟨g, st⟩ := f.write hs o1 o3 o4 hg hos
  obtain ⟨o, ho, hoc, _⟩ := f.muta _ mem
  have ap := List.pairwise_cons.mp f.apart
  refine ⟨st, ?_, f.kind, f.lo, ?_, ?_, f.nodup, f.names, f.nofree, f.tops, ?_, fun x hx => f.locM x (List.mem_cons_of_mem _ hx), fun y a h => Nat.lt_of_lt_of_le (f.celL y a h) hs.size, fun x hx => f.celF x (List.mem_cons_of_mem _ hx), f.locC, f.celC, ap.2, ?_, fun x hx => f.mono x (List.mem_cons_of_mem _ hx)⟩
  · refine rm_write f.rm hs fun o₂ es n h1 h2 _ => ?_
    have : o₂ = o := Option.some.inj (h1.symm.trans ho)
    exact absurd (this ▸ h2) hoc
  · obtain ⟨m, hn, hv⟩ := f.loc
    exact ⟨m, hs.ns hn (Ne.symm (f.locM _ mem)), hv⟩
  · intro j y hy hk
    obtain ⟨hk', b, u, hb, nt, hcb, hr⟩ := f.cel j y hy hk
    refine ⟨hk', b, u, hb, nt, hs.cell hcb fun e => ?_, hr⟩
    subst e
    exact absurd rfl (f.celF _ mem y b hb)
  · intro b hb
    obtain ⟨q1, q2, q3⟩ := f.own b (hb.imp id (Or.imp id fun ⟨p, hp⟩ => ⟨p, List.mem_cons_of_mem _ hp⟩))
    exact ⟨q1, Nat.lt_of_lt_of_le q2 hs.size, q3⟩
  · intro x hx
    obtain ⟨o₂, ho₂, r⟩ := f.muta x (List.mem_cons_of_mem _ hx)
    exact ⟨o₂, hs.keep _ _ (Ne.symm (ap.1 x hx)) ho₂, r⟩

/-- own objects forgotten -/
theorem F.drop (f : F c V M σ s) {M' : List Own} (h : M'.Sublist M) : F c V M' σ s :=
  ⟨f.step, f.rm, f.kind, f.lo, f.loc, f.cel, f.nodup, f.names, f.nofree, f.tops, fun a ha => f.own a (ha.imp id (Or.imp id fun ⟨p, hp⟩ => ⟨p, h.subset hp⟩)), fun x hx => f.locM x (h.subset hx),
    f.celL, fun x hx => f.celF x (h.subset hx), f.locC, f.celC, f.apart.sublist h, fun x hx => f.muta x (h.subset hx), fun x hx => f.mono x (h.subset hx)⟩

/-- an own object is done with: it goes into the store -/
theorem F.freeze (f : F c V M σ s) {i : Nat} {a : Addr} {p : Pr} (hi : M[i]? = some ⟨a, p⟩) :
    ∃ o σ', p σ o ∧ s.heap.get? a = some o ∧ σ' = put σ a o ∧ (∀ b x, σ b = some x → σ' b = some x) ∧ F c V (M.eraseIdx i) σ' s := by
  have mem : (⟨a, p⟩ : Own) ∈ M := List.mem_of_getElem? hi
  obtain ⟨o1, o2, o3, o4⟩ := f.own a (.inr (.inr ⟨p, mem⟩))
  obtain ⟨o, ho, hoc, hp⟩ := f.muta _ mem
  have ext : ∀ b x, σ b = some x → put σ a o b = some x := fun b x e => by
    show (if b = a then some o else σ b) = some x
    rw [if_neg fun q => by rw [q, o3] at e; cases e]; exact e
  have other : ∀ x ∈ M.eraseIdx i, x.a ≠ a := fun x hx => by
    rw [List.mem_eraseIdx_iff_getElem?] at hx
    obtain ⟨j, ne, hj⟩ := hx
    exact pair_ne f.apart hj hi ne
  have f' := f.drop (List.eraseIdx_sublist M i)
  have none' : ∀ b, b ≠ a → put σ a o b = σ b := fun b ne => if_neg ne
  refine ⟨o, _, hp, ho, rfl, ext, ⟨⟨f.step.g.base, fun b x e => ?_, f.step.g.gens⟩, f.step.kp, fun b x e => ext b x (f.step.ext b x e), fun b x e => ?_, f.step.size, f.step.os⟩, f.rm, f.kind, f.lo, ?_, ?_, f.nodup, f.names, f.nofree, f.tops,
    ?_, f'.locM, f'.celL, f'.celF, f.locC, f.celC, f'.apart, ?_, f'.mono⟩
  · by_cases q : b = a
    · subst q
      have : x = o := Option.some.inj (e.symm.trans put_self)
      subst this
      exact ⟨ho, hi_of (Nat.le_trans f.step.g.base.big (Nat.le_trans f.lo o1)), hoc⟩
    · rw [none' b q] at e; exact f.step.g.sto b x e
  · by_cases q : b = a
    · exact .inr (q ▸ o1)
    · rw [none' b q] at e; exact f.step.new b x e
  · obtain ⟨m, hn, hv⟩ := f.loc
    refine ⟨m, hn, fun j y d h1 h2 h3 => ?_⟩
    obtain ⟨v, e, r⟩ := hv j y d h1 h2 h3
    exact ⟨v, e, r.mono ext⟩
  · intro j y h1 h2
    obtain ⟨hk, b, v, hb, nt, hcb, hr⟩ := f.cel j y h1 h2
    refine ⟨hk, b, v, hb, nt, hcb, fun d hd => ?_⟩
    obtain ⟨u, hu, r⟩ := hr d hd
    exact ⟨u, hu, r.mono ext⟩
  · intro b hb
    obtain ⟨q1, q2, q3, q4⟩ := f'.own b hb
    refine ⟨q1, q2, ?_, q4⟩
    rw [none' b fun q => ?_]
    · exact q3
    · rcases hb with h | ⟨_, y, h1, h2⟩ | ⟨p', h⟩
      · exact f.locM _ mem (q ▸ h)
      · exact f.celF _ mem y b h2 q.symm
      · exact other _ h q
  · intro x hx
    obtain ⟨o₂, ho₂, h1, h2⟩ := f'.muta x hx
    exact ⟨o₂, ho₂, h1, f'.mono x hx _ _ ext _ h2⟩

/-- a local is known under another datum -/
theorem F.re (f : F c V M σ s) {V' : List (Option D)} (h : ∀ (i : Nat) d', V'[i]? = some (some d') → ∃ d, V[i]? = some (some d) ∧ ∀ v, Rep c.w σ d v → Rep c.w σ d' v) : F c V' M σ s := by
  refine ⟨f.step, f.rm, f.kind, f.lo, ?_, ?_, f.nodup, f.names, f.nofree, f.tops, f.own, f.locM, f.celL, f.celF, f.locC, f.celC, f.apart, f.muta, f.mono⟩
  · obtain ⟨m, hn, hv⟩ := f.loc
    refine ⟨m, hn, fun i x d' h1 h2 h3 => ?_⟩
    obtain ⟨d, hd, hr⟩ := h i d' h2
    obtain ⟨v, e, r⟩ := hv i x d h1 hd h3
    exact ⟨v, e, hr v r⟩
  · intro i x h1 h2
    obtain ⟨hk, b, v, hb, nt, hcb, hr⟩ := f.cel i x h1 h2
    refine ⟨hk, b, v, hb, nt, hcb, fun d' hd' => ?_⟩
    obtain ⟨d, hd, hr'⟩ := h i d' hd'
    obtain ⟨u, hu, r⟩ := hr d hd
    exact ⟨u, hu, hr' u r⟩

end
end Mine
end
section
open PySem PySem.W PyProof.Rows PySem.Calls
set_option Elab.async false
set_option maxRecDepth 100000
set_option autoImplicit false
set_option linter.unusedVariables false
namespace Mine

noncomputable abbrev Nx := List (Option D) → List Own → Prop
noncomputable abbrev Rt := Sto → Value → Prop

/-- statements: behind them Φ of the locals and own objects, or a value Ψ handed back -/
noncomputable def Xs (c : Cx) (V : List (Option D)) (M : List Own) (sts : List Stmt) (Φ : Nx) (Ψ : Rt) : Prop :=
  ∀ (σ : Sto) (s : Shared) (Q : Flow → Shared → Prop) (E : Value → Shared → Prop), F c V M σ s →
    (∀ σ' s' V' M', F c V' M' σ' s' → Φ V' M' → Q .next s') → (∀ σ' s' V' M' v, F c V' M' σ' s' → Ψ σ' v → Q (.ret v) s') → wpAny (model PR c.w) c.A (execs sts c.env) Q E s
noncomputable abbrev RetD (c : Cx) (d : D) : Rt := fun σ v => Rep c.w σ d v

section
variable {c : Cx} {V : List (Option D)} {M : List Own} {Φ : Nx} {Ψ : Rt} {rest : List Stmt}

theorem xs_nil (h : Φ V M) : Xs c V M [] Φ Ψ := fun σ s Q E f kn kr => wpAny_execs_nil (kn σ s V M f h)
theorem Xs.mono {sts : List Stmt} {Φ' : Nx} (h : Xs c V M sts Φ' Ψ) (k : ∀ V' M', Φ' V' M' → Φ V' M') : Xs c V M sts Φ Ψ := fun σ s Q E f kn kr =>
  h σ s Q E f (fun σ' s' V' M' f' p => kn σ' s' V' M' f' (k V' M' p)) kr
/-- one step in front: what it leads to -/
theorem xs_cons {st : Stmt} (h : ∀ (σ : Sto) (s : Shared) (Q : Flow → Shared → Prop) (E : Value → Shared → Prop), F c V M σ s →
    (∀ σ' s' V' M', F c V' M' σ' s' → Xs c V' M' rest Φ Ψ → Q .next s') → (∀ σ' s' V' M' v, F c V' M' σ' s' → Ψ σ' v → Q (.ret v) s') → wpAny (model PR c.w) c.A (exec st c.env) Q E s) : Xs c V M (st :: rest) Φ Ψ :=
  fun σ s Q E f kn kr => wpAny_execs_cons (h σ s _ E f (fun σ' s' V' M' f' x => x σ' s' Q E f' kn kr) fun σ' s' V' M' v f' p => kr σ' s' V' M' v f' p)

theorem xs_assign {x : Str} {p' pos : Pos} {e : Expr} {d : D} (i : Nat) (hx : c.ns[i]? = some x) (h : Ev c V M e d) (hr : Xs c (V.set i (some d)) M rest Φ Ψ)
    (hfree : c.fn = true ∨ c.env.kindOf x = some .local := by first | exact .inl rfl | exact .inr rfl) (hs : swapsWith e (some (.Name x p')) pos.line c.env = pure false := by rfl) : Xs c V M (.Assign [.Name x p'] e pos :: rest) Φ Ψ :=
  xs_cons fun σ s Q E f kn kr => wpAny_Assign_Name (h.use f fun σ1 s1 v x1 f1 r1 => f1.store hx r1 hfree fun s2 f2 => kn _ _ _ _ f2 hr) hs

theorem xs_ret {e : Expr} {pos : Pos} {d : D} (h : Ev c V M e d) (hΨ : ∀ σ v, Rep c.w σ d v → Ψ σ v) : Xs c V M (.Return (some e) pos :: rest) Φ Ψ :=
  xs_cons fun σ s Q E f kn kr => wpAny_Return_some (h.use f fun σ1 s1 v x1 f1 r1 => kr _ _ _ _ _ f1 (hΨ _ _ r1))

theorem xs_if {t : Expr} {a b : List Stmt} {pos : Pos} {v : Bool} {Φ₁ : Nx} (ht : Et c V M t v) (ha : v = true → Xs c V M a Φ₁ Ψ) (hb : v = false → Xs c V M b Φ₁ Ψ) (hr : ∀ V' M', Φ₁ V' M' → Xs c V' M' rest Φ Ψ) :
    Xs c V M (.If t a b pos :: rest) Φ Ψ := xs_cons fun σ s Q E f kn kr => wpAny_If (ht.use f fun σ1 s1 x1 f1 => by
      cases v with
      | true => exact (ha rfl) σ1 s1 Q E f1 (fun σ' s' V' M' f' p => kn _ _ _ _ f' (hr V' M' p)) kr
      | false => exact (hb rfl) σ1 s1 Q E f1 (fun σ' s' V' M' f' p => kn _ _ _ _ f' (hr V' M' p)) kr)
theorem xs_if_f {t : Expr} {a : List Stmt} {pos : Pos} (ht : Et c V M t false) (hr : Xs c V M rest Φ Ψ) : Xs c V M (.If t a [] pos :: rest) Φ Ψ :=
  xs_if (Φ₁ := fun V' M' => V' = V ∧ M' = M) ht (fun h => nomatch h) (fun _ => xs_nil ⟨rfl, rfl⟩) fun V' M' ⟨h1, h2⟩ => by subst h1; subst h2; exact hr
theorem xs_if_t {t : Expr} {a b : List Stmt} {pos : Pos} {Φ₁ : Nx} (ht : Et c V M t true) (ha : Xs c V M a Φ₁ Ψ) (hr : ∀ V' M', Φ₁ V' M' → Xs c V' M' rest Φ Ψ) : Xs c V M (.If t a b pos :: rest) Φ Ψ :=
  xs_if ht (fun _ => ha) (fun h => nomatch h) hr
theorem xs_if_e {t : Expr} {a b : List Stmt} {pos : Pos} {Φ₁ : Nx} (ht : Et c V M t false) (ha : Xs c V M b Φ₁ Ψ) (hr : ∀ V' M', Φ₁ V' M' → Xs c V' M' rest Φ Ψ) : Xs c V M (.If t a b pos :: rest) Φ Ψ :=
  xs_if ht (fun h => nomatch h) (fun _ => ha) hr

/-- own list, own dict -/
noncomputable abbrev ol (P : World) (ds : List D) : Pr := fun σ o => ∃ items n, o = { cls := .type "list", data := .seq items n } ∧ RepL P σ ds items.toList
noncomputable abbrev od (P : World) (kvs : List (Str × D)) : Pr := fun σ o => ∃ es, o.IsDictOf (strKind PR P) es ∧ RepE P σ kvs es
theorem ol_mono {P : World} {ds : List D} : Own.Mono (ol P ds) := fun σ₁ σ₂ h o ⟨items, n, h3, h4⟩ => ⟨items, n, h3, h4.mono h⟩
theorem od_mono {P : World} {kvs : List (Str × D)} : Own.Mono (od P kvs) := fun σ₁ σ₂ h o ⟨es, h3, h4⟩ => ⟨es, h3, h4.mono h⟩

theorem xs_newlist {x : Str} {p' pos lp : Pos} (i : Nat) (hx : c.ns[i]? = some x) (hr : ∀ a, Xs c (V.set i (some (.val (.ref a)))) (⟨a, ol c.w []⟩ :: M) rest Φ Ψ)
    (hfree : c.fn = true ∨ c.env.kindOf x = some .local := by first | exact .inl rfl | exact .inr rfl) (hs : swapsWith (.List [] lp) (some (.Name x p')) pos.line c.env = pure false := by rfl) : Xs c V M (.Assign [.Name x p'] (.List [] lp) pos :: rest) Φ Ψ :=
  xs_cons fun σ s Q E f kn kr => wpAny_Assign_Name (List_ (spliced_nil (wpAny_newList (by
    have f1 := f.alloc (o := { cls := .type "list", data := .seq #[] }) (p := ol c.w []) rfl (by decide) ⟨#[], 0, rfl, .nil⟩ ol_mono
    exact f1.store hx .val hfree fun s2 f2 => kn _ _ _ _ f2 (hr _)) (by decide)))) hs

theorem xs_newdict {x : Str} {p' pos lp : Pos} (i : Nat) (hx : c.ns[i]? = some x) (hr : ∀ a, Xs c (V.set i (some (.val (.ref a)))) (⟨a, od c.w []⟩ :: M) rest Φ Ψ)
    (hfree : c.fn = true ∨ c.env.kindOf x = some .local := by first | exact .inl rfl | exact .inr rfl) (hs : swapsWith (.Dict [] [] lp) (some (.Name x p')) pos.line c.env = pure false := by rfl) : Xs c V M (.Assign [.Name x p'] (.Dict [] [] lp) pos :: rest) Φ Ψ :=
  xs_cons fun σ s Q E f kn kr => wpAny_Assign_Name (wpAny_Dict_empty (by
    have f1 := f.alloc (o := { cls := .type "dict", data := .dict #[] }) (p := od c.w []) rfl (by decide) ⟨[], ⟨#[], 0, ⟨rfl, rfl, rfl⟩, rfl, fun _ he => by simp at he, .nil, .nil⟩, .nil⟩ od_mono
    exact f1.store hx .val hfree fun s2 f2 => kn _ _ _ _ f2 (hr _))) hs

theorem xs_freeze_list {sts : List Stmt} {a : Addr} {ds : List D} (i j : Nat) (hv : V[i]? = some (some (.val (.ref a)))) (hm : M[j]? = some ⟨a, ol c.w ds⟩)
    (h : Xs c (V.set i (some (.list ds))) (M.eraseIdx j) sts Φ Ψ) : Xs c V M sts Φ Ψ := fun σ s Q E f kn kr => by
  obtain ⟨o, σ', ⟨items, n, h3, h4⟩, ho, e, ext, f'⟩ := f.freeze hm
  refine h σ' s Q E (f'.re fun k d' hd' => ?_) kn kr
  rcases set_get hd' with ⟨rfl, rfl⟩ | ⟨_, h⟩
  · exact ⟨_, hv, fun v r => by cases r; subst e; subst h3; exact .list put_self rfl rfl (h4.mono ext)⟩
  · exact ⟨d', h, fun _ r => r⟩
theorem xs_freeze_dict {sts : List Stmt} {a : Addr} {kvs : List (Str × D)} (i j : Nat) (hv : V[i]? = some (some (.val (.ref a)))) (hm : M[j]? = some ⟨a, od c.w kvs⟩)
    (h : Xs c (V.set i (some (.dict kvs))) (M.eraseIdx j) sts Φ Ψ) : Xs c V M sts Φ Ψ := fun σ s Q E f kn kr => by
  obtain ⟨o, σ', ⟨es, h3, h4⟩, ho, e, ext, f'⟩ := f.freeze hm
  refine h σ' s Q E (f'.re fun k d' hd' => ?_) kn kr
  rcases set_get hd' with ⟨rfl, rfl⟩ | ⟨_, h⟩
  · exact ⟨_, hv, fun v r => by cases r; subst e; exact .dict put_self h3 (h4.mono ext)⟩
  · exact ⟨d', h, fun _ r => r⟩

theorem RepL.len {P : World} {σ : Sto} : ∀ {ds vs}, RepL P σ ds vs → vs.length = ds.length
  | _, _, .nil => rfl
  | _, _, .cons _ r => congrArg (· + 1) r.len
theorem RepL.snoc {P : World} {σ : Sto} {d : D} {v : Value} : ∀ {ds vs}, RepL P σ ds vs → Rep P σ d v → RepL P σ (ds ++ [d]) (vs ++ [v])
  | _, _, .nil, r => .cons r .nil
  | _, _, .cons r1 r2, r => .cons r1 (r2.snoc r)

theorem xs_append {x : Str} {np ap pos pos' : Pos} {e : Expr} {a : Addr} {ds : List D} {d : D} (i j : Nat) (hx : c.ns[i]? = some x) (hv : V[i]? = some (some (.val (.ref a)))) (hm : M[j]? = some ⟨a, ol c.w ds⟩)
    (hst : isStarred e = false) (h : Ev c V M e d) (hsz : ds.length ≤ sizeLine) (hr : Xs c V (M.set j ⟨a, ol c.w (ds ++ [d])⟩) rest Φ Ψ)
    (hline : (ap.endLine == pos.line) = true := by rfl) (hi : interactive c.env = false := by rfl) (hs : swapsWith (.Call (.Attribute (.Name x np) "append" ap) [e] [] pos) none pos'.line c.env = pure false := by rfl) :
    Xs c V M (.Expr (.Call (.Attribute (.Name x np) "append" ap) [e] [] pos) pos' :: rest) Φ Ψ := xs_cons fun σ s Q E f kn kr => by
  have tr : backTo pos (starEach [e] c.env) = [(false, eval e c.env)] := by rw [starEach_cons hst]; rfl
  refine wpAny_Expr_any ?_ hi hs
  refine wpAny_Call_append (by rfl) (by rw [tr]; rfl) hline tr ?_
  refine (ev_var i hx hv).use f fun σ1 s1 v x1 f1 r1 => ?_
  cases r1
  obtain ⟨o, ho, _, items, n, rfl, hr1⟩ := f1.muta _ (List.mem_of_getElem? hm)
  refine ⟨a, items, rfl, ⟨_, n, ho, rfl, rfl, rfl⟩, ?_⟩
  refine h.use f1 fun σ2 s2 v x2 f2 r2 => ?_
  obtain ⟨o, ho, _, items, n, rfl, hr2⟩ := f2.muta _ (List.mem_of_getElem? hm)
  refine wpAny_list_append_plain (items := items) ⟨n, ho⟩ (fun h' hp hs => ?_) ?_
  · obtain ⟨n', ho'⟩ := hp
    refine kn σ2 { s2 with heap := h' } _ _ (f2.upd hm (.of hs) ho' (show Value.type "list" ≠ .type "frame" by decide) ⟨_, n', rfl, ?_⟩ ol_mono rfl rfl) hr
    rw [Array.toList_push]
    exact hr2.snoc r2
  · have := hr2.len
    rw [Array.length_toList] at this
    omega

end
end Mine
end
section
open PySem PySem.W PyProof.Rows PySem.Calls
set_option Elab.async false
set_option maxRecDepth 100000
set_option autoImplicit false
set_option linter.unusedVariables false
namespace Mine

/-- an iterator at it that hands on the data ds to the target tgt; p i: its object behind i items; p' i v: when it has just handed on v -/
structure Nexts (c : Cx) (tgt : Expr) (it : Addr) (p : Nat → Pr) (p' : Nat → Value → Pr) (ds : List D) : Prop where
  next : ∀ (V : List (Option D)) (M : List Own) (σ : Sto) (s : Shared) (i : Nat) (Q : Option Value → Shared → Prop) (E : Value → Shared → Prop), F c V (⟨it, p i⟩ :: M) σ s →
    (∀ d, ds[i]? = some d → ∀ σ' s' v, (∀ a o, σ a = some o → σ' a = some o) → F c V (⟨it, p' i v⟩ :: M) σ' s' → Rep c.w σ' d v → Q (some v) s') →
    (ds[i]? = none → ∀ s', F c V M σ s' → Q none s') → wpAny (model PR c.w) c.A (pyNext (.ref it)) Q E s
  go : ∀ (V : List (Option D)) (M : List Own) (σ : Sto) (s : Shared) (i : Nat) (v : Value) (Q : Unit → Shared → Prop) (E : Value → Shared → Prop), F c V (⟨it, p' i v⟩ :: M) σ s →
    (∀ s', F c V (⟨it, p (i + 1)⟩ :: M) σ s' → Q () s') → wpAny (model PR c.w) c.A (letOwnedTupleGo tgt (.ref it) v) Q E s
  self : ∀ (V : List (Option D)) (M : List Own) (σ : Sto) (s : Shared) (i : Nat) (Q : Value → Shared → Prop) (E : Value → Shared → Prop), F c V (⟨it, p i⟩ :: M) σ s →
    Q (.ref it) s → wpAny (model PR c.w) c.A (pyIter (.ref it)) Q E s

/-- iter of d: a new iterator, whose items c hands on to tgt -/
noncomputable def Iters (c : Cx) (tgt : Expr) (d : D) (ds : List D) : Prop :=
  ∀ (A : Around) (σ : Sto) (s : Shared) (v : Value) (Q : Value → Shared → Prop) (E : Value → Shared → Prop), G c.K c.N σ s → Rm c.N A 0 s.heap → Rep c.w σ d v →
    (∀ o tk p p', Nexts c tgt s.heap.objs.size p p' ds → p 0 σ o → o.isFreed = false → o.cls ≠ .type "frame" → Own.Mono (p 0) → Q (.ref s.heap.objs.size) { s with heap := s.heap.push o, toks := tk }) →
    wpAny (model PR c.w) A (pyIter v) Q E s

theorem F.tok {c : Cx} {V : List (Option D)} {M : List Own} {σ : Sto} {s : Shared} (f : F c V M σ s) (t : Nat) : F c V M σ { s with toks := t } := f.stable (Step.tok f.step.g t)

/-- a target takes a datum -/
noncomputable def Asg (c : Cx) (target : Expr) (d : D) (V V' : List (Option D)) : Prop :=
  ∀ (M : List Own) (σ : Sto) (s : Shared) (v : Value) (Q : Unit → Shared → Prop) (E : Value → Shared → Prop), F c V M σ s → Rep c.w σ d v →
    (∀ s', F c V' M σ s' → Q () s') → wpAny (model PR c.w) c.A (assign target c.env v) Q E s

section
variable {c : Cx} {V : List (Option D)} {M : List Own} {Φ : Nx} {Ψ : Rt} {rest : List Stmt}

theorem asg_name {x : Str} {tp : Pos} {d : D} (i : Nat) (hx : c.ns[i]? = some x) (hfree : c.fn = true ∨ c.env.kindOf x = some .local := by first | exact .inl rfl | exact .inr rfl) : Asg c (.Name x tp) d V (V.set i (some d)) :=
  fun M σ s v Q E f r k => wpAny_assign_Name (f.store hx r hfree k)

theorem xs_for {target iter : Expr} {body : List Stmt} {pos : Pos} {d : D} {ds : List D} (Inv : Nat → Nx) (hi : Ev c V M iter d) (hit : Iters c target d ds) (h0 : Inv 0 V M)
    (hb : ∀ i dd V M (o : Own), ds[i]? = some dd → Inv i V M → ∃ V₁, Asg c target dd V V₁ ∧ Xs c V₁ (o :: M) body (fun V' M' => ∃ M'', M' = o :: M'' ∧ Inv (i + 1) V' M'') Ψ)
    (hr : ∀ V' M', Inv ds.length V' M' → Xs c V' M' rest Φ Ψ) (hs : ∀ x, foldedSetIterable iter c.env x = pure x := by intro _; rfl) : Xs c V M (.For target iter body [] pos :: rest) Φ Ψ := xs_cons fun σ s Q E f kn kr => by
  refine wpAny_For ?_ hs
  refine hi.use f fun σ1 s1 v x1 f1 r1 => ?_
  refine hit c.A σ1 s1 v _ _ f1.step.g (f1.rm.mono (Nat.zero_le _)) r1 fun o tk p p' nx hp hf hc hm => ?_
  have f2 := (f1.alloc hf hc hp hm).tok tk
  generalize s1.heap.objs.size = it at nx f2 ⊢
  refine codeAny_forLoop_any (fun n s => ∃ i σ V M, n + i = ds.length ∧ F c V (⟨it, p i⟩ :: M) σ s ∧ Inv i V M) (fun n s3 hI => ?_) ds.length ⟨0, σ1, V, M, rfl, f2, h0⟩
  obtain ⟨i, σ3, V3, M3, hn, f3, hinv⟩ := hI
  refine nx.next V3 M3 σ3 s3 i _ _ f3 (fun dd hd σ4 s4 v4 ext f4 r4 => ?_) fun hd s4 f4 => ?_
  · refine nx.go V3 M3 σ4 s4 i v4 _ _ f4 fun s5 f5 => ?_
    obtain ⟨V₁, asg, hb'⟩ := hb i dd V3 M3 ⟨it, p (i + 1)⟩ hd hinv
    refine asg _ σ4 s5 v4 _ _ f5 r4 fun s6 f6 => ?_
    refine hb' σ4 s6 _ _ f6 (fun σ7 s7 V7 M7 f7 h7 => ?_) fun σ7 s7 V7 M7 v7 f7 h7 => kr _ _ _ _ _ f7 h7
    obtain ⟨M8, rfl, hinv'⟩ := h7
    have := (List.getElem?_eq_some_iff.mp hd).1
    exact ⟨n - 1, by omega, i + 1, σ7, V7, M8, by omega, f7, hinv'⟩
  · refine wpAny_execs_nil (kn σ3 s4 V3 M3 f4 (hr V3 M3 ?_))
    have := List.getElem?_eq_none_iff.mp hd
    have e : i = ds.length := by omega
    exact e ▸ hinv

theorem xs_while {t : Expr} {body : List Stmt} {pos : Pos} (Inv : Nat → Nx) (n : Nat) (h0 : Inv n V M)
    (hb : ∀ n V M, Inv n V M → ∃ b, Et c V M t b ∧ (b = true → Xs c V M body (fun V' M' => ∃ m, m < n ∧ Inv m V' M') Ψ) ∧ (b = false → Xs c V M rest Φ Ψ)) :
    Xs c V M (.While t body [] pos :: rest) Φ Ψ := xs_cons fun σ s Q E f kn kr => by
  refine wpAny_While ?_
  refine codeAny_whileLoop (fun n s => ∃ σ V M, F c V M σ s ∧ Inv n V M) (fun n s3 hI => ?_) n ⟨σ, V, M, f, h0⟩
  obtain ⟨σ3, V3, M3, f3, hinv⟩ := hI
  obtain ⟨b, ht, h1, h2⟩ := hb n V3 M3 hinv
  refine ht.use f3 fun σ4 s4 x4 f4 => ?_
  cases b with
  | true => exact h1 rfl σ4 s4 _ _ f4 (fun σ' s' V' M' f' ⟨m, hm, hv⟩ => ⟨m, hm, σ', V', M', f', hv⟩) fun σ' s' V' M' v f' p => kr _ _ _ _ _ f' p
  | false => exact wpAny_execs_nil (kn σ4 s4 V3 M3 f4 (h2 rfl))

theorem xs_aug {x : Str} {p' pos : Pos} {e : Expr} {op : Operator} {d1 d2 d : D} (i : Nat) (hx : c.ns[i]? = some x) (hv : V[i]? = some (some d1)) (h : Ev c V M e d2) (ho : P2 c.K c.w c.N (inplaceOp op) d1 d2 d)
    (hr : Xs c (V.set i (some d)) M rest Φ Ψ) (hfree : c.fn = true ∨ c.env.kindOf x = some .local := by first | exact .inl rfl | exact .inr rfl) : Xs c V M (.AugAssign (.Name x p') op e pos :: rest) Φ Ψ :=
  xs_cons fun σ s Q E f kn kr => wpAny_AugAssign_Name (by
    have hload : ∀ (Q : Value → Shared → Prop), (∀ v, Rep c.w σ d1 v → Q v s) → wpAny (model PR c.w) c.A (loadName c.env x) Q E s := fun Q k => by
      have hm : x ∈ c.ns := List.mem_of_getElem? hx
      by_cases hl : c.env.kindOf x = some .local
      · obtain ⟨m, hn, hr⟩ := f.loc
        obtain ⟨v, e, r⟩ := hr i x d1 hx hv hl
        exact wpAny_loadName_local f.kind hl hn e (k v r)
      · obtain ⟨hk, a, v, ha, _, hc, hr⟩ := f.cel i x hx hl
        obtain ⟨u, rfl, r⟩ := hr d1 hv
        rcases hk with hk | hk
        · exact wpAny_loadName_cell f.kind hk ha hc (k u r)
        · exact wpAny_loadName_free f.kind hk ha hc (k u r) (f.names x hm).2
    refine hload _ fun v r => ?_
    refine h.use f fun σ1 s1 v1 x1 f1 r1 => ?_
    refine ho c.A σ1 s1 v v1 _ _ f1.step.g (f1.rm.mono (Nat.zero_le _)) (r.mono x1.ext) r1 fun σ2 s2 v2 x2 r2 => ?_
    exact (f1.stable x2).store hx r2 hfree fun s3 f3 => kn _ _ _ _ f3 hr)

end
end Mine
end
section
open PySem PySem.W PyProof.Rows PySem.Calls
set_option Elab.async false
set_option maxRecDepth 100000
set_option autoImplicit false
set_option linter.unusedVariables false
namespace Mine

/-- the layout of a def's locals, looked over once -/
noncomputable def layOK (scope : Scope) (ns : List Str) : Bool :=
  decide ns.Nodup && ns.all (fun x => !(x == ("__debug__" : Str)) && !(x == ("__classdict__" : Str)) && (scope.names.lookup x == some .local || scope.names.lookup x == some .cell))

/-- arguments laid one by one -/
theorem bind_walk {c : Cx} {σ : Sto} {A' : Around} {E : Value → Shared → Prop} (f : Str × Value → PUnit → Sem (ForInStep PUnit)) (hf : ∀ n v u, f (n, v) u = (do storeName c.env n v; pure (.yield ⟨⟩))) (hfn : c.fn = true) :
    ∀ (ds : List D) (xs : List Str) (vs : List Value) (V : List (Option D)) (i : Nat) (s : Shared) (Q : PUnit → Shared → Prop), F c V [] σ s → RepL c.w σ ds vs → xs.length = ds.length →
      (∀ j x, xs[j]? = some x → c.ns[i + j]? = some x) → (∀ j, i ≤ j → j < V.length → V[j]? = some none) → i + ds.length ≤ V.length →
      (∀ s', F c (V.take i ++ ds.map some ++ V.drop (i + ds.length)) [] σ s' → Q ⟨⟩ s') → wpAny (model PR c.w) A' (forIn (xs.zip vs) ⟨⟩ f) Q E s
  | [], xs, vs, V, i, s, Q, F0, r, hl, hx, hn, hle, k => by
    cases r
    rw [List.zip_nil_right, List.forIn_nil]
    refine wpAny_pure (k s ?_)
    simpa using F0
  | d :: ds, [], vs, V, i, s, Q, F0, r, hl, hx, hn, hle, k => by cases hl
  | d :: ds, x :: xs, vs, V, i, s, Q, F0, r, hl, hx, hn, hle, k => by
    cases r with
    | @cons _ v _ vs r rs =>
      have hle' : i + (ds.length + 1) ≤ V.length := by simpa using hle
      rw [List.zip_cons_cons, List.forIn_cons, hf]
      refine wpAny_bind (wpAny_bind (F0.store (i := i) (hx 0 x rfl) r (.inl hfn) fun s1 f1 => wpAny_pure ?_))
      refine bind_walk f hf hfn ds xs vs (V.set i (some d)) (i + 1) s1 Q f1 rs (by simpa using hl) (fun j y hy => ?_) (fun j h1 h2 => ?_) ?_ fun s' f' => k s' ?_
      · have := hx (j + 1) y (by simpa using hy)
        rwa [show i + 1 + j = i + (j + 1) by omega]
      · rw [List.getElem?_set_ne (by omega)]; exact hn j (by omega) (by simpa using h2)
      · rw [List.length_set]; omega
      · have e1 : (V.set i (some d)).take (i + 1) = V.take i ++ [some d] := by
          rw [List.take_set, List.take_add_one, List.set_append_right _ _ (by rw [List.length_take]; omega)]
          simp only [List.length_take]
          rw [show min i V.length = i by omega, Nat.sub_self]
          cases q : V[i]? with
          | none => rw [List.getElem?_eq_none_iff] at q; omega
          | some z => simp
        have e2 : (V.set i (some d)).drop (i + 1 + ds.length) = V.drop (i + (ds.length + 1)) := by
          rw [List.drop_set_of_lt (by omega)]; congr 1; omega
        rw [e1, e2] at f'
        simpa using f'

theorem lay_spec {scope : Scope} {ns : List Str} (h : layOK scope ns = true) : ns.Nodup ∧ ∀ x ∈ ns, (x == ("__debug__" : Str)) = false ∧ (x == ("__classdict__" : Str)) = false ∧ (scope.names.lookup x = some .local ∨ scope.names.lookup x = some .cell) := by
  unfold layOK at h
  simp only [Bool.and_eq_true, decide_eq_true_eq, List.all_eq_true, Bool.not_eq_true', Bool.or_eq_true, beq_iff_eq] at h
  exact ⟨h.1, fun x hx => ⟨(h.2 x hx).1.1, (h.2 x hx).1.2, (h.2 x hx).2⟩⟩

theorem lookupNone {α : Type} : ∀ {n : Nat} {i : Nat} {d : α}, (List.replicate n (none : Option α))[i]? = some (some d) → False := fun {n i d} h => by
  rw [List.getElem?_replicate] at h
  split at h <;> cases h

/-- a call of a def: from its body's statements -/
theorem fun_gen {K : Frag} {w : World} {N k : Nat} {a : Addr} {o : Obj} {fd : FuncData} {body : List Stmt} {ns : List Str} {ds : List D} {σ : Sto} {s : Shared} {A : Around} {args : Args} {vs : List Value} {Q : Value → Shared → Prop} {E : Value → Shared → Prop}
    (ho : K.lookup a = some o) (hd : o.data = .func fd) (hb : fd.body = .stmts body) (hcl : fd.closure = []) (hgl : fd.globals = mainGlobals) (hbi : fd.builtins = builtinsNs) (hcode : codeIn K fd.code fd.qualname = true)
    (hco : fd.scope.isCoroutine = false) (hgen : fd.scope.isGenerator = false) (hk : fd.scope.kind = .function) (hlay : layOK fd.scope ns = true) (hlen : ds.length ≤ ns.length)
    (g : G K N σ s) (rm : Rm N A (k + 1) s.heap) (r : RepL w σ ds vs)
    (hbind : ∀ (Q' : List (Str × Value) → Shared → Prop) (E' : Value → Shared → Prop), Q' ((ns.take ds.length).zip vs) s → wpAny (model PR w) A.in1 (bindArgs fd args) Q' E' s)
    (h : ∀ L : Addr, ∀ (Q' : Flow → Shared → Prop) (E' : Value → Shared → Prop) (s₁ : Shared), F ⟨K, w, N, k, A.deeper (callEnvC fd L a), callEnvC fd L a, ns, true, s, σ⟩ (ds.map some ++ List.replicate (ns.length - ds.length) none) [] σ s₁ →
      (∀ v s', Q v s' → Q' (.ret v) s') →
      wpAny (model PR w) (A.deeper (callEnvC fd L a)) (execs body (callEnvC fd L a)) Q' E' s₁) : wpAny (model PR w) A (call (.ref a) args.pos args.kw) Q E s := by
  obtain ⟨hnd, hns⟩ := lay_spec hlay
  have hX : K.In s.heap := fun b x e => (g.base.frag b x e).1
  have big := g.base.big
  have size := g.base.size
  refine wpAny_call (codeAny_call_function (by have := rm.depth; show A.depth < 1000; omega) (hX _ _ ho) hd hco hgen hb (codeRec_of hX hcode) ?_)
  refine hbind _ _ ?_
  rw [hcl]
  simp only [newFunctionEnv, Option.isSome_none, Bool.false_eq_true, if_false]
  refine wpAny_bind (wpAny_alloc ?_)
  refine wpAny_bind (wpAny_layCells _ (fun name kind cells => by cases hkc : kind == NameKind.cell <;> simp [hkc]) _ _ _ _ ?_)
  have ok := cellsFrom_ok fd.scope.names (s.heap.push { cls := .type "frame", data := .dict #[] }) (s.heap.objs.size + 1) [] ⟨fun _ _ hm => (nomatch hm), List.Pairwise.nil⟩ (by rw [Heap.size_push]; exact Nat.le_refl _)
  have ez : ({ s with heap := s.heap.push { cls := .type "frame", data := .dict #[] } } : Shared).heap.objs.size = s.heap.objs.size + 1 := Heap.size_push ..
  rw [Heap.size_push] at ok
  rw [ez]
  generalize hh : pushCells (s.heap.push { cls := .type "frame", data := .dict #[] }) fd.scope.names = h2 at ok
  have keep : ∀ b x, s.heap.get? b = some x → h2.get? b = some x := fun b x e => hh ▸ pushCells_keeps _ _ b x (Heap.get?_push_of_some _ e)
  have frame : h2.get? s.heap.objs.size = some { cls := .type "frame", data := .dict #[] } := hh ▸ pushCells_keeps _ _ _ _ (Heap.get?_push_size _ rfl)
  have fr : h2.Ns s.heap.objs.size fun _ => none := ⟨_, #[], 0, frame, rfl, fun _ he => by simp at he, fun _ => rfl⟩
  have hsz : s.heap.objs.size ≤ h2.objs.size := Nat.le_of_lt (Heap.lt_size frame)
  have g2 : Step K N σ s σ { s with heap := h2 } := ⟨⟨g.base.keep (.of_keep keep) (fun o e => keep _ _ e) hsz, fun x y e => ⟨keep _ _ (g.sto x y e).1, (g.sto x y e).2⟩, g.gens⟩, .of_keep keep, fun _ _ e => e, fun _ _ e => .inl e, hsz, rfl⟩
  have none' : ∀ b, s.heap.objs.size ≤ b → σ b = none := fun b hb' => by
    cases e : σ b with
    | none => rfl
    | some x => exact absurd (Heap.lt_size (g.sto b x e).1) (Nat.not_lt.mpr hb')
  have F0 : F ⟨K, w, N, k, A.deeper (callEnvC fd s.heap.objs.size a), callEnvC fd s.heap.objs.size a, ns, true, s, σ⟩ (List.replicate ns.length none) [] σ { s with heap := h2 } := by
    refine ⟨g2, ⟨?_, ?_, ?_, ?_⟩, hk, size, ⟨_, fr, fun i x d _ h2 _ => (lookupNone h2).elim⟩, ?_, hnd, fun x hx => ⟨(hns x hx).1, (hns x hx).2.1⟩, ?_, ⟨hgl, hbi⟩, ?_, fun x hx => (nomatch hx), ?_, fun x hx => (nomatch hx), ?_, ?_, .nil, fun x hx => (nomatch hx), fun x hx => (nomatch hx)⟩
    · have := rm.depth; show A.depth + 1 + k ≤ 900; omega
    · have := rm.units; show A.units + 3 + 100 * k ≤ 9000; omega
    · exact rm.handled
    · obtain ⟨l, hl, hf⟩ := rm.frames
      refine ⟨callEnvC fd s.heap.objs.size a :: l, by show A.frames.map _ = _; rw [hl]; rfl, fun env he => ?_⟩
      rcases List.mem_cons.mp he with rfl | he
      · exact ⟨hk, s.heap.objs.size, _, rfl, size, (fun q => by have : s.heap.objs.size = 30 := q; omega), frame, rfl, #[], 0, rfl⟩
      · obtain ⟨q1, L, o', q2, q3, q4, q5, q6, q7⟩ := hf env he
        exact ⟨q1, L, o', q2, q3, q4, keep _ _ q5, q6, q7⟩
    · intro i x hx hnl
      have hc : fd.scope.names.lookup x = some .cell := (hns x (List.mem_of_getElem? hx)).2.2.resolve_left hnl
      obtain ⟨b, hb'⟩ := Option.isSome_iff_exists.mp (cellsFrom_some (x := x) fd.scope.names (s.heap.objs.size + 1) [] (.inl hc))
      have hm := ok.empty x b (mem_of_lookup hb')
      exact ⟨.inl hc, b, none, hb', (fun q => by have q' : @Eq Nat b 30 := q; have q2 : s.heap.objs.size + 1 ≤ b := hm.2; omega), hm.1, fun d hd => (lookupNone hd).elim⟩
    · intro _ x hx hfr
      rcases (hns x hx).2.2 with q | q
      · have : (some NameKind.local) = some .free := q.symm.trans hfr; cases this
      · have : (some NameKind.cell) = some .free := q.symm.trans hfr; cases this
    · rintro b (rfl | ⟨_, x, _, hb'⟩ | ⟨p, hp⟩)
      · exact ⟨Nat.le_refl _, Heap.lt_size frame, none' _ (Nat.le_refl _), fun q => by have : s.heap.objs.size = 30 := q; omega⟩
      · have hm := ok.empty x b (mem_of_lookup hb')
        exact ⟨by show s.heap.objs.size ≤ b; omega, hm.1.lt, none' _ (by omega), fun q => by have q' : @Eq Nat b 30 := q; have q2 : s.heap.objs.size + 1 ≤ b := hm.2; omega⟩
      · cases hp
    · intro y b hb'; exact (ok.empty y b (mem_of_lookup hb')).1.lt
    · intro y b hb' q; have q2 : s.heap.objs.size + 1 ≤ b := (ok.empty y b (mem_of_lookup hb')).2; have q' : @Eq Nat b s.heap.objs.size := q; omega
    · intro x y b h1 h2; exact name_of_addr ok.apart (mem_of_lookup h1) (mem_of_lookup h2)
  refine wpAny_bind (bind_walk (c := ⟨K, w, N, k, A.deeper (callEnvC fd s.heap.objs.size a), callEnvC fd s.heap.objs.size a, ns, true, s, σ⟩) _ (fun _ _ _ => rfl) rfl ds (ns.take ds.length) vs _ 0 _ _ F0 r (by rw [List.length_take]; omega) (fun j x hx => ?_) (fun j _ h2 => ?_) ?_ fun s' f' => wpAny_pure ⟨f'.step.g.base.lim, codeAny_func ?_⟩)
  · rw [List.getElem?_take] at hx
    split at hx
    · rw [Nat.zero_add]; exact hx
    · cases hx
  · rw [List.length_replicate] at h2
    rw [List.getElem?_replicate, if_pos h2]
  · rw [List.length_replicate]; omega
  · simp only [List.take_zero, List.nil_append, Nat.zero_add, List.drop_replicate] at f'
    exact h s.heap.objs.size _ _ s' f' fun v s'' q => q

/-- lists of a written length -/
theorem of_len1 {P : List Value → Prop} (h : ∀ a, P [a]) : ∀ vs : List Value, vs.length = 1 → P vs
  | [a], _ => h a
theorem of_cons {n : Nat} {P : List Value → Prop} (h : ∀ a l, l.length = n → P (a :: l)) : ∀ vs : List Value, vs.length = n + 1 → P vs
  | a :: l, e => h a l (Nat.succ.inj e)
theorem of_len2 {P : List Value → Prop} (h : ∀ a b, P [a, b]) : ∀ vs : List Value, vs.length = 2 → P vs := of_cons fun a => of_len1 (h a)
theorem of_len3 {P : List Value → Prop} (h : ∀ a b c, P [a, b, c]) : ∀ vs : List Value, vs.length = 3 → P vs := of_cons fun a => of_len2 (h a)
theorem of_len4 {P : List Value → Prop} (h : ∀ a b c d, P [a, b, c, d]) : ∀ vs : List Value, vs.length = 4 → P vs := of_cons fun a => of_len3 (h a)
theorem of_len5 {P : List Value → Prop} (h : ∀ a b c d e, P [a, b, c, d, e]) : ∀ vs : List Value, vs.length = 5 → P vs := of_cons fun a => of_len4 (h a)
theorem of_len6 {P : List Value → Prop} (h : ∀ a b c d e f, P [a, b, c, d, e, f]) : ∀ vs : List Value, vs.length = 6 → P vs := of_cons fun a => of_len5 (h a)
theorem fun_plain {K : Frag} {w : World} {N k : Nat} {a : Addr} {o : Obj} {fd : FuncData} {body : List Stmt} {ns : List Str} {ds : List D} {d : D}
    (ho : K.lookup a = some o) (hd : o.data = .func fd) (hb : fd.body = .stmts body) (hcl : fd.closure = []) (hgl : fd.globals = mainGlobals) (hbi : fd.builtins = builtinsNs) (hcode : codeIn K fd.code fd.qualname = true)
    (hco : fd.scope.isCoroutine = false) (hgen : fd.scope.isGenerator = false) (hk : fd.scope.kind = .function) (hlay : layOK fd.scope ns = true) (hlen : ds.length ≤ ns.length)
    (hbind : ∀ vs : List Value, vs.length = ds.length → bindArgs fd ⟨vs, []⟩ = pure ((ns.take ds.length).zip vs))
    (h : ∀ (A : Around) (L : Addr) (s₀ : Shared) (σ₀ : Sto), Xs ⟨K, w, N, k, A, callEnvC fd L a, ns, true, s₀, σ₀⟩ (ds.map some ++ List.replicate (ns.length - ds.length) none) [] body (fun _ _ => False) (fun σ v => Rep w σ d v)) :
    Fun K w N (k + 1) (.ref a) ds d := fun A σ s vs Q E g rm r q => by
  refine fun_gen (args := ⟨vs, []⟩) ho hd hb hcl hgl hbi hcode hco hgen hk hlay hlen g rm r (fun Q' E' h' => by rw [hbind vs r.len]; exact wpAny_pure h') fun L Q' E' s1 f1 hq => ?_
  exact h (A.deeper (callEnvC fd L a)) L s σ σ s1 Q' E' f1 (fun _ _ _ _ _ h => h.elim) fun σ' s' V' M' v f' r' => hq v s' (q σ' s' v f'.step r')

end Mine
end
section
open PySem PySem.W PyProof.Rows PySem.Calls
set_option Elab.async false
set_option maxRecDepth 100000
set_option autoImplicit false
set_option linter.unusedVariables false
namespace Mine

noncomputable def D.ty : D → Option String
  | .val .none => some "NoneType"
  | .val (.bool _) => some "bool"
  | .val _ => Option.none
  | .int _ => some "int"
  | .str _ => some "str"
  | .bytes _ => some "bytes"
  | .list _ => some "list"
  | .tup _ => some "tuple"
  | .dict _ => some "dict"
  | .view T _ => some T
  | .range _ _ _ => some "range"

noncomputable def D.obj : D → Bool
  | .val _ => false
  | _ => true

theorem Rep.ty {K : Frag} {N : Nat} {P : World} {σ : Sto} {d : D} {v : Value} {s : Shared} {T : String} (r : Rep P σ d v) (g : G K N σ s) (h : d.ty = some T) : s.TypeIs v T := by
  cases r with
  | @val v => cases v <;> (first | (cases h; rfl) | cases h)
  | int => cases h; rfl
  | str => cases h; rfl
  | bytes => cases h; rfl
  | list h1 h2 => cases h; exact ⟨_, (g.sto _ _ h1).1, h2⟩
  | tup h1 h2 => cases h; exact ⟨_, (g.sto _ _ h1).1, h2⟩
  | dict h1 h2 => cases h; obtain ⟨es, ep, h3, _⟩ := h2; exact ⟨_, (g.sto _ _ h1).1, h3.1⟩
  | view h1 h2 => cases h; exact ⟨_, (g.sto _ _ h1).1, h2⟩
  | range h1 => cases h; exact ⟨_, (g.sto _ _ h1).1, rfl⟩

noncomputable def strKeyB (e : DictEntry) : Bool := match e.key with | .str _ _ => true | _ => false
noncomputable def gloOK (K : Frag) : Bool := match K.lookup mainGlobals with | some o => (match o.data with | .dict es _ => es.all strKeyB | _ => false) | none => false
noncomputable def gloAt (K : Frag) (x : Str) : Option Value := match K.lookup mainGlobals with | some o => (match o.data with | .dict es _ => nsFind es x | _ => none) | none => none
theorem glo_of {K : Frag} {x : Str} {r : Option Value} (h : gloOK K = true) (h2 : gloAt K x = r) : Glo K x r := by
  unfold gloOK at h; unfold gloAt at h2
  cases e : K.lookup mainGlobals with
  | none => rw [e] at h; cases h
  | some o =>
    rw [e] at h h2
    cases e2 : o.data with
    | dict es n =>
      simp only [e2] at h h2
      refine ⟨o, es, n, e, e2, fun x hx => ?_, h2⟩
      rw [Array.all_eq_true_iff_forall_mem] at h
      have := h x hx
      unfold strKeyB at this
      cases q : x.key <;> simp only [q] at this <;> first | exact ⟨_, _, rfl⟩ | cases this
    | _ => simp only [e2] at h; cases h

section
variable {K : Frag} {w : World} {N k : Nat}
theorem fun_type {d : D} {T : String} (h : d.ty = some T) (hn : (Value.type T == Value.type "builtin_function_or_method") = false := by decide +kernel) : Fun K w N k (.type "type") [d] (.val (.type T)) := fun A σ s vs Q E g rm r q => by
  cases r with | cons r1 r2 => cases r2 with | nil =>
  exact call_type_of (r1.ty g h) hn (q _ _ _ (.refl g) .val)
theorem p2_is {a b : Value} {r : Bool} (hp : plainIs a b = true := by rfl) (h : (a == b) = r := by decide +kernel) : P2 K w N (compareOp .Is) (.val a) (.val b) (.bool r) := fun A σ s v1 v2 Q E g rm r1 r2 q => by
  cases r1; cases r2; exact wpAny_is_plain hp (h ▸ q _ _ _ (.refl g) .val)
theorem p2_isnot {a b : Value} {r : Bool} (hp : plainIs a b = true := by rfl) (h : (a == b) = r := by decide +kernel) : P2 K w N (compareOp .IsNot) (.val a) (.val b) (.bool !r) := fun A σ s v1 v2 Q E g rm r1 r2 q => by
  cases r1; cases r2; exact wpAny_isNot_plain hp (h ▸ q _ _ _ (.refl g) .val)
theorem rep_none {P : World} {σ : Sto} {d : D} {v : Value} (r : Rep P σ d v) (h : d.obj = true) : plainIs v .none = true ∧ v ≠ .none := by
  cases r <;> first | exact ⟨rfl, fun e => by cases e⟩ | cases h
theorem p2_is_none {d : D} (h : d.obj = true := by rfl) : P2 K w N (compareOp .Is) d .none (.bool false) := fun A σ s v1 v2 Q E g rm r1 r2 q => by
  cases r2; exact wpAny_is_other (rep_none r1 h).1 (rep_none r1 h).2 (q _ _ _ (.refl g) .val)
theorem p2_isnot_none {d : D} (h : d.obj = true := by rfl) : P2 K w N (compareOp .IsNot) d .none (.bool true) := fun A σ s v1 v2 Q E g rm r1 r2 q => by
  cases r2; exact wpAny_isNot_other (rep_none r1 h).1 (rep_none r1 h).2 (q _ _ _ (.refl g) .val)
end
end Mine
end
section
open PySem PySem.W PyProof.Rows PySem.Calls
set_option Elab.async false
set_option maxRecDepth 100000
set_option autoImplicit false
set_option linter.unusedVariables false
namespace Mine

theorem RepL.get {P : World} {σ : Sto} : ∀ {ds vs}, RepL P σ ds vs → ∀ {i : Nat} {d v}, ds[i]? = some d → vs[i]? = some v → Rep P σ d v
  | _, _, .nil, i, d, v, h1, h2 => by simp at h1
  | _, _, .cons r rs, 0, d, v, h1, h2 => by simp at h1 h2; subst h1; subst h2; exact r
  | _, _, .cons r rs, i + 1, d, v, h1, h2 => by simp at h1 h2; exact rs.get h1 h2
theorem RepE.len {P : World} {σ : Sto} : ∀ {ds vs}, RepE P σ ds vs → vs.length = ds.length
  | _, _, .nil => rfl
  | _, _, .cons _ r => congrArg (· + 1) r.len
theorem RepE.keys {P : World} {σ : Sto} : ∀ {ds vs}, RepE P σ ds vs → vs.map (·.1) = ds.map (·.1)
  | _, _, .nil => rfl
  | _, _, .cons _ r => by simp [r.keys]
theorem RepE.get {P : World} {σ : Sto} : ∀ {ds vs}, RepE P σ ds vs → ∀ {i : Nat} {k d k' v}, ds[i]? = some (k, d) → vs[i]? = some (k', v) → k = k' ∧ Rep P σ d v
  | _, _, .nil, i, k, d, k', v, h1, h2 => by simp at h1
  | _, _, .cons r rs, 0, k, d, k', v, h1, h2 => by simp at h1 h2; obtain ⟨rfl, rfl⟩ := h1; obtain ⟨rfl, rfl⟩ := h2; exact ⟨rfl, r⟩
  | _, _, .cons r rs, i + 1, k, d, k', v, h1, h2 => by simp at h1 h2; exact rs.get h1 h2

theorem cls_ne {T : String} (h : (Value.type T == Value.type "frame") = false := by decide +kernel) : Value.type T ≠ .type "frame" := fun e => by rw [e] at h; simp at h

section
variable {c : Cx}

theorem nexts_walk {x : Str} {tp : Pos} {it : Addr} {ds : List D} {n : Nat} {fp : List Addr} {P : Nat → Value → Prop} {St : Nat → Heap → Prop} (q : Nat → Pr) (hq : ∀ i, Own.Mono (q i)) (hn : n = ds.length)
    (W : c.A.handled = none → Walks PR c.w c.A it fp [it] n P St)
    (to : ∀ σ s i o, G c.K c.N σ s → s.heap.get? it = some o → q i σ o → St i s.heap)
    (fro : ∀ σ h i o, q i σ o → St (i + 1) h → ∃ o', h.get? it = some o' ∧ q (i + 1) σ o' ∧ o'.cls ≠ .type "frame")
    (val : ∀ σ i o d v, q i σ o → P i v → ds[i]? = some d → Rep c.w σ d v) :
    Nexts c (.Name x tp) it (fun i σ o => i ≤ ds.length ∧ q i σ o) (fun i _ σ o => i + 1 ≤ ds.length ∧ q (i + 1) σ o) ds where
  next := fun V M σ s i Q E f k1 k2 => by
    have hh := f.rm.handled
    obtain ⟨o, ho, hc, hle, hqo⟩ := f.muta _ List.mem_cons_self
    have st := to σ s i o f.step.g ho hqo
    refine wpAny_size ?_
    cases hd : ds[i]? with
    | some d =>
      have hi : i < n := hn ▸ (List.getElem?_eq_some_iff.mp hd).1
      refine (W hh).item i s _ E hi st fun v h' tk hP st' hk hsz => ?_
      obtain ⟨o', ho', hq', hc'⟩ := fro σ h' i o hqo st'
      refine k1 d hd σ { s with heap := h', toks := tk } v (fun _ _ e => e) ?_ (val σ i o d v hqo hP hd)
      exact f.upd (i := 0) (p := fun σ o => i ≤ ds.length ∧ q i σ o) rfl ⟨fun b o hb e => hk b o (by simpa using hb) e, hsz⟩ ho' hc' ⟨hn ▸ hi, hq'⟩ (fun σ₁ σ₂ h o ho => ⟨ho.1, hq (i + 1) σ₁ σ₂ h o ho.2⟩) rfl rfl
    | none =>
      have e : i = n := by have := List.getElem?_eq_none_iff.mp hd; omega
      refine (W hh).done s _ E (e ▸ st) fun h' tk hk hsz => ?_
      exact k2 hd { s with heap := h', toks := tk } (f.gone (s' := { s with heap := h', toks := tk }) ⟨fun b o hb e => hk b o (by simpa using hb) e, hsz⟩ rfl rfl)
  go := fun V M σ s i v Q E f k => by
    show wpAny _ _ (pure ()) _ _ _
    exact wpAny_pure (k s f)
  self := fun V M σ s i Q E f k => by
    have hh := f.rm.handled
    obtain ⟨o, ho, hc, hle, hqo⟩ := f.muta _ List.mem_cons_self
    exact (W hh).self i s Q E (to σ s i o f.step.g ho hqo) k

theorem iters_list {x : Str} {tp : Pos} {ds : List D} : Iters c (.Name x tp) (.list ds) ds := fun A σ s v Q E g rm r k => by
  cases r with | @list a o items m _ h1 h2 h3 h4 =>
  have hl : s.heap.IsList a items := ⟨o, (g.sto _ _ h1).1, h2, m, h3⟩
  have lt : a < s.heap.objs.size := Heap.lt_size (g.sto _ _ h1).1
  refine wpAny_pyIter_list hl (k _ s.toks _ _ (nexts_walk (n := items.size) (P := fun i v => items[i]? = some v) (St := fun i h => h.IsListIter s.heap.objs.size a i ∧ h.IsList a items)
    (fun i σ o => (o.cls = .type "list_iterator" ∧ o.data = .fields #[.ref a, .int i 0]) ∧ ∃ lo, σ a = some lo ∧ lo.cls = .type "list" ∧ lo.data = .seq items m ∧ RepL c.w σ ds items.toList)
    (fun i σ₁ σ₂ h o ⟨h1, lo, h2, h3, h4, h5⟩ => ⟨h1, lo, h _ _ h2, h3, h4, h5.mono h⟩) (by rw [← Array.length_toList]; exact h4.len)
    (fun hh => Walks.list hh _ a (Nat.ne_of_lt lt) items) (fun σ s' i o g' ho ⟨hq, lo, h2, h3, h4, h5⟩ => ⟨⟨o, ho, hq⟩, lo, (g'.sto _ _ h2).1, h3, m, h4⟩)
    (fun σ h i o ⟨hq, r⟩ ⟨⟨o', ho', hc', hd'⟩, _⟩ => ⟨o', ho', ⟨⟨hc', hd'⟩, r⟩, by rw [hc']; decide⟩)
    (fun σ i o d v ⟨hq, lo, h2, h3, h4, h5⟩ hP hd => h5.get hd (by simpa using hP))) ⟨Nat.zero_le _, ⟨rfl, rfl⟩, o, h1, h2, h3, h4⟩ rfl cls_ne
    (fun σ₁ σ₂ h o ⟨h0, h1, lo, h2, h3, h4, h5⟩ => ⟨h0, h1, lo, h _ _ h2, h3, h4, h5.mono h⟩))

noncomputable abbrev octs (l : List UInt8) : List D := l.map fun c => .int (c.toNat : Int)
noncomputable abbrev chrs (x : Str) : List D := x.cps.toList.map fun c => .str ⟨#[c]⟩

theorem iters_bytes {x : Str} {tp : Pos} {l : List UInt8} : Iters c (.Name x tp) (.bytes l) (octs l) := fun A σ s v Q E g rm r k => by
  cases r with | @bytes _ t =>
  refine KBw.pyIter_bytes (k _ s.toks _ _ (nexts_walk (n := l.toArray.size) (P := fun i v => ∃ b u, l.toArray[i]? = some b ∧ v = .int (b.toNat : Int) u) (St := fun i h => KBw.IsBytesIter h s.heap.objs.size l.toArray t i)
    (fun i σ o => o.cls = .type "bytes_iterator" ∧ o.data = .fields #[.bytes l.toArray t, .int i 0]) (fun i σ₁ σ₂ h o ho => ho) (by simp)
    (fun hh => KBw.walks hh _ _ t) (fun σ s' i o g' ho hq => ⟨o, ho, hq⟩)
    (fun σ h i o hq ⟨o', ho', hc', hd'⟩ => ⟨o', ho', ⟨hc', hd'⟩, by rw [hc']; decide⟩)
    (fun σ i o d v hq hP hd => ?_)) ⟨Nat.zero_le _, rfl, rfl⟩ rfl cls_ne (fun σ₁ σ₂ h o ho => ho))
  obtain ⟨b, u, hb, rfl⟩ := hP
  have hb' : l[i]? = some b := by simpa using hb
  simp [hb'] at hd
  subst hd
  exact .int

theorem iters_str {x : Str} {tp : Pos} {y : Str} : Iters c (.Name x tp) (.str y) (chrs y) := fun A σ s v Q E g rm r k => by
  cases r with | @str _ t =>
  have val : ∀ (σ : Sto) i (o : Obj) d v, SignAt y i v → (chrs y)[i]? = some d → Rep c.w σ d v := fun σ i o d v hP hd => by
    obtain ⟨b, u, hb, rfl⟩ := hP
    have hb' : y.cps.toList[i]? = some b := by simpa using hb
    simp at hd
    obtain ⟨b', hb2, rfl⟩ := hd
    rw [hb] at hb2; cases hb2
    exact .str
  cases ha : y.cps.all (· < 128)
  · exact wpAny_pyIter_wide ha (k _ s.toks _ _ (nexts_walk (n := y.cps.size) (P := SignAt y) (St := fun i h => h.IsStrIter s.heap.objs.size "str_iterator" y t i)
      (fun i σ o => o.cls = .type "str_iterator" ∧ o.data = .fields #[.str y t, .int i 0]) (fun i σ₁ σ₂ h o ho => ho) (by simp)
      (fun hh => Walks.strWide hh _ _ t) (fun σ s' i o g' ho hq => ⟨o, ho, hq⟩)
      (fun σ h i o hq ⟨o', ho', hc', hd'⟩ => ⟨o', ho', ⟨hc', hd'⟩, by rw [hc']; decide⟩)
      (fun σ i o d v hq hP hd => val σ i o d v hP hd)) ⟨Nat.zero_le _, rfl, rfl⟩ rfl cls_ne (fun σ₁ σ₂ h o ho => ho))
  · exact wpAny_pyIter_ascii ha (k _ s.toks _ _ (nexts_walk (n := y.cps.size) (P := SignAt y) (St := fun i h => h.IsStrIter s.heap.objs.size "str_ascii_iterator" y t i)
      (fun i σ o => o.cls = .type "str_ascii_iterator" ∧ o.data = .fields #[.str y t, .int i 0]) (fun i σ₁ σ₂ h o ho => ho) (by simp)
      (fun hh => Walks.strAscii hh _ _ t) (fun σ s' i o g' ho hq => ⟨o, ho, hq⟩)
      (fun σ h i o hq ⟨o', ho', hc', hd'⟩ => ⟨o', ho', ⟨hc', hd'⟩, by rw [hc']; decide⟩)
      (fun σ i o d v hq hP hd => val σ i o d v hP hd)) ⟨Nat.zero_le _, rfl, rfl⟩ rfl cls_ne (fun σ₁ σ₂ h o ho => ho))

noncomputable abbrev rng (a k : Int) (n : Nat) : List D := (List.range n).map fun (i : Nat) => .int (a + (i : Int) * k)
theorem iters_range {x : Str} {tp : Pos} {a b k : Int} (n : Nat) (hs : Builtin.Range.small a b k = true) (hn : Builtin.Range.rangeSize a b k = (n : Int)) : Iters c (.Name x tp) (.range a b k) (rng a k n) := fun A σ s v Q E g rm r q => by
  cases r with | @range r _ _ _ t1 t2 t3 h1 =>
  refine wpAny_pyIter_range (t := t1) (u := t2) (v := t3) (g.sto _ _ h1).1 hs (q _ s.toks _ _ (nexts_walk (n := n) (P := fun i v => ∃ t, v = .int (a + i * k) t) (St := fun i h => IsRangeIter h s.heap.objs.size (a + (i : Nat) * k) ((n : Int) - (i : Nat)) k)
    (fun i σ o => o = { cls := .type "range_iterator", dict := none, data := .fields #[rawInt (a + (i : Nat) * k), rawInt ((n : Int) - (i : Nat)), rawInt k], slots := #[] }) (fun i σ₁ σ₂ h o ho => ho) (by simp)
    (fun hh => Walks.range hh _ a k n) (fun σ s' i o g' ho hq => ho.trans (congrArg some hq))
    (fun σ h i o hq st => ⟨_, st, rfl, by show Value.type "range_iterator" ≠ _; decide⟩)
    (fun σ i o d v hq hP hd => ?_)) ⟨Nat.zero_le _, ?_⟩ rfl (by show Value.type "range_iterator" ≠ _; decide) (fun σ₁ σ₂ h o ho => ho))
  · obtain ⟨t, rfl⟩ := hP
    simp at hd
    obtain ⟨j, hj, rfl⟩ := hd
    obtain ⟨hj1, hj2⟩ := List.getElem?_eq_some_iff.mp hj
    simp at hj2
    subst hj2
    exact .int
  · rw [hn]; simp

theorem iters_keys {x : Str} {tp : Pos} {kvs : List (Str × D)} : Iters c (.Name x tp) (.dict kvs) (kvs.map fun kv => .str kv.1) := fun A σ s v Q E g rm r k => by
  cases r with | @dict a o _ es h1 h2 h3 =>
  obtain ⟨e, ep, x1, x2, x3, x4, x5⟩ := id h2
  have lt : a < s.heap.objs.size := Heap.lt_size (g.sto _ _ h1).1
  have hsys : (a == sysModules) = false := (g.sto _ _ h1).2.1.2
  refine wpAny_pyIter_dict (knd := strKind PR c.w) (ep := ep) (kvs := es) hsys ⟨o, e, (g.sto _ _ h1).1, x1, x2, x3, x4, x5⟩ (k _ s.toks _ _ (nexts_walk (n := es.length) (P := fun i v => ∃ k x, es[i]? = some (k, x) ∧ (strKind PR c.w).is k v = true)
    (St := fun i h => h.IsKeyIter s.heap.objs.size a i es.length ep ∧ h.DictAt (strKind PR c.w) a es ep)
    (fun i σ o => (o.cls = .type "dict_keyiterator" ∧ o.data = .fields #[.ref a, .int i 0, .int es.length 0, .int ep 0]) ∧ ∃ lo, σ a = some lo ∧ lo.ExactDict ∧ lo.data = .dict e ep ∧ RepE c.w σ kvs es)
    (fun i σ₁ σ₂ h o ⟨h1, lo, h2, h3, h4, h5⟩ => ⟨h1, lo, h _ _ h2, h3, h4, h5.mono h⟩) (by simpa using h3.len)
    (fun hh => Walks.dictKeys hh _ a (Nat.ne_of_lt lt) es ep) (fun σ s' i o g' ho ⟨hq, lo, h2, h3, h4, h5⟩ => ⟨⟨o, ho, hq⟩, lo, e, (g'.sto _ _ h2).1, h3, h4, x3, x4, x5⟩)
    (fun σ h i o ⟨hq, r⟩ ⟨⟨o', ho', hc', hd'⟩, _⟩ => ⟨o', ho', ⟨⟨hc', hd'⟩, r⟩, by rw [hc']; decide⟩)
    (fun σ i o d v ⟨hq, lo, h2, h3, h4, h5⟩ ⟨k, x, hx, hk⟩ hd => ?_)) ⟨Nat.zero_le _, ⟨rfl, rfl⟩, o, h1, x1, x2, h3⟩ rfl cls_ne
    (fun σ₁ σ₂ h o ⟨h0, h1, lo, h2, h3, h4, h5⟩ => ⟨h0, h1, lo, h _ _ h2, h3, h4, h5.mono h⟩))
  simp at hd
  obtain ⟨k', ⟨d', hd⟩, rfl⟩ := hd
  obtain ⟨rfl, _⟩ := h5.get hd hx
  obtain ⟨t, rfl⟩ := Value.isStrOf_shape hk
  exact .str

theorem iters_values {x : Str} {tp : Pos} {kvs : List (Str × D)} : Iters c (.Name x tp) (.view "dict_values" kvs) (kvs.map (·.2)) := fun A σ s v Q E g rm r k => by
  cases r with | @view va vo _ a _ y1 y2 y3 y4 =>
  cases y4 with | @dict _ o _ es h1 h2 h3 =>
  obtain ⟨e, ep, x1, x2, x3, x4, x5⟩ := id h2
  have lt : a < s.heap.objs.size := Heap.lt_size (g.sto _ _ h1).1
  refine wpAny_pyIter_values (knd := strKind PR c.w) (ep := ep) (kvs := es) ⟨vo, (g.sto _ _ y1).1, y2, y3⟩ ⟨o, e, (g.sto _ _ h1).1, x1, x2, x3, x4, x5⟩ (k _ s.toks _ _ (nexts_walk (n := es.length) (P := fun i v => ∃ k, es[i]? = some (k, v))
    (St := fun i h => h.IsValIter s.heap.objs.size a i es.length ep ∧ h.DictAt (strKind PR c.w) a es ep)
    (fun i σ o => (o.cls = .type "dict_valueiterator" ∧ o.data = .fields #[.ref a, .int i 0, .int es.length 0, .int ep 0]) ∧ ∃ lo, σ a = some lo ∧ lo.ExactDict ∧ lo.data = .dict e ep ∧ RepE c.w σ kvs es)
    (fun i σ₁ σ₂ h o ⟨h1, lo, h2, h3, h4, h5⟩ => ⟨h1, lo, h _ _ h2, h3, h4, h5.mono h⟩) (by simpa using h3.len)
    (fun hh => Walks.dictValues hh _ a (Nat.ne_of_lt lt) es ep) (fun σ s' i o g' ho ⟨hq, lo, h2, h3, h4, h5⟩ => ⟨⟨o, ho, hq⟩, lo, e, (g'.sto _ _ h2).1, h3, h4, x3, x4, x5⟩)
    (fun σ h i o ⟨hq, r⟩ ⟨⟨o', ho', hc', hd'⟩, _⟩ => ⟨o', ho', ⟨⟨hc', hd'⟩, r⟩, by rw [hc']; decide⟩)
    (fun σ i o d v ⟨hq, lo, h2, h3, h4, h5⟩ ⟨k, hx⟩ hd => ?_)) ⟨Nat.zero_le _, ⟨rfl, rfl⟩, o, h1, x1, x2, h3⟩ rfl cls_ne
    (fun σ₁ σ₂ h o ⟨h0, h1, lo, h2, h3, h4, h5⟩ => ⟨h0, h1, lo, h _ _ h2, h3, h4, h5.mono h⟩))
  simp at hd
  obtain ⟨k', hd⟩ := hd
  exact (h5.get hd hx).2

end
end Mine
end
section
open PySem PySem.W PyProof.Rows PySem.Calls
set_option Elab.async false
set_option maxRecDepth 100000
set_option autoImplicit false
set_option linter.unusedVariables false
namespace Mine

/-- all is kept -/
theorem Step.kept {K : Frag} {N : Nat} {σ : Sto} {s s' : Shared} (g : G K N σ s) (hk : ∀ b o, s.heap.get? b = some o → s'.heap.get? b = some o) (hsz : s.heap.objs.size ≤ s'.heap.objs.size) (hg : s'.gens = s.gens) (ho : s'.os = s.os) : Step K N σ s σ s' :=
  ⟨⟨g.base.keep (.of_keep hk) (fun o e => hk _ _ e) hsz, fun a o e => ⟨hk _ _ (g.sto a o e).1, (g.sto a o e).2⟩, hg ▸ g.gens⟩, .of_keep hk, fun _ _ e => e, fun _ _ e => .inl e, hsz, ho⟩

theorem ext_all {h h' : Heap} (x : Heap.ExtBut h.objs.size h h') : ∀ b o, h.get? b = some o → h'.get? b = some o := fun b o e => x b o (Nat.ne_of_lt (Heap.lt_size e)) e

section
variable {c : Cx} {V : List (Option D)} {M : List Own} {Φ : Nx} {Ψ : Rt} {rest : List Stmt}

inductive Asgs (c : Cx) : List Expr → List D → List (Option D) → List (Option D) → Prop where
  | nil {V₁} : Asgs c [] [] V₁ V₁
  | cons {x tp es d ds V₁ V'} (i : Nat) : c.ns[i]? = some x → (c.fn = true ∨ c.env.kindOf x = some .local) → Asgs c es ds (V₁.set i (some d)) V' → Asgs c (.Name x tp :: es) (d :: ds) V₁ V'

theorem Asgs.walk {es : List Expr} {ds : List D} {V V' : List (Option D)} (h : Asgs c es ds V V') : ∀ (M : List Own) (σ : Sto) (s : Shared) (vs : List Value) (Q : Unit → Shared → Prop) (E : Value → Shared → Prop), F c V M σ s → RepL c.w σ ds vs →
    (∀ s', F c V' M σ s' → Q () s') → wpAny (model PR c.w) c.A (assignInOrder ((assignEach es c.env).map (·.2)) vs) Q E s := by
  induction h with
  | nil => intro M σ s vs Q E f r k; cases r; exact wpAny_pure (k s f)
  | cons i hx hf _ ih =>
    intro M σ s vs Q E f r k
    cases r with | cons r1 r2 =>
    show wpAny _ _ (do holding _ (assign _ c.env _); assignInOrder _ _) _ _ _
    exact wpAny_bind (wpAny_holding (wpAny_assign_Name (f.store hx r1 hf fun s1 f1 => ih M σ s1 _ _ _ f1 r2 k)))
theorem Asgs.len {es : List Expr} {ds : List D} {V V' : List (Option D)} (h : Asgs c es ds V V') : (assignEach es c.env).length = ds.length := by
  induction h with
  | nil => rfl
  | cons _ _ _ _ ih => show (_ :: assignEach _ c.env).length = _; simp [ih]
theorem Asgs.star {es : List Expr} {ds : List D} {V V' : List (Option D)} (h : Asgs c es ds V V') : (assignEach es c.env).findIdx? (·.1) = none := by
  induction h with
  | nil => rfl
  | cons _ _ _ _ ih => show ((false, _) :: assignEach _ c.env).findIdx? _ = _; simp [List.findIdx?_cons, ih]

theorem asg_tup {es : List Expr} {ds : List D} {k : Nat} {pos : Pos} {V' : List (Option D)} (h : Asgs c es ds V V') : Asg c (.Tuple es k pos) (.tup ds) V V' := fun M σ s v Q E f r q => by
  cases r with | @tup a o items n _ h1 h2 h3 h4 =>
  have ht : s.heap.IsTuple a items := ⟨o, (f.step.g.sto _ _ h1).1, h2, n, h3⟩
  rw [arm_assign_Tuple]
  refine wpAny_bind (wpAny_standAt ?_)
  unfold unpack
  rw [h.star, show (assignEach es c.env).length = items.size by rw [h.len, ← h4.len, Array.length_toList]]
  refine wpAny_bind (wpAny_holding (wpAny_size (wpAny_unpackItems_tuple f.rm.handled ht fun h' hx hsz => ?_)))
  exact h.walk M σ { s with heap := h' } items.toList Q E (f.stable (Step.kept f.step.g (ext_all hx) hsz rfl rfl)) h4 q

theorem xs_untup {es : List Expr} {ds : List D} {k : Nat} {tp pos : Pos} {e : Expr} {V' : List (Option D)} (h : Ev c V M e (.tup ds)) (ha : Asgs c es ds V V') (hr : Xs c V' M rest Φ Ψ)
    (hs : swapsWithSole [.Tuple es k tp] e pos.line c.env = pure false := by rfl) (hw : swappedStores [.Tuple es k tp] e c.env = pure none := by rfl) : Xs c V M (.Assign [.Tuple es k tp] e pos :: rest) Φ Ψ :=
  xs_cons fun σ s Q E f kn kr => Assign_Tuple (h.use f fun σ1 s1 v x1 f1 r1 => asg_tup ha M σ1 s1 v _ _ f1 r1 fun s2 f2 => kn _ _ _ _ f2 hr) hs hw

/-- an object made meanwhile is taken as one's own -/
theorem F.claim {σ : Sto} {s s' : Shared} {M' : List Own} (f : F c V M σ s) (f' : F c V M' σ s') (hM : M'.map (·.a) = M.map (·.a)) {a : Addr} {o : Obj} {p : Pr} (ha : s.heap.objs.size ≤ a) (ho : s'.heap.get? a = some o)
    (hc : o.cls ≠ .type "frame") (hp : p σ o) (hm : Own.Mono p) : F c V (⟨a, p⟩ :: M') σ s' := by
  have big := f.step.g.base.big
  have size := f.step.g.base.size
  have lt : ∀ x ∈ M', x.a < s.heap.objs.size := fun x hx => by
    have : x.a ∈ M.map (·.a) := hM ▸ List.mem_map_of_mem hx
    obtain ⟨y, hy, e⟩ := List.mem_map.mp this
    exact e ▸ (f.own y.a (.inr (.inr ⟨y.p, hy⟩))).2.1
  refine ⟨f'.step, f'.rm, f.kind, f.lo, f'.loc, f'.cel, f.nodup, f.names, f.nofree, f.tops, ?_, ?_, f'.celL, ?_, f.locC, f.celC, ?_, ?_, ?_⟩
  · rintro b (h | h | ⟨q, h⟩)
    · exact f'.own b (.inl h)
    · exact f'.own b (.inr (.inl h))
    · rcases List.mem_cons.mp h with e | h
      · cases e
        refine ⟨Nat.le_trans f.step.size ha, Heap.lt_size ho, ?_, fun q => by have : @Eq Nat a 30 := q; omega⟩
        cases e : σ a with
        | none => rfl
        | some x => exact absurd (Heap.lt_size (f.step.g.sto _ _ e).1) (Nat.not_lt.mpr ha)
      · exact f'.own b (.inr (.inr ⟨q, h⟩))
  · intro x hx
    rcases List.mem_cons.mp hx with rfl | hx
    · exact Nat.ne_of_gt (Nat.lt_of_lt_of_le (f.own _ (.inl rfl)).2.1 ha)
    · exact f'.locM x hx
  · intro x hx y b h2
    rcases List.mem_cons.mp hx with rfl | hx
    · exact Nat.ne_of_gt (Nat.lt_of_lt_of_le (f.celL y b h2) ha)
    · exact f'.celF x hx y b h2
  · exact List.pairwise_cons.mpr ⟨fun y hy => Nat.ne_of_gt (Nat.lt_of_lt_of_le (lt y hy) ha), f'.apart⟩
  · intro x hx
    rcases List.mem_cons.mp hx with rfl | hx
    · exact ⟨o, ho, hc, hp⟩
    · exact f'.muta x hx
  · intro x hx
    rcases List.mem_cons.mp hx with rfl | hx
    · exact hm
    · exact f'.mono x hx

/-- items of a dict, two names -/
theorem iters_items {es : List Expr} {k : Nat} {tp : Pos} {kvs : List (Str × D)} : Iters c (.Tuple es k tp) (.view "dict_items" kvs) (kvs.map fun kv => .tup [.str kv.1, kv.2]) := fun A σ s v Q E g rm r q => by
  cases r with | @view va vo _ a _ y1 y2 y3 y4 =>
  cases y4 with | @dict _ o _ es' h1 h2 h3 =>
  obtain ⟨e, ep, x1, x2, x3, x4, x5⟩ := id h2
  have lt : a < s.heap.objs.size := Heap.lt_size (g.sto _ _ h1).1
  have at_ : ∀ {σ' : Sto} {s' : Shared}, G c.K c.N σ' s' → (∃ lo, σ' a = some lo ∧ lo.ExactDict ∧ lo.data = .dict e ep) → s'.heap.DictAt (strKind PR c.w) a es' ep := fun g' ⟨lo, z1, z2, z3⟩ => ⟨lo, e, (g'.sto _ _ z1).1, z2, z3, x3, x4, x5⟩
  have hmono : ∀ (q : Obj → Prop) (n : Nat), Own.Mono (fun σ (o : Obj) => n ≤ kvs.length ∧ q o ∧ (∃ lo, σ a = some lo ∧ lo.ExactDict ∧ lo.data = .dict e ep) ∧ RepE c.w σ kvs es') := fun q n σ₁ σ₂ h o ⟨z0, z1, ⟨lo, z2, z3⟩, z4⟩ => ⟨z0, z1, ⟨lo, h _ _ z2, z3⟩, z4.mono h⟩
  let it : Addr := s.heap.objs.size
  let io : Nat → Value → Value → Obj := fun i ok ov => { cls := .type "dict_itemiterator", dict := none, data := .fields #[.none, .bool false, .ref a, .int i 0, .int es'.length 0, .int ep 0, ok, ov], slots := #[] }
  let oo : Nat → Value → Value → Addr → Obj := fun i ok ov t => { cls := .type "dict_itemiterator", dict := none, data := .fields #[rawInt t, .bool false, .ref a, .int i 0, .int es'.length 0, .int ep 0, ok, ov], slots := #[] }
  refine wpAny_pyIter_items (knd := strKind PR c.w) (ep := ep) (kvs := es') ⟨vo, (g.sto _ _ y1).1, y2, y3⟩ ⟨o, e, (g.sto _ _ h1).1, x1, x2, x3, x4, x5⟩
    (q _ s.toks (fun i σ o => i ≤ kvs.length ∧ (∃ ok ov, o = io i ok ov) ∧ (∃ lo, σ a = some lo ∧ lo.ExactDict ∧ lo.data = .dict e ep) ∧ RepE c.w σ kvs es')
      (fun i v σ o => i + 1 ≤ kvs.length ∧ (∃ ok ov t, v = .ref t ∧ o = oo (i + 1) ok ov t) ∧ (∃ lo, σ a = some lo ∧ lo.ExactDict ∧ lo.data = .dict e ep) ∧ RepE c.w σ kvs es') ?_ ⟨Nat.zero_le _, ⟨.none, .none, rfl⟩, ⟨o, h1, x1, x2⟩, h3⟩ rfl cls_ne (hmono _ _))
  refine ⟨fun V M σ s i Q E f k1 k2 => ?_, fun V M σ s i v Q E f k => ?_, fun V M σ s i Q E f k => ?_⟩
  · obtain ⟨o, ho, hc, hle, ⟨ok, ov, rfl⟩, hlo, hr⟩ := f.muta _ List.mem_cons_self
    have hm := at_ f.step.g hlo
    have hln := hr.len
    refine wpAny_size ?_
    cases hd : (kvs.map fun kv => D.tup [.str kv.1, kv.2])[i]? with
    | some d =>
      obtain ⟨hi, hd'⟩ := List.getElem?_eq_some_iff.mp hd
      have hi' : i < es'.length := by simpa [hln] using hi
      have hk' : kvs[i]? = some kvs[i] := List.getElem?_eq_getElem (by omega)
      have hx : es'[i]? = some (es'[i].1, es'[i].2) := by rw [List.getElem?_eq_getElem hi']
      refine wpAny_pyNext_items_item (knd := strKind PR c.w) ho hm hx fun key h' hkey hout htup hsz' hkeep hsz => ?_
      obtain ⟨t, rfl⟩ := Value.isStrOf_shape hkey
      obtain ⟨ek, rv⟩ := hr.get (k := kvs[i].1) (d := kvs[i].2) (by rw [hk']) hx
      -- first the iterator, then the tuple into the store
      have f1 : F c V (⟨s.heap.objs.size, fun σ o => o = ({ cls := .type "tuple", data := .seq #[.str es'[i].1 t, es'[i].2] } : Obj)⟩ :: ⟨it, fun σ o => i + 1 ≤ kvs.length ∧ (∃ ok ov t, Value.ref s.heap.objs.size = .ref t ∧ o = oo (i + 1) ok ov t) ∧ (∃ lo, σ a = some lo ∧ lo.ExactDict ∧ lo.data = .dict e ep) ∧ RepE c.w σ kvs es'⟩ :: M) σ { s with heap := h' } := by
        refine f.claim (p := fun σ o => o = ({ cls := .type "tuple", data := .seq #[.str es'[i].1 t, es'[i].2] } : Obj)) (f.upd (i := 0) (s' := { s with heap := h' }) (p' := fun σ o => i + 1 ≤ kvs.length ∧ (∃ ok ov t, Value.ref s.heap.objs.size = .ref t ∧ o = oo (i + 1) ok ov t) ∧ (∃ lo, σ a = some lo ∧ lo.ExactDict ∧ lo.data = .dict e ep) ∧ RepE c.w σ kvs es') rfl ⟨fun b o hb e => hkeep b o hb e, hsz⟩ hout cls_ne ⟨by omega, ⟨_, _, _, rfl, rfl⟩, hlo, hr⟩ (hmono _ _) rfl rfl) rfl (Nat.le_refl _) htup cls_ne rfl fun _ _ _ _ h => h
      obtain ⟨o', σ', rfl, ho', rfl, ext, f2⟩ := f1.freeze (i := 0) rfl
      refine k1 d hd _ { s with heap := h' } (.ref s.heap.objs.size) ext f2 ?_
      rw [← hd']
      simp only [List.getElem_map]
      refine .tup put_self rfl rfl ?_
      rw [ek]
      exact .cons .str (.cons (rv.mono ext) .nil)
    | none =>
      refine wpAny_pyNext_items_end (knd := strKind PR c.w) f.rm.handled ho hm ?_ fun h' he hsz => ?_
      · have := List.getElem?_eq_none_iff.mp hd
        exact List.getElem?_eq_none_iff.mpr (by simpa [hln] using this)
      · exact k2 hd { s with heap := h' } (f.gone (s' := { s with heap := h' }) ⟨fun b o hb e => he b o hb e, hsz⟩ rfl rfl)
  · obtain ⟨o, ho, hc, hle, ⟨ok, ov, t, rfl, rfl⟩, hlo, hr⟩ := f.muta _ List.mem_cons_self
    refine wpAny_letOwnedTupleGo_items ho fun h' hit hs => ?_
    refine k { s with heap := h' } (f.upd (i := 0) (p := fun σ o => i + 1 ≤ kvs.length ∧ (∃ ok ov t', Value.ref t = .ref t' ∧ o = oo (i + 1) ok ov t') ∧ (∃ lo, σ a = some lo ∧ lo.ExactDict ∧ lo.data = .dict e ep) ∧ RepE c.w σ kvs es') rfl (.of hs) hit cls_ne ⟨hle, ⟨ok, ov, rfl⟩, hlo, hr⟩ (hmono _ _) rfl rfl)
  · obtain ⟨o, ho, hc, hle, ⟨ok, ov, rfl⟩, hlo, hr⟩ := f.muta _ List.mem_cons_self
    exact kcp_self ho k
end
end Mine
end
section
open PySem PySem.W PyProof.Rows PySem.Calls
set_option Elab.async false
set_option maxRecDepth 100000
set_option autoImplicit false
set_option linter.unusedVariables false
namespace Mine

section
variable {c : Cx} {V : List (Option D)} {M : List Own} {Φ : Nx} {Ψ : Rt} {rest : List Stmt}

theorem EvL.len {es : List Expr} {ds : List D} (h : EvL c V M es ds) : ds.length = es.length := by
  induction h with
  | nil => rfl
  | cons _ _ _ ih => simp [ih]

theorem ev_tuple {es : List Expr} {ds : List D} {k : Nat} {pos : Pos} (h : EvL c V M es ds) (hsz : ds.length ≤ 1000 := by first | exact Nat.le_of_ble_eq_true rfl | (simp; done)) : Ev c V M (.Tuple es k pos) (.tup ds) := fun σ s Q E f q =>
  Tuple_ (h.walk pos σ s _ E f fun σ1 s1 vs x1 r1 => wpAny_newObj_type (q _ _ _ (x1.trans (Step.push x1.g rfl cls_ne)) (.tup put_self rfl rfl (by
    simp only [List.toList_toArray]
    exact r1.mono (Step.push x1.g (o := { cls := .type "tuple", data := .seq vs.toArray }) rfl cls_ne).ext))) (by show vs.toArray.size ≤ sizeLine; rw [List.size_toArray, r1.len, sizeLine_eq]; omega))
theorem ev_list {es : List Expr} {ds : List D} {pos : Pos} (h : EvL c V M es ds) (hsz : ds.length ≤ 1000 := by first | exact Nat.le_of_ble_eq_true rfl | (simp; done)) : Ev c V M (.List es pos) (.list ds) := fun σ s Q E f q =>
  List_ (h.walk pos σ s _ E f fun σ1 s1 vs x1 r1 => wpAny_newObj_type (q _ _ _ (x1.trans (Step.push x1.g rfl cls_ne)) (.list put_self rfl rfl (by
    simp only [List.toList_toArray]
    exact r1.mono (Step.push x1.g (o := { cls := .type "list", data := .seq vs.toArray }) rfl cls_ne).ext))) (by show vs.toArray.size ≤ sizeLine; rw [List.size_toArray, r1.len, sizeLine_eq]; omega))

noncomputable def D.meth : D → Bool
  | .str _ | .bytes _ | .dict _ => true
  | _ => false
theorem Rep.nodict {K : Frag} {N : Nat} {P : World} {σ : Sto} {d : D} {v : Value} {s : Shared} (r : Rep P σ d v) (g : G K N σ s) (h : d.meth = true) : ∀ a, v = .ref a → ∃ ob, s.heap.get? a = some ob ∧ ob.dict = none := by
  cases r with
  | str => intro a e; cases e
  | bytes => intro a e; cases e
  | dict h1 h2 => intro a e; cases e; obtain ⟨es, ep, h3, _⟩ := h2; exact ⟨_, (g.sto _ _ h1).1, h3.2.1⟩
  | _ => cases h

theorem backTo_all {es : List Expr} {ds : List D} (h : EvL c V M es ds) (pos : Pos) : (backTo pos (starEach es c.env)).all (fun x => !x.1) = true := by
  induction h with
  | nil => rfl
  | cons hs _ _ ih => rw [starEach_cons hs]; exact ih

/-- a method of a built-in type -/
theorem ev_method {o : Expr} {name : Str} {apos pos : Pos} {es : List Expr} {d r : D} {ds : List D} {T id : String} {k : Nat} (h : Ev c V M o d) (hT : d.ty = some T) (hm : d.meth = true) (pa : PlainAttrs T) (slot : Slot T name id)
    (hty : typeOf (.builtin id) = pure (.type "method_descriptor")) (ha : EvL c V M es ds) (hf : Fun c.K c.w c.N k (.builtin id) (d :: ds) r) (hk : k ≤ c.k)
    (hbase : attributeBase o name c.env (eval o c.env) = eval o c.env := by rfl) (hn : es.length < 20 := by exact Nat.le_of_ble_eq_true rfl) (hline : (apos.endLine == pos.line) = true := by rfl) : Ev c V M (.Call (.Attribute o name apos) es [] pos) r := fun σ s Q E f q => by
  refine wpAny_Call_method hbase ?_ hline pa slot hty (h.use f fun σ1 s1 v x1 f1 r1 => ⟨r1.ty f1.step.g hT, r1.nodict f1.step.g hm, ?_⟩)
  · rw [backTo_all ha pos]
    show (true && true && decide (es.length + 0 + 0 < 30)) = true
    simp; omega
  · exact call_args .blt ha (dz := [d]) hf hk f1 (.cons r1 .nil) fun σ2 s2 u x2 r2 => q _ _ _ (x1.trans x2) r2

/-- o[i] -/
theorem ev_sub {o i : Expr} {pos : Pos} {d1 d2 d : D} {T id : String} (h1 : Ev c V M o d1) (h2 : Ev c V M i d2) (hT : d1.ty = some T) (hl : typeLookup (.type T) "__getitem__" = pure (some (.builtin id)))
    (h : P2 c.K c.w c.N getItem d1 d2 d) (hs : ∀ a b, subscripted i false a b = operate [a, b] (getItem a b) := by intro _ _; with_unfolding_all rfl) : Ev c V M (.Subscript o i pos) d := fun σ s Q E f q =>
  Subscript_ (h1.use f fun σ1 s1 v1 x1 f1 r1 => h2.use f1 fun σ2 s2 v2 x2 f2 r2 => tail_any ((r1.mono x2.ext).ty f2.step.g hT) hl
    (h _ σ2 s2 v1 v2 _ _ f2.step.g (f2.rm.mono (Nat.zero_le _)) (r1.mono x2.ext) r2 fun σ3 s3 v x3 r3 => q _ _ _ ((x1.trans x2).trans x3) r3) (hs v1 v2))

/-- a bound of a slice -/
noncomputable def EvP (c : Cx) (V : List (Option D)) (M : List Own) (e : Option Expr) (l : Option Int) : Prop :=
  ∀ (σ : Sto) (s : Shared) (Q : Value → Shared → Prop) (E : Value → Shared → Prop), F c V M σ s →
    (∀ σ' s' v, Step c.K c.N σ s σ' s' → IsPart v l → Q v s') → wpAny (model PR c.w) c.A (evalPart e c.env) Q E s
theorem evp_none : EvP c V M none none := fun σ s Q E f q => wpAny_pure (q _ _ _ (.refl f.step.g) .none)
theorem evp_some {e : Expr} {i : Int} (h : Ev c V M e (.int i)) : EvP c V M (some e) (some i) := fun σ s Q E f q => h.use f fun σ1 s1 v x1 f1 r1 => by cases r1; exact q _ _ _ x1 (.int _ _)

noncomputable def Psl (K : Frag) (w : World) (N : Nat) (d : D) (l u : Option Int) (r : D) : Prop :=
  ∀ (A : Around) (σ : Sto) (s : Shared) (v vl vu : Value) (sl : Addr) (Q : Value → Shared → Prop) (E : Value → Shared → Prop), G K N σ s → Rm N A 0 s.heap → Rep w σ d v → IsPart vl l → IsPart vu u → s.heap.IsSliceOf sl vl vu .none →
    (∀ σ' s' v, Step K N σ s σ' s' → Rep w σ' r v → Q v s') → wpAny (model PR w) A (getItem v (.ref sl)) Q E s

theorem ev_slice {o : Expr} {lo up : Option Expr} {p pos : Pos} {d r : D} {l u : Option Int} {T id : String} (h1 : Ev c V M o d) (h2 : EvP c V M lo l) (h3 : EvP c V M up u) (hT : d.ty = some T)
    (hl : typeLookup (.type T) "__getitem__" = pure (some (.builtin id))) (h : Psl c.K c.w c.N d l u r) : Ev c V M (.Subscript o (.Slice lo up none p) pos) r := fun σ s Q E f q => by
  refine Subscript_ (h1.use f fun σ1 s1 v1 x1 f1 r1 => wpAny_Slice (h2 σ1 s1 _ _ f1 fun σ2 s2 vl x2 pl => h3 σ2 s2 _ _ (f1.stable x2) fun σ3 s3 vu x3 pu => ?_))
  have f3 := (f1.stable x2).stable x3
  have x4 := Step.pushOff f3.step.g { cls := .type "slice", data := .fields #[vl, vu, .none] }
  have f4 := f3.stable x4
  have r4 := (r1.mono x2.ext).mono x3.ext
  rw [evalPart_none]
  refine wpAny_pure (tail_any (r4.ty f4.step.g hT) hl (h _ σ3 _ v1 vl vu _ _ _ f4.step.g (f4.rm.mono (Nat.zero_le _)) r4 pl pu (Heap.IsSliceOf.new ..) fun σ5 s5 v x5 r5 => ?_) (by with_unfolding_all rfl))
  exact q _ _ _ ((((x1.trans x2).trans x3).trans x4).trans x5) r5

end

section
variable {K : Frag} {w : World} {N : Nat}

/-- from a rule that lays one new int -/
theorem p2_int {t : Value → Value → Sem Value} {a b r : Int} (h : ∀ (A : Around) (s : Shared) (ta tb : Tok) (Q : Value → Shared → Prop) (E : Value → Shared → Prop), (∀ t' k, Q (.int r t') { s with toks := k }) → wpAny (model PR w) A (t (.int a ta) (.int b tb)) Q E s) :
    P2 K w N t (.int a) (.int b) (.int r) := fun A σ s v1 v2 Q E g rm r1 r2 q => by
  cases r1; cases r2; exact h A s _ _ Q E fun t' k => q _ _ _ (.tok g _) .int
theorem p2_bool {t : Value → Value → Sem Value} {a b : Int} {r : Bool} (h : ∀ (A : Around) (s : Shared) (ta tb : Tok) (Q : Value → Shared → Prop) (E : Value → Shared → Prop), (∀ k, Q (.bool r) { s with toks := k }) → wpAny (model PR w) A (t (.int a ta) (.int b tb)) Q E s) :
    P2 K w N t (.int a) (.int b) (.bool r) := fun A σ s v1 v2 Q E g rm r1 r2 q => by
  cases r1; cases r2; exact h A s _ _ Q E fun k => q _ _ _ (.tok g _) .val

theorem p2_add {a b : Int} : P2 K w N (binaryOp .Add) (.int a) (.int b) (.int (a + b)) := p2_int fun A s ta tb Q E q => wpAny_add_int (q _ _)
theorem p2_sub {a b : Int} : P2 K w N (binaryOp .Sub) (.int a) (.int b) (.int (a - b)) := p2_int fun A s ta tb Q E q => sub_int (q _ _)
theorem p2_mul {a b : Int} (h : IntMulOk a b) : P2 K w N (binaryOp .Mult) (.int a) (.int b) (.int (a * b)) := p2_int fun A s ta tb Q E q => mul_int (q _ _) h
theorem p2_mod {a b : Int} (h : b ≠ 0) : P2 K w N (binaryOp .Mod) (.int a) (.int b) (.int (a.fmod b)) := p2_int fun A s ta tb Q E q => AutoIntOps.mod_1 (by simpa using h) (q _ _)
theorem p2_div {a b : Int} (h : b ≠ 0) (h2 : Builtin.divisionGoesByPylong a b = false) : P2 K w N (binaryOp .FloorDiv) (.int a) (.int b) (.int (a.fdiv b)) := p2_int fun A s ta tb Q E q => AutoIntOps.floordiv_1 (by simpa using h) (by simp [h2]) (q _ _)
end
end Mine
end
section
open PySem PySem.W PyProof.Rows PySem.Calls
set_option Elab.async false
set_option maxRecDepth 100000
set_option autoImplicit false
set_option linter.unusedVariables false
namespace Mine

section
variable {K : Frag} {w : World} {N k : Nat}

theorem p2_iadd {a b : Int} : P2 K w N (inplaceOp .Add) (.int a) (.int b) (.int (a + b)) := p2_int fun A s ta tb Q E q => wpAny_iadd_int (q _ _)
theorem p2_pow {a b : Int} (h0 : 0 ≤ b) (h : (Builtin.Int.intBits a : Int) * b ≤ 2 ^ 27) : P2 K w N (binaryOp .Pow) (.int a) (.int b) (.int (a ^ b.toNat)) := p2_int fun A s ta tb Q E q => pow_int h0 h (q _ _)
theorem p2_shl {a b : Int} (h0 : 0 ≤ b) (h1 : b ≤ 1000000) (h2 : a.natAbs < 2 ^ 64) : P2 K w N (binaryOp .LShift) (.int a) (.int b) (.int (a * 2 ^ b.toNat)) := p2_int fun A s ta tb Q E q => lshift_int_small h0 h1 h2 (q _ _)
theorem p2_shr {a b : Int} (h0 : 0 ≤ b) : P2 K w N (binaryOp .RShift) (.int a) (.int b) (.int (a.fdiv (2 ^ b.toNat))) := p2_int fun A s ta tb Q E q => rshift_int h0 (q _ _)
theorem p2_or {a b : Int} : P2 K w N (binaryOp .BitOr) (.int a) (.int b) (.int (Builtin.bitOr a b)) := p2_int fun A s ta tb Q E q => or_int (q _ _)
theorem p2_and {a b : Int} : P2 K w N (binaryOp .BitAnd) (.int a) (.int b) (.int (Builtin.bitAnd a b)) := p2_int fun A s ta tb Q E q => and_int (q _ _)
theorem p2_eq {a b : Int} : P2 K w N (compareOp .Eq) (.int a) (.int b) (.bool (a == b)) := p2_bool fun A s ta tb Q E q => PyProof.Rows.eq_int (q s.toks)
theorem p2_lt {a b : Int} : P2 K w N (compareOp .Lt) (.int a) (.int b) (.bool (decide (a < b))) := p2_bool fun A s ta tb Q E q => PyProof.Rows.lt_int (q s.toks)
theorem p2_gt {a b : Int} : P2 K w N (compareOp .Gt) (.int a) (.int b) (.bool (decide (b < a))) := p2_bool fun A s ta tb Q E q => PyProof.Rows.gt_int (q s.toks)
theorem p2_ge {a b : Int} : P2 K w N (compareOp .GtE) (.int a) (.int b) (.bool (decide (b ≤ a))) := p2_bool fun A s ta tb Q E q => PyProof.Rows.ge_int (q s.toks)

theorem p2_addstr {x y : Str} (h : x.length + y.length ≤ 16777216) : P2 K w N (binaryOp .Add) (.str x) (.str y) (.str (x ++ y)) := fun A σ s v1 v2 Q E g rm r1 r2 q => by
  cases r1; cases r2; exact KOpn.add h fun t' k _ => q _ _ _ (.tok g _) .str
theorem p2_eqstr {x y : Str} : P2 K w N (compareOp .Eq) (.str x) (.str y) (.bool (x == y)) := fun A σ s v1 v2 Q E g rm r1 r2 q => by
  cases r1; cases r2; exact PyProof.Rows.eq_str (q _ _ _ (.refl g) .val)
theorem p2_instr {x y : Str} : P2 K w N (compareOp .In) (.str y) (.str x) (.bool !(Builtin.Str.occurrences x y 0 x.length 1).isEmpty) := fun A σ s v1 v2 Q E g rm r1 r2 q => by
  cases r1; cases r2; exact PyProof.Rows.in_str (q _ _ _ (.refl g) .val)
theorem p2_ninstr {x y : Str} : P2 K w N (compareOp .NotIn) (.str y) (.str x) (.bool (Builtin.Str.occurrences x y 0 x.length 1).isEmpty) := fun A σ s v1 v2 Q E g rm r1 r2 q => by
  cases r1; cases r2; exact P.notIn_str (q _ _ _ (.refl g) (by rw [Bool.not_not]; exact .val))

theorem RepL.app {P : World} {σ : Sto} {ds' : List D} {vs' : List Value} (r' : RepL P σ ds' vs') : ∀ {ds vs}, RepL P σ ds vs → RepL P σ (ds ++ ds') (vs ++ vs')
  | _, _, .nil => r'
  | _, _, .cons r1 r2 => .cons r1 (RepL.app r' r2)

theorem p2_addlist {ds ds' : List D} (h : ds.length + ds'.length ≤ 16777216) : P2 K w N (binaryOp .Add) (.list ds) (.list ds') (.list (ds ++ ds')) := fun A σ s v1 v2 Q E g rm r1 r2 q => by
  cases r1 with | @list a o items n _ h1 h2 h3 h4 =>
  cases r2 with | @list b o' items' n' _ g1 g2 g3 g4 =>
  obtain ⟨cls, dd, data, sl⟩ := o
  obtain ⟨cls2, dd2, data2, sl2⟩ := o'
  simp only at h2 h3 g2 g3
  subst h2 h3 g2 g3
  have l1 := h4.len
  have l2 := g4.len
  rw [Array.length_toList] at l1 l2
  have x := Step.push g (o := { cls := .type "list", data := .seq (items ++ items') }) rfl cls_ne
  refine concat_meets ⟨_, (g.sto _ _ h1).1, rfl⟩ ⟨_, (g.sto _ _ g1).1, rfl⟩ noFill_list_add seq_list_add PySem.F.slot_list_add PySem.F.entry_list_add (PySem.F.args_list_add_2 _ _)
    (list_addW a b items items' n n' dd dd2 sl sl2 (by rw [sizeLine_eq]; omega)) ⟨(g.sto _ _ h1).1, (g.sto _ _ g1).1, q _ _ _ x (.list put_self rfl rfl ?_)⟩
  rw [Array.toList_append]
  exact RepL.app (g4.mono x.ext) (h4.mono x.ext)

noncomputable def look (kvs : List (Str × D)) (x : Str) : Option D := (kvs.find? fun kv => kv.1 = x).map (·.2)
theorem RepE.look {P : World} {σ : Sto} {x : Str} : ∀ {ds vs}, RepE P σ ds vs → (∀ d, look ds x = some d → ∃ v, valueAt vs x = some v ∧ Rep P σ d v) ∧ (look ds x = none → valueAt vs x = none)
  | _, _, .nil => ⟨fun d h => by simp [Mine.look] at h, fun _ => rfl⟩
  | _, _, .cons (k := k) (d := d) (v := v) (kvs := kvs) (es := es) r rs => by
    have ih := RepE.look (x := x) rs
    by_cases e : k = x
    · subst e
      refine ⟨fun d' h => ?_, fun h => ?_⟩
      · simp [Mine.look] at h; subst h; exact ⟨v, by simp [valueAt], r⟩
      · simp [Mine.look] at h
    · have e1 : Mine.look ((k, d) :: kvs) x = Mine.look kvs x := by simp [Mine.look, List.find?_cons, e]
      have e2 : valueAt ((k, v) :: es) x = valueAt es x := by simp [valueAt, List.find?_cons, e]
      rw [e1, e2]; exact ih

theorem dictOf {σ : Sto} {s : Shared} {a : Addr} {o : Obj} {es : List (Str × Value)} (ho : s.heap.get? a = some o) (h : o.IsDictOf (strKind PR w) es) : s.heap.DictOf (strKind PR w) a es := Heap.dictOf_iff.mpr ⟨o, ho, h⟩

theorem p2_getdict {kvs : List (Str × D)} {x : Str} {d : D} (h : look kvs x = some d) : P2 K w N getItem (.dict kvs) (.str x) d := fun A σ s v1 v2 Q E g rm r1 r2 q => by
  cases r1 with | @dict a o _ es h1 h2 h3 =>
  cases r2
  obtain ⟨v, hv, r⟩ := h3.look.1 d h
  exact wpAny_getItem_of (knd := strKind PR w) (k := x) (strKind_is ..) (dictOf (g.sto _ _ h1).1 h2 (σ := σ)).mapOf hv (q _ _ _ (.tok g _) r)

theorem p2_getlist {ds : List D} {i : Int} {d : D} (h0 : 0 ≤ i) (h : ds[i.toNat]? = some d) (hsz : ds.length ≤ 16777216) : P2 K w N getItem (.list ds) (.int i) d := fun A σ s v1 v2 Q E g rm r1 r2 q => by
  cases r1 with | @list a o items n _ h1 h2 h3 h4 =>
  cases r2
  obtain ⟨lt, _⟩ := List.getElem?_eq_some_iff.mp h
  have l1 := h4.len
  rw [Array.length_toList] at l1
  refine wpAny_getItem_list (x := items[i.toNat]'(by omega)) ⟨o, (g.sto _ _ h1).1, h2, n, h3⟩ h0 (by omega) (by simp) (q _ _ _ (.refl g) (h4.get h (by simp)))

theorem seqIndex_of {i : Int} {n : Nat} (h0 : 0 ≤ i) (h1 : i.toNat < n) : seqIndex? i n = some i.toNat := by
  unfold seqIndex?
  have h2 : ¬ i < 0 := by omega
  have h3 : i < (n : Int) := by omega
  simp [h2, h0, h3]
theorem p2_gettup {ds : List D} {i : Nat} {d : D} (h : ds[i]? = some d) (hsz : ds.length ≤ 1000) : P2 K w N getItem (.tup ds) (.int i) d := fun A σ s v1 v2 Q E g rm r1 r2 q => by
  cases r1 with | @tup a o items n _ h1 h2 h3 h4 =>
  cases r2
  obtain ⟨lt, _⟩ := List.getElem?_eq_some_iff.mp h
  have l1 := h4.len
  rw [Array.length_toList] at l1
  have ht : IsTup s.heap a items := ⟨o, (g.sto _ _ h1).1, h2, n, h3⟩
  exact PyProof.Rows.getItem_tuple ht (k := (i : Int)) (j := i) (by omega) (by omega) (seqIndex_of (by omega) (by omega)) (by simp : items[i]? = some (items[i]'(by omega))) (q _ _ _ (.refl g) (h4.get h (by simp)))

theorem p2_getbytes {l : List UInt8} {i : Int} (h0 : 0 ≤ i) (h1 : i < l.length) (hfit : l.length ≤ 16777216) : P2 K w N getItem (.bytes l) (.int i) (.int (l.getD i.toNat 0).toNat) := fun A σ s v1 v2 Q E g rm r1 r2 q => by
  cases r1; cases r2; exact getItem_bytes (by omega) h0 h1 (q _ _ _ (.tok g _) .int)

theorem p2_getstr {x : Str} {i : Int} {c : Nat} (h0 : 0 ≤ i) (h : x.cps[i.toNat]? = some c) (hfit : x.length ≤ 16777216) : P2 K w N getItem (.str x) (.int i) (.str ⟨#[c]⟩) := fun A σ s v1 v2 Q E g rm r1 r2 q => by
  cases r1; cases r2
  obtain ⟨lt, _⟩ := Array.getElem?_eq_some_iff.mp h
  have lt' : i.toNat < x.length := lt
  refine P.getItem_str (by simp; omega) ?_ (q _ _ _ (.tok g _) .str)
  rw [seqIndex_of h0 lt']; exact h

theorem fun_len_str {x : Str} (h : x.length ≤ 16777216) : Fun K w N k (.builtin "len") [.str x] (.int x.length) := fun A σ s vs Q E g rm r q => by
  cases r with | cons r1 r2 => cases r2; cases r1; exact P.len_str (by omega) (q _ _ _ (.tok g _) .int)
theorem fun_len_bytes {l : List UInt8} (h : l.length ≤ 16777216) : Fun K w N k (.builtin "len") [.bytes l] (.int l.length) := fun A σ s vs Q E g rm r q => by
  cases r with | cons r1 r2 => cases r2; cases r1; exact len_bytes (by rw [List.size_toArray]; omega) (q _ _ _ (.tok g _) (by rw [List.size_toArray]; exact .int))
theorem fun_len_list {ds : List D} (h : ds.length ≤ 16777216) : Fun K w N k (.builtin "len") [.list ds] (.int ds.length) := fun A σ s vs Q E g rm r q => by
  cases r with | cons r1 r2 =>
  cases r2
  cases r1 with | @list a o items n _ h1 h2 h3 h4 =>
  have l1 := h4.len
  rw [Array.length_toList] at l1
  exact PyProof.Rows.len_list ⟨o, (g.sto _ _ h1).1, h2, n, h3⟩ (by rw [l1]; omega) (q _ _ _ (.tok g _) (by rw [l1]; exact .int))
theorem fun_range1 {n : Int} : Fun K w N k (.type "range") [.int n] (.range 0 n 1) := fun A σ s vs Q E g rm r q => by
  cases r with | cons r1 r2 =>
  cases r2; cases r1 with | @int _ t =>
  exact call_range_1 (q _ _ _ ((Step.push g (o := { cls := .type "range", data := .fields #[.int 0 s.toks, .int n t, .int 1 (s.toks + 1)] }) rfl cls_ne).trans (.tok (Step.push g rfl cls_ne).g _)) (.range put_self))
theorem fun_range3 {a b c : Int} (h : c ≠ 0) (hp : Builtin.divisionGoesByPylong (b - a) c = false) : Fun K w N k (.type "range") [.int a, .int b, .int c] (.range a b c) := fun A σ s vs Q E g rm r q => by
  cases r with | cons r1 r2 =>
  cases r2 with | cons r2 r3 =>
  cases r3 with | cons r3 r4 =>
  cases r4; cases r1; cases r2; cases r3
  exact call_range_3 h (q _ _ _ (Step.push g rfl cls_ne) (.range put_self)) (.inl hp)
theorem fun_isi_int {a : Int} : Fun K w N k (.builtin "isinstance") [.int a, .val (.type "tuple")] (.bool false) := fun A σ s vs Q E g rm r q => by
  cases r with | cons r1 r2 =>
  cases r2 with | cons r2 r3 =>
  cases r3; cases r1; cases r2
  exact IsiPair.int_tuple (q _ _ _ (.tok g _) .val)
theorem fun_isi_tup {ds : List D} : Fun K w N k (.builtin "isinstance") [.tup ds, .val (.type "tuple")] (.bool true) := fun A σ s vs Q E g rm r q => by
  cases r with | cons r1 r2 =>
  cases r2 with | cons r2 r3 =>
  cases r3; cases r2
  exact call_isinstance (isinstance_true (Tx := "tuple") F.isi_meta_tuple F.sub_tuple_tuple) ⟨r1.ty g rfl, q _ _ _ (.refl g) .val⟩
end
end Mine
end
section
open PySem PySem.W PyProof.Rows PySem.Calls
set_option Elab.async false
set_option maxRecDepth 100000
set_option autoImplicit false
set_option linter.unusedVariables false
namespace Mine

noncomputable abbrev nums (ns : List Int) : List D := ns.map .int

theorem preSum_list (ns : List Int) : ∀ n, n ≤ ns.length → preSum (fun i => ns.getD i 0) n = (ns.take n).sum
  | 0, _ => by simp [preSum]
  | n + 1, h => by
    have e : ns[n]? = some ns[n] := List.getElem?_eq_getElem (by omega)
    rw [preSum, preSum_list ns n (by omega), List.take_add_one, e, List.sum_append]
    simp [e]

theorem RepL.nums {P : World} {σ : Sto} : ∀ {ns : List Int} {vs}, RepL P σ (Mine.nums ns) vs → IntsAre vs ns
  | [], _, .nil => .nil
  | n :: ns, _, .cons r rs => by cases r; exact .cons _ _ (RepL.nums rs)

section
variable {K : Frag} {w : World} {N k : Nat}

theorem fun_sum_list {ns : List Int} : Fun K w N k (.builtin "sum") [.list (nums ns)] (.int ns.sum) := fun A σ s vs Q E g rm r q => by
  cases r with | cons r1 r2 =>
  cases r2
  cases r1 with | @list a o items n _ h1 h2 h3 h4 =>
  have hl : s.heap.IsList a items := ⟨o, (g.sto _ _ h1).1, h2, n, h3⟩
  have lt : a < s.heap.objs.size := Heap.lt_size (g.sto _ _ h1).1
  have ln := h4.len
  have hi := h4.nums
  rw [Array.length_toList, List.length_map] at ln
  refine wpAny_size (call_sum_walkAnyS (wpAny_pyIter_list hl ⟨s.heap.objs.size, [s.heap.objs.size, a], [s.heap.objs.size], _, items.size, _, _, fun i => ns.getD i 0, rfl, (Walks.list (A := A.in1) rm.handled _ a (Nat.ne_of_lt lt) items).toS,
    ⟨⟨_, Heap.get?_push_size _ rfl, rfl, rfl⟩, hl.push _⟩, fun b hb => ?_, fun i v hv => ?_, fun s' t' hm hsz => ?_⟩))
  · rw [Heap.size_push]
    simp at hb
    rcases hb with rfl | rfl
    · exact Nat.lt_succ_self _
    · exact Nat.lt_succ_of_lt lt
  · obtain ⟨m, t, rfl, hn⟩ := IntsAre.at hi i v (by simpa using hv)
    exact ⟨t, by simp [hn]⟩
  · rw [preSum_list ns items.size (by omega), ln, List.take_length]
    exact q _ _ _ (Step.kept g (fun b o e => hm.heap b o (by simp; exact Nat.ne_of_lt (Heap.lt_size e)) (Heap.get?_push_of_some _ e)) hsz hm.gens hm.os) .int

theorem fun_sum_bytes {l : List UInt8} : Fun K w N k (.builtin "sum") [.bytes l] (.int (l.map fun c => (c.toNat : Int)).sum) := fun A σ s vs Q E g rm r q => by
  cases r with | cons r1 r2 =>
  cases r2
  cases r1 with | @bytes _ t =>
  refine wpAny_size (call_sum_walkAnyS (KBw.pyIter_bytes ⟨s.heap.objs.size, [s.heap.objs.size], [s.heap.objs.size], _, l.toArray.size, _, _, fun i => (l.map fun c => (c.toNat : Int)).getD i 0, rfl, (KBw.walks (A := A.in1) rm.handled _ _ t).toS,
    ⟨_, Heap.get?_push_size _ rfl, rfl, rfl⟩, fun b hb => ?_, fun i v hv => ?_, fun s' t' hm hsz => ?_⟩))
  · rw [Heap.size_push]
    simp at hb
    subst hb
    exact Nat.lt_succ_self _
  · obtain ⟨c, u, hc, rfl⟩ := hv
    have hc' : l[i]? = some c := by simpa using hc
    exact ⟨u, by simp [hc']⟩
  · rw [preSum_list _ _ (by simp), List.take_of_length_le (by simp)]
    exact q _ _ _ (Step.kept g (fun b o e => hm.heap b o (by simp; exact Nat.ne_of_lt (Heap.lt_size e)) (Heap.get?_push_of_some _ e)) hsz hm.gens hm.os) .int

theorem fun_bytes {l : List UInt8} (h : l.length ≤ 16777216) : Fun K w N k (.type "bytes") [.list (octs l)] (.bytes l) := fun A σ s vs Q E g rm r q => by
  cases r with | cons r1 r2 =>
  cases r2
  cases r1 with | @list a o items n _ h1 h2 h3 h4 =>
  have hl : s.heap.IsList a items.toList.toArray := ⟨o, (g.sto _ _ h1).1, h2, n, by simpa using h3⟩
  have h4' : RepL w σ (nums (l.map fun c => (c.toNat : Int))) items.toList := by unfold nums; rw [List.map_map]; exact h4
  have ln := h4.len
  rw [List.length_map] at ln
  have e : byteArr (l.map fun c => (c.toNat : Int)) = l.toArray := by
    unfold byteArr
    congr 1
    rw [List.map_map]
    conv => rhs; rw [← List.map_id l]
    refine List.map_congr_left fun c _ => ?_
    simp
  refine wpAny_size (call_bytes_ints hl h4'.nums (fun n hn => ?_) (by rw [ln, sizeLine_eq]; omega) rm.handled fun h' t k hk hsz => q _ _ _ (Step.kept g hk hsz rfl rfl) (by rw [e]; exact .bytes))
  obtain ⟨c, _, rfl⟩ := List.mem_map.mp hn
  have := c.toNat_lt
  exact ⟨by omega, by omega⟩

theorem fun_items {kvs : List (Str × D)} : Fun K w N k (.builtin "dict.items") [.dict kvs] (.view "dict_items" kvs) := fun A σ s vs Q E g rm r q => by
  cases r with | cons r1 r2 =>
  cases r2
  have r1' := r1
  cases r1 with | @dict a o _ es h1 h2 h3 =>
  have hm := dictOf (σ := σ) (g.sto _ _ h1).1 h2
  have x := Step.push g (o := { cls := .type "dict_items", data := .fields #[.ref a] }) rfl cls_ne
  exact call_meetsIn PySem.F.slot_dict_items hm.typeIs PySem.F.entry_dict_items (PySem.F.args_dict_items_1 _) (meets_dict_items (strKind PR w) a (g.sto _ _ h1).2.1.2) ⟨⟨_, hm⟩, q _ _ _ x (.view put_self rfl rfl (r1'.mono x.ext))⟩
theorem fun_values {kvs : List (Str × D)} : Fun K w N k (.builtin "dict.values") [.dict kvs] (.view "dict_values" kvs) := fun A σ s vs Q E g rm r q => by
  cases r with | cons r1 r2 =>
  cases r2
  have r1' := r1
  cases r1 with | @dict a o _ es h1 h2 h3 =>
  have hm := dictOf (σ := σ) (g.sto _ _ h1).1 h2
  have x := Step.push g (o := { cls := .type "dict_values", data := .fields #[.ref a] }) rfl cls_ne
  exact call_meetsIn PySem.F.slot_dict_values hm.typeIs PySem.F.entry_dict_values (PySem.F.args_dict_values_1 _) (meets_dict_values (strKind PR w) a (g.sto _ _ h1).2.1.2) ⟨⟨_, hm⟩, q _ _ _ x (.view put_self rfl rfl (r1'.mono x.ext))⟩

theorem fun_count {x y : Str} : Fun K w N k (.builtin "str.count") [.str x, .str y] (.int (Builtin.Str.occurrences x y 0 x.length (x.length + 1)).length) := fun A σ s vs Q E g rm r q => by
  cases r with | cons r1 r2 =>
  cases r2 with | cons r2 r3 =>
  cases r3; cases r1; cases r2
  exact call_gives PySem.F.slot_str_count (typeIs_str _ _ _) PySem.F.entry_str_count (PySem.F.args_str_count_2 _ _) (gives_str_count x y _ _) (q _ _ _ (.tok g _) .int)

end
end Mine
end
section
open PySem PySem.W PyProof.Rows PySem.Calls
set_option Elab.async false
set_option maxRecDepth 100000
set_option autoImplicit false
set_option linter.unusedVariables false
set_option linter.unusedSimpArgs false
namespace Mine
section
open PySem.Builtin
theorem narrow_eq (x : PySem.Str) (hx : ∀ c ∈ x.cps, c < 128) (hz : x.length ≤ sizeLine) (v : Value) : _codecs.encodeNarrow "str.encode" _codecs.asciiCodec none v x = pure (x.cps.map Nat.toUInt8) := by
  unfold _codecs.encodeNarrow
  simp only [Std.Legacy.Range.forIn_eq_forIn_range', Std.Legacy.Range.size]
  cases hn : x.length with
  | zero =>
    have : x.cps = #[] := Array.eq_empty_of_size_eq_zero hn
    simp [this]
  | succ n =>
    have hs : x.cps.size = n + 1 := hn
    have h0 : x.cps[0]? = some x.cps[0] := by simp [hs]
    have hb : ¬ (128 ≤ x.cps[0]) := Nat.not_le.mpr (hx _ (Array.getElem_mem _))
    have hf : (x.cps.findIdx? fun y => decide (y ≥ 128)) = none := by
      rw [Array.findIdx?_eq_none_iff]
      intro c hc
      simpa using hx c hc
    simp [List.range'_succ, h0, hb, _codecs.asciiCodec, hf]
    have hlt : x.cps[0] < 128 := by omega
    rw [if_pos hlt]
    have e1 : (Array.map UInt8.ofNat x.cps).extract 0 x.cps.size = Array.map UInt8.ofNat x.cps := by
      rw [show x.cps.size = (Array.map UInt8.ofNat x.cps).size by simp, Array.extract_size]
    rw [e1]
    simp only [pure_bind]
    cases n with
    | zero => simp
    | succ m =>
      have hz' : ¬ sizeLine < x.cps.size := Nat.not_lt.mpr hz
      simp [List.range'_succ, hz']

theorem loop_ascii {S : Type} (b : Array UInt8) (f : Nat → Nat × Array Nat × S → Sem (ForInStep (Nat × Array Nat × S)))
    (hf : ∀ x p out st, p < b.size → out.size ≤ sizeLine → f x (p, out, st) = pure (.yield (p + 1, out.push (b.getD p 0).toNat, st))) (hz : b.size ≤ sizeLine) (st : S) :
    ∀ (k j p : Nat) (out : Array Nat), p + k = b.size → out.size = p → forIn (List.range' j k) (p, out, st) f = pure (b.size, out ++ ((b.toList.drop p).map (·.toNat)).toArray, st)
  | 0, j, p, out, hp, ho => by
    have : b.toList.drop p = [] := List.drop_eq_nil_iff.mpr (by simp; omega)
    have e : p = b.size := by omega
    rw [this, ← e]; simp
  | k + 1, j, p, out, hp, ho => by
    have hlt : p < b.size := by omega
    rw [List.range'_succ, List.forIn_cons, hf _ _ _ _ hlt (by omega)]
    simp only [pure_bind]
    rw [loop_ascii b f hf hz st k (j + 1) (p + 1) _ (by omega) (by simp [ho])]
    have e : b.toList.drop p = b[p] :: b.toList.drop (p + 1) := by rw [List.drop_eq_getElem_cons (by simpa using hlt)]; simp
    rw [e]
    simp [Array.getD, hlt]
theorem run_ascii (b : Array UInt8) (hb : ∀ c ∈ b, c.toNat < 128) (hz : b.size ≤ sizeLine) (id : String) : _codecs.runDecoder id _codecs.asciiDecoder none true b 0 [] = pure (b.map (·.toNat), b.size) := by
  unfold _codecs.runDecoder
  simp only [Std.Legacy.Range.forIn_eq_forIn_range', Std.Legacy.Range.size]
  simp only [Nat.sub_zero, Nat.add_one_sub_one, Nat.div_one]
  rw [loop_ascii b _ (fun x p out st hp ho => ?_) hz _ b.size 0 0 #[] (by omega) rfl]
  · simp only [pure_bind, List.drop_zero, Array.empty_append]
    congr 2
    exact Array.toList_inj.mp (by simp)
  · have h1 : ¬ sizeLine < out.size := Nat.not_lt.mpr ho
    have h2 : ¬ b.size ≤ p := Nat.not_le.mpr hp
    have h3 : (b.getD p 0).toNat < 128 := by
      have : b.getD p 0 = b[p] := by simp [Array.getD, hp]
      rw [this]; exact hb _ (Array.getElem_mem _)
    have h4 : _codecs.asciiDecoder.find true b p = .text [(b.getD p 0).toNat] (p + 1) := by
      simp only [_codecs.asciiDecoder]; rw [if_pos h3]; rfl
    simp [h1, h2, h4]

theorem hex_eq (b : Array UInt8) (t : Tok) : «bytes.hex» ⟨[.bytes b t], []⟩ = retStr ⟨b.toList.zipIdx.foldl (fun (out : Array Nat) (c, i) => (out.push (Bytes.hexDigit (c.toNat / 16))).push (Bytes.hexDigit (c.toNat % 16))) #[]⟩ := by kernel_rfl
theorem upper_eq (b : Array UInt8) (t : Tok) : «bytes.upper» ⟨[.bytes b t], []⟩ = (mkBytes (b.toList.map Bytes.toUpper).toArray >>= fun v => ret v) := by kernel_rfl
theorem decode_eq (c : UInt8) (cs : List UInt8) (t u : Tok) : «bytes.decode» ⟨[.bytes (c :: cs).toArray t, .str "ascii" u], []⟩ = (mkStr "utf-8" >>= fun _ => mkStr "ascii" >>= fun e => mkStr "bytes.decode" >>= fun d =>
    call (.builtin "_codecs.decode.text") [.bytes (c :: cs).toArray t, e, .none, d] >>= fun v => ret v) := by kernel_rfl
theorem decode_nil (t u : Tok) : «bytes.decode» ⟨[.bytes #[] t, .str "ascii" u], []⟩ = (rule "bytes.decode.empty" >>= fun _ => retStr Str.empty) := by kernel_rfl
theorem road_ascii {id : String} {b : Array UInt8} : _codecs.decodeRoad id b (PySem.Str.ofString "ascii") none [] = (_codecs.runDecoder id _codecs.asciiDecoder none true b 0 [] >>= fun r => mkStr ⟨r.1⟩) := by kernel_rfl
theorem enc1 (x : PySem.Str) (t u : Tok) : Builtin.Str.strSelf ⟨[.str x t, .str "ascii" u], []⟩ = pure (.str x t, x, [.str "ascii" u]) := by kernel_rfl
theorem enc2 (u : Tok) : Builtin.Str.bindOptional "str.encode" "encode" 0 ["encoding", "errors"] [.str "ascii" u] [] = pure [some (.str "ascii" u), none] := by kernel_rfl
theorem enc3 (u : Tok) : Builtin.Str.codecArg "str.encode" "encode" "'encoding'" (some (.str "ascii" u)) = pure (some (PySem.Str.ofString "ascii")) := by kernel_rfl
theorem enc4 (x : PySem.Str) (v : Value) : _codecs.encodeRoad "str.encode" v x (PySem.Str.ofString "ascii") none = (_codecs.encodeNarrow "str.encode" _codecs.asciiCodec none v x >>= fun b => mkBytes b) := by kernel_rfl

noncomputable def hexOut (b : List UInt8) : List Nat := b.flatMap fun c => [Bytes.hexDigit (c.toNat / 16), Bytes.hexDigit (c.toNat % 16)]
theorem hex_fold (b : List UInt8) : ∀ (i : Nat) (acc : Array Nat), (b.zipIdx i).foldl (fun (out : Array Nat) (c, i) => (out.push (Bytes.hexDigit (c.toNat / 16))).push (Bytes.hexDigit (c.toNat % 16))) acc = acc ++ (hexOut b).toArray := by
  induction b with
  | nil => intro i acc; simp [hexOut]
  | cons c b ih => intro i acc; rw [List.zipIdx_cons, List.foldl_cons, ih]; simp [hexOut]
end

section
variable {K : Frag} {w : World} {N k : Nat}
open PySem.Builtin
theorem fun_hex {l : List UInt8} (h : (hexOut l).length ≤ 16777216) : Fun K w N k (.builtin "bytes.hex") [.bytes l] (.str ⟨(hexOut l).toArray⟩) := fun A σ s vs Q E g rm r q => by
  cases r with | cons r1 r2 =>
  cases r2; cases r1
  refine call_meets FB.slot_bytes_hex (typeIs_bytes _ _ _) FB.entry_bytes_hex (FB.args_bytes_hex_1 _) (S := fun _ R s => R (.ok (.ret (.str ⟨(hexOut l).toArray⟩ s.toks))) { s with toks := s.toks + 1 }) (.of_wp fun prog w A R s hS => ?_) (q _ _ _ (.tok g _) .str)
  rw [hex_eq, hex_fold]
  simp only [Array.empty_append, retStr]
  exact wpAny_bind (wpAny_mkStr (wpAny_pure ⟨_, rfl, hS⟩) (by show (hexOut l).toArray.size ≤ _; rw [sizeLine_eq]; simpa using h))
theorem fun_encode {x : PySem.Str} (hx : ∀ c ∈ x.cps, c < 128) (h : x.length ≤ 16777216) : Fun K w N k (.builtin "str.encode") [.str x, .str "ascii"] (.bytes (x.cps.toList.map Nat.toUInt8)) := fun A σ s vs Q E g rm r q => by
  cases r with | cons r1 r2 =>
  cases r2 with | cons r2 r3 =>
  cases r3; cases r1; cases r2
  refine call_meets PySem.F.slot_str_encode (typeIs_str _ _ _) PySem.F.entry_str_encode (PySem.F.args_str_encode_2 _ _) (S := fun _ R s => R (.ok (.ret (.bytes (x.cps.toList.map Nat.toUInt8).toArray s.toks))) { s with toks := s.toks + 1 }) (.of_wp fun prog w A R s hS => ?_) (q _ _ _ (.tok g _) .bytes)
  unfold «str.encode»
  refine wpAny_bind (wpAny_of_eq (enc1 ..) ?_)
  refine wpAny_bind (wpAny_of_eq (enc2 ..) ?_)
  refine wpAny_bind (wpAny_of_eq (enc3 ..) ?_)
  refine wpAny_bind (wpAny_of_eq (a := none) rfl ?_)
  refine wpAny_bind ?_
  show wpAny _ _ (_codecs.encodeRoad "str.encode" _ x (PySem.Str.ofString "ascii") none) _ _ _
  rw [enc4, narrow_eq x hx (by rw [sizeLine_eq]; exact h)]
  have e : x.cps.map Nat.toUInt8 = (x.cps.toList.map Nat.toUInt8).toArray := Array.toList_inj.mp (by simp)
  rw [e]
  exact wpAny_bind (wpAny_pure (wpAny_mkBytes (wpAny_pure ⟨_, rfl, hS⟩) (by rw [sizeLine_eq, List.size_toArray, List.length_map, Array.length_toList]; exact h)))

theorem slot_upper : Slot "bytes" "upper" "bytes.upper" :=
  .of (owner := "bytes") (n := "upper") (by rw [typeLookup_type, builtinLookup_eq_fast]; kernel_rfl) (by decide +kernel) (by decide +kernel) (by decide +kernel)
    (by first | exact .inl (by decide +kernel) | exact .inr (by decide +kernel)) (by rw [isSubtype_type]; kernel_rfl)
theorem type_upper : typeOf (.builtin "bytes.upper") = pure (.type "method_descriptor") := by show builtinType _ = _; rw [builtinType_eq_fast]; kernel_rfl
theorem entry_upper : entryFor table "bytes.upper" = some Builtin.«bytes.upper» := entryFor_of_tree (by kernel_rfl)
theorem args_upper (a : Value) : argsOk "bytes.upper" ⟨[a], []⟩ := by unfold argsOk; kernel_rfl
theorem slot_translate : Slot "bytes" "translate" "bytes.translate" :=
  .of (owner := "bytes") (n := "translate") (by rw [typeLookup_type, builtinLookup_eq_fast]; kernel_rfl) (by decide +kernel) (by decide +kernel) (by decide +kernel)
    (by first | exact .inl (by decide +kernel) | exact .inr (by decide +kernel)) (by rw [isSubtype_type]; kernel_rfl)
theorem type_translate : typeOf (.builtin "bytes.translate") = pure (.type "method_descriptor") := by show builtinType _ = _; rw [builtinType_eq_fast]; kernel_rfl
theorem entry_translate : entryFor table "bytes.translate" = some Builtin.«bytes.translate» := entryFor_of_tree (by kernel_rfl)
theorem args_translate (a b : Value) : argsOk "bytes.translate" ⟨[a, b], []⟩ := by unfold argsOk; kernel_rfl
theorem slot_bjoin : Slot "bytes" "join" "bytes.join" :=
  .of (owner := "bytes") (n := "join") (by rw [typeLookup_type, builtinLookup_eq_fast]; kernel_rfl) (by decide +kernel) (by decide +kernel) (by decide +kernel)
    (by first | exact .inl (by decide +kernel) | exact .inr (by decide +kernel)) (by rw [isSubtype_type]; kernel_rfl)
theorem type_bjoin : typeOf (.builtin "bytes.join") = pure (.type "method_descriptor") := by show builtinType _ = _; rw [builtinType_eq_fast]; kernel_rfl
theorem entry_bjoin : entryFor table "bytes.join" = some Builtin.«bytes.join» := entryFor_of_tree (by kernel_rfl)
theorem args_bjoin (a b : Value) : argsOk "bytes.join" ⟨[a, b], []⟩ := by unfold argsOk; kernel_rfl
theorem args_decode2 (a b : Value) : argsOk "bytes.decode" ⟨[a, b], []⟩ := by unfold argsOk; kernel_rfl

theorem fun_upper {l : List UInt8} (h : l.length ≤ 16777216) : Fun K w N k (.builtin "bytes.upper") [.bytes l] (.bytes (l.map Bytes.toUpper)) := fun A σ s vs Q E g rm r q => by
  cases r with | cons r1 r2 =>
  cases r2; cases r1
  refine call_meets slot_upper (typeIs_bytes _ _ _) entry_upper (args_upper _) (S := fun _ R s => R (.ok (.ret (.bytes (l.map Bytes.toUpper).toArray s.toks))) { s with toks := s.toks + 1 }) (.of_wp fun prog w A R s hS => ?_) (q _ _ _ (.tok g _) .bytes)
  rw [upper_eq]
  exact wpAny_bind (wpAny_mkBytes (wpAny_pure ⟨_, rfl, hS⟩) (by rw [sizeLine_eq, List.size_toArray, List.length_map]; exact h))

theorem fun_translate {l tb : List UInt8} (h : l.length ≤ 16777216) (ht : tb.length = 256) : Fun K w N k (.builtin "bytes.translate") [.bytes l, .bytes tb] (.bytes (l.map fun c => tb.getD c.toNat c)) := fun A σ s vs Q E g rm r q => by
  cases r with | cons r1 r2 =>
  cases r2 with | cons r2 r3 =>
  cases r3
  cases r1 with | @bytes _ ta =>
  cases r2
  refine call_meets slot_translate (typeIs_bytes _ _ _) entry_translate (args_translate _ _) (S := fun _ R s => ∀ t k, R (.ok (.ret (.bytes (l.map fun c => tb.getD c.toNat c).toArray t))) { s with toks := k }) (.of_wp fun prog w A R s hS => ?_) (fun t k => q _ _ _ (.tok g _) .bytes)
  unfold «bytes.translate» Bytes.translateM
  simp only [List.length_cons, List.length_nil, Nat.add_zero, Nat.zero_add]
  refine wpAny_bind (wpAny_of_eq KBd.like_eq ?_)
  rw [if_neg (by simp [ht])]
  refine wpAny_bind (wpAny_pure ?_)
  show wpAny _ _ (pure (#[] : Array UInt8) >>= fun d => _) _ _ _
  refine wpAny_bind (wpAny_pure ?_)
  refine wpAny_bind (wpAny_of_eq (a := l.toArray) rfl ?_)
  have e : Array.map (fun c => tb.toArray.getD c.toNat c) (Array.filter (fun x => !(#[] : Array UInt8).contains x) l.toArray) = (l.map fun c => tb.getD c.toNat c).toArray := by
    rw [Array.filter_eq_self.mpr (by intro c _; simp)]
    simp
  simp only [e]
  by_cases hq : ((l.map fun c => tb.getD c.toNat c).toArray == l.toArray) = true
  · rw [if_pos hq]
    refine wpAny_bind (wpAny_rule ?_)
    have := eq_of_beq hq
    rw [this] at hS
    exact wpAny_bind (wpAny_of_eq (a := Value.bytes l.toArray ta) rfl (wpAny_pure ⟨_, rfl, hS _ _⟩))
  · rw [if_neg hq]
    exact wpAny_bind (wpAny_mkBytes (wpAny_pure ⟨_, rfl, hS _ _⟩) (by rw [sizeLine_eq, List.size_toArray, List.length_map]; exact h))

theorem fun_decode {l : List UInt8} (hl : ∀ c ∈ l, c.toNat < 128) (h : l.length ≤ 16777216) : Fun K w N k (.builtin "bytes.decode") [.bytes l, .str "ascii"] (.str ⟨(l.map (·.toNat)).toArray⟩) := fun A σ s vs Q E g rm r q => by
  cases r with | cons r1 r2 =>
  cases r2 with | cons r2 r3 =>
  cases r3; cases r1; cases r2
  refine call_meets FB.slot_bytes_decode (typeIs_bytes _ _ _) FB.entry_bytes_decode (args_decode2 _ _) (S := fun _ R s => ∀ t k, R (.ok (.ret (.str ⟨(l.map (·.toNat)).toArray⟩ t))) { s with toks := k }) (.of_wp fun prog w A R s hS => ?_) (fun t k => q _ _ _ (.tok g _) .str)
  cases l with
  | nil => 
    show wpAny _ _ («bytes.decode» ⟨[.bytes #[] _, _], []⟩) _ _ _
    rw [decode_nil]
    exact wpAny_bind (wpAny_rule (wpAny_bind (wpAny_mkStr (wpAny_pure ⟨_, rfl, hS _ _⟩) (by decide))))
  | cons c cs =>
    rw [decode_eq]
    refine wpAny_bind (wpAny_mkStr ?_ (by decide))
    refine wpAny_bind (wpAny_mkStr ?_ (by decide))
    refine wpAny_bind (wpAny_mkStr ?_ (by decide))
    refine wpAny_bind (call_function_meets KBd.kind_text KBd.plain_text KBd.entry_text (KBd.args_text _ _ _ _) (S := fun _ R s => R (.ok (.ret (.str ⟨((c :: cs).map (·.toNat)).toArray⟩ s.toks))) { s with toks := s.toks + 1 }) (.of_wp fun prog w A R s hS => ?_) (wpAny_pure ⟨_, rfl, hS _ _⟩))
    show wpAny _ _ (Bytes.bytesLike _ (.bytes (c :: cs).toArray _) >>= fun r => _) _ _ s
    refine wpAny_bind (wpAny_of_eq KBd.like_eq ?_)
    refine wpAny_bind (wpAny_of_eq KBd.held_eq ?_)
    show wpAny _ _ (_codecs.decodeRoad _ (c :: cs).toArray (PySem.Str.ofString "ascii") none [] >>= fun v => _) _ _ s
    rw [road_ascii, run_ascii _ (by simpa using hl) (by rw [sizeLine_eq, List.size_toArray]; exact h)]
    refine wpAny_bind (wpAny_bind (wpAny_pure ?_))
    have e : (c :: cs).toArray.map (·.toNat) = ((c :: cs).map (·.toNat)).toArray := Array.toList_inj.mp (by simp)
    rw [e]
    exact wpAny_mkStr (wpAny_pure ⟨_, rfl, hS⟩) (by show ((c :: cs).map (·.toNat)).toArray.size ≤ _; rw [sizeLine_eq, List.size_toArray, List.length_map]; exact h)
end
end Mine
end
section
open PySem PySem.W PyProof.Rows PySem.Calls
set_option Elab.async false
set_option maxRecDepth 100000
set_option autoImplicit false
set_option linter.unusedVariables false
set_option linter.unusedSimpArgs false
namespace Mine
section
open PySem.Builtin
theorem take_eq {id : String} {b : Array UInt8} {t : Tok} : Bytes.takeBuffer? id (.bytes b t) 0 = pure (some (b, none)) := by
  unfold Bytes.takeBuffer?
  rw [KBy.special_eq KBy.look_buffer, KBy.own_buffer]
  have e : Bytes.buffer? id (.bytes b t) (0 == Bytes.fullReadOnly) = pure (some b) := KBy.buffer_eq
  show (Bytes.buffer? id (.bytes b t) (0 == Bytes.fullReadOnly) >>= fun r => pure (r.map (·, none))) = _
  rw [e]
  rfl
theorem takeq_eq {id : String} {b : Array UInt8} {t : Tok} : Bytes.takeBufferQuiet? id (.bytes b t) 0 = pure (some (b, none)) := by
  unfold Bytes.takeBufferQuiet?
  rw [take_eq]
  rfl
theorem letgo_walk {M : Model} {A : Around} {E : Value → Shared → Prop} {s : Shared} {Q : Unit → Shared → Prop} (h : Q () s) (keep : List Value) : ∀ taken : List (Value × Option Value), (∀ p ∈ taken, p.2 = none) → wpAny M A (Bytes.joinLetGo taken keep) Q E s
  | [], _ => wpAny_pure h
  | (x, w) :: rest, hn => by
    have : w = none := hn (x, w) List.mem_cons_self
    subst this
    unfold Bytes.joinLetGo
    simp only []
    exact wpAny_bind (wpAny_letGo (letgo_walk h keep rest fun p hp => hn p (List.mem_cons_of_mem _ hp)))
theorem joined_nil (parts : List (Array UInt8)) : Bytes.joined #[] parts = (parts.map (·.toList)).flatten.toArray := by
  have gen : ∀ (parts : List (Array UInt8)) (i : Nat) (acc : Array UInt8), (parts.zipIdx i).foldl (fun out (p, i) => (if i > 0 then out ++ #[] else out) ++ p) acc = acc ++ (parts.map (·.toList)).flatten.toArray := by
    intro parts
    induction parts with
    | nil => intro i acc; simp
    | cons p ps ih =>
      intro i acc
      rw [List.zipIdx_cons, List.foldl_cons, ih]
      apply Array.toList_inj.mp
      simp
  unfold Bytes.joined
  rw [gen]
  simp
theorem join_step {α : Type} {id : String} {b : Array UInt8} {t : Tok} (f : Option (Array UInt8 × Option Value) → Sem α) : (Bytes.takeBufferQuiet? id (.bytes b t) 0 >>= f) = f (some (b, none)) := by
  rw [takeq_eq]; rfl
noncomputable abbrev Tk := List (Value × Option Value)
noncomputable abbrev TkOk (l : Tk) : Prop := ∀ p ∈ l, p.2 = none ∧ p.1.onHeap = false
theorem bjoin_loop {M : Model} {A : Around} {E : Value → Shared → Prop} {s : Shared} (bs : List (Array UInt8)) (f : Nat → Array (Array UInt8) × Tk → Sem (ForInStep (Array (Array UInt8) × Tk)))
    (hf : ∀ i b parts taken (Q : ForInStep (Array (Array UInt8) × Tk) → Shared → Prop), bs[i]? = some b → TkOk taken → (∀ taken', TkOk taken' → Q (.yield (parts.push b, taken')) s) → wpAny M A (f i (parts, taken)) Q E s) :
    ∀ (k j : Nat) (parts : Array (Array UInt8)) (taken : Tk) (Q : Array (Array UInt8) × Tk → Shared → Prop), j + k = bs.length → TkOk taken → (∀ taken', TkOk taken' → Q (parts ++ (bs.drop j).toArray, taken') s) →
      wpAny M A (forIn (List.range' j k) (parts, taken) f) Q E s
  | 0, j, parts, taken, Q, hj, ht, hQ => by
    have : bs.drop j = [] := List.drop_eq_nil_iff.mpr (by omega)
    have h := hQ taken ht
    rw [this] at h
    rw [List.range'_zero, List.forIn_nil]
    exact wpAny_pure (by simpa using h)
  | k + 1, j, parts, taken, Q, hj, ht, hQ => by
    have hlt : j < bs.length := by omega
    rw [List.range'_succ, List.forIn_cons]
    refine wpAny_bind (hf j bs[j] parts taken _ (List.getElem?_eq_getElem hlt) ht fun taken' ht' => ?_)
    refine bjoin_loop bs f hf k (j + 1) _ taken' Q (by omega) ht' fun t'' h'' => ?_
    have h := hQ t'' h''
    rw [List.drop_eq_getElem_cons hlt] at h
    have e : parts ++ (bs[j] :: bs.drop (j + 1)).toArray = parts.push bs[j] ++ (bs.drop (j + 1)).toArray := Array.toList_inj.mp (by simp)
    rw [e] at h
    exact h

theorem meets_bjoin (a : Addr) (t : Tok) (vs : List Value) (n : Nat) (o : Obj) (hc : o.cls = .type "list") (hd : o.data = .seq vs.toArray n) (bs : List (List UInt8)) (hlen : vs.length = bs.length)
    (hv : ∀ (i : Nat) b, bs[i]? = some b → ∃ u, vs[i]? = some (.bytes b.toArray u)) (hz : bs.flatten.length ≤ 16777216) :
    Meets («bytes.join» ⟨[.bytes #[] t, .ref a], []⟩) (fun A R s => s.heap.get? a = some o ∧ ∀ t k, R (.ok (.ret (.bytes bs.flatten.toArray t))) { s with toks := k }) := .of_wp fun prog w A R s ⟨ho, hR⟩ => by
  unfold «bytes.join» Bytes.joinM
  refine wpAny_bind (wpAny_of_eq (a := (Value.bytes #[] t, Value.ref a)) rfl ?_)
  refine wpAny_bind ?_
  show wpAny _ _ (Bytes.joinItems (.ref a)) _ _ _
  unfold Bytes.joinItems
  refine wpAny_bind (wpAny_typeOf (T := "list") ⟨o, ho, hc⟩ ?_)
  rw [if_pos (by decide)]
  refine wpAny_pure ?_
  refine wpAny_bind (wpAny_seqItems ho hd ?_)
  have hbytes : ∀ i b, (bs.map List.toArray)[i]? = some b → ∃ u, vs.toArray.getD i .none = .bytes b u := fun i b h => by
    simp at h
    obtain ⟨l, hl, rfl⟩ := h
    obtain ⟨u, hu⟩ := hv i l hl
    exact ⟨u, by simp [Array.getD_eq_getD_getElem?, hu]⟩
  have main : ∀ (J : Array (Array UInt8) × Tk → Sem PySem.Fin) (f : Nat → Array (Array UInt8) × Tk → Sem (ForInStep (Array (Array UInt8) × Tk))) (Q : PySem.Fin → Shared → Prop) (E : Value → Shared → Prop),
      (∀ i b parts taken (Q : ForInStep (Array (Array UInt8) × Tk) → Shared → Prop), (bs.map List.toArray)[i]? = some b → TkOk taken → (∀ taken', TkOk taken' → Q (.yield (parts.push b, taken')) s) → wpAny (model prog w) A.in1 (f i (parts, taken)) Q E s) →
      (∀ taken', TkOk taken' → wpAny (model prog w) A.in1 (J ((bs.map List.toArray).toArray, taken')) Q E s) →
      wpAny (model prog w) A.in1 (forIn [:vs.toArray.size] ((#[] : Array (Array UInt8)), ([] : Tk)) f >>= J) Q E s := fun J f Q E hf hJ => by
    rw [Std.Legacy.Range.forIn_eq_forIn_range']
    simp only [Std.Legacy.Range.size]
    refine wpAny_bind (bjoin_loop (bs.map List.toArray) f hf _ 0 #[] [] _ (by simp [hlen]) (fun p hp => nomatch hp) fun taken' ht' => ?_)
    have := hJ taken' ht'
    simpa using this
  have fin : ∀ (taken : Tk), TkOk taken → wpAny (model prog w) A.in1 (do
      let result ← Bytes.Kind.bytes.new (Bytes.joined #[] (bs.map List.toArray))
      holding (result :: taken.flatMap fun x => match x with | (y, u) => y :: u.toList) point
      Bytes.joinLetGo taken [result]
      ret result) (fun fin s' => ∃ v, fin = Fin.done (Flow.ret v) ∧ R (Except.ok (Flow.ret v)) s') (fun e s' => R (Except.error e) s') s := fun taken ht => by
    rw [joined_nil]
    refine wpAny_bind ?_
    show wpAny _ _ (mkBytes _) _ _ _
    have e : ((bs.map List.toArray).map (·.toList)).flatten = bs.flatten := by
      rw [List.map_map, show ((fun (x : Array UInt8) => x.toList) ∘ List.toArray) = _root_.id from by funext x; rfl, List.map_id]
    rw [e]
    refine wpAny_mkBytes ?_ (by rw [sizeLine_eq, List.size_toArray]; exact hz)
    exact wpAny_bind (wpAny_holding (wpAny_point (wpAny_bind (letgo_walk (wpAny_pure ⟨_, rfl, hR _ _⟩) _ _ fun p hp => (ht p hp).1))))
  have size : ∀ (z : Nat), Bytes.tooLong (Array.foldl (fun x1 (x2 : Array UInt8) => x1 + x2.size) (0 * z) (bs.map List.toArray).toArray) = false := fun z => by
    refine KBy.tooLong_not ?_
    have gen : ∀ (l : List (List UInt8)) (acc : Nat), (l.map List.toArray).foldl (fun x1 (x2 : Array UInt8) => x1 + x2.size) acc = acc + l.flatten.length := by
      intro l
      induction l with
      | nil => intro acc; simp
      | cons x l ih => intro acc; simp only [List.map_cons, List.foldl_cons, ih, List.flatten_cons, List.length_append, List.size_toArray]; omega
    rw [List.foldl_toArray, gen]
    omega
  match vs, hlen, hd, hv, hbytes, main with
  | [x], hlen, hd, hv, hbytes, main =>
    obtain ⟨b, rfl⟩ : ∃ b, bs = [b] := List.length_eq_one_iff.mp hlen.symm
    obtain ⟨u, hu⟩ := hv 0 b rfl
    simp at hu
    subst hu
    show wpAny _ _ (typeOf (.bytes b.toArray u) >>= _) _ _ _
    refine wpAny_bind (wpAny_typeOf (T := "bytes") rfl ?_)
    rw [if_pos (by decide)]
    refine wpAny_bind (wpAny_rule (wpAny_pure ⟨_, rfl, ?_⟩))
    have h := hR u s.toks
    simp only [List.flatten_cons, List.flatten_nil, List.append_nil] at h
    exact h
  | [], hlen, hd, hv, hbytes, main =>
    refine main _ _ _ _ (fun i b parts taken Q hb ht hQ => ?_) fun taken' ht' => ?_
    · obtain ⟨u, hu⟩ := hbytes i b hb
      refine wpAny_bind (wpAny_seqItems ho hd ?_)
      simp only [hu]
      have hno : ¬ ((Bytes.Kind.bytes == Bytes.Kind.bytearray || taken.any fun x => x.fst.onHeap) = true) := by
        have : (taken.any fun x => x.fst.onHeap) = false := by
          rw [List.any_eq_false]; intro p hp; rw [(ht p hp).2]; decide
        rw [this]; decide
      rw [if_neg hno]
      refine wpAny_bind (wpAny_holding (wpAny_of_eq takeq_eq ?_))
      refine wpAny_bind (wpAny_seqItems ho hd ?_)
      simp only []
      rw [if_neg (by simp)]
      refine wpAny_pure (hQ _ fun p hp => ?_)
      rcases List.mem_append.mp hp with h | h
      · exact ht p h
      · simp at h; subst h; exact ⟨rfl, rfl⟩
    · refine wpAny_bind (wpAny_of_eq (a := #[]) rfl ?_)
      simp only []
      rw [if_neg (by rw [show (#[] : Array UInt8).size = 0 from rfl, size]; decide)]
      simpa using fin taken' ht'
  | x :: y :: r, hlen, hd, hv, hbytes, main =>
    refine main _ _ _ _ (fun i b parts taken Q hb ht hQ => ?_) fun taken' ht' => ?_
    · obtain ⟨u, hu⟩ := hbytes i b hb
      refine wpAny_bind (wpAny_seqItems ho hd ?_)
      simp only [hu]
      have hno : ¬ ((Bytes.Kind.bytes == Bytes.Kind.bytearray || taken.any fun x => x.fst.onHeap) = true) := by
        have : (taken.any fun x => x.fst.onHeap) = false := by
          rw [List.any_eq_false]; intro p hp; rw [(ht p hp).2]; decide
        rw [this]; decide
      rw [if_neg hno]
      refine wpAny_bind (wpAny_holding (wpAny_of_eq takeq_eq ?_))
      refine wpAny_bind (wpAny_seqItems ho hd ?_)
      simp only []
      rw [if_neg (by simp)]
      refine wpAny_pure (hQ _ fun p hp => ?_)
      rcases List.mem_append.mp hp with h | h
      · exact ht p h
      · simp at h; subst h; exact ⟨rfl, rfl⟩
    · refine wpAny_bind (wpAny_of_eq (a := #[]) rfl ?_)
      simp only []
      rw [if_neg (by rw [show (#[] : Array UInt8).size = 0 from rfl, size]; decide)]
      simpa using fin taken' ht'
end

section
variable {K : Frag} {w : World} {N k : Nat}
theorem fun_bjoin {bs : List (List UInt8)} (hz : bs.flatten.length ≤ 16777216) : Fun K w N k (.builtin "bytes.join") [.bytes [], .list (bs.map .bytes)] (.bytes bs.flatten) := fun A σ s vs Q E g rm r q => by
  cases r with | cons r1 r2 =>
  cases r2 with | cons r2 r3 =>
  cases r3; cases r1
  cases r2 with | @list a o items n _ h1 h2 h3 h4 =>
  refine call_meets slot_bjoin (typeIs_bytes _ _ _) entry_bjoin (args_bjoin _ _) (meets_bjoin a _ items.toList n o h2 (by simpa using h3) bs (by simpa using h4.len) (fun i b hb => ?_) hz) ⟨(g.sto _ _ h1).1, fun t k => q _ _ _ (.tok g _) .bytes⟩
  have hlt : i < items.toList.length := by rw [h4.len]; simpa using (List.getElem?_eq_some_iff.mp hb).1
  have r := h4.get (i := i) (d := .bytes b) (by simp [hb]) (List.getElem?_eq_getElem hlt)
  generalize hv : items.toList[i] = v at r
  cases r with | @bytes _ u => exact ⟨u, by rw [List.getElem?_eq_getElem hlt, hv]⟩

theorem RepL.strs {P : World} {σ : Sto} : ∀ {xs : List Str} {vs}, RepL P σ (xs.map .str) vs → StrsAre vs xs
  | [], _, .nil => .nil
  | n :: ns, _, .cons r rs => by cases r; exact .cons _ _ (RepL.strs rs)
theorem fun_sjoin {xs : List Str} (hz : (xs.map (·.length)).sum + xs.length ≤ 1048576) : Fun K w N k (.builtin "str.join") [.str "", .list (xs.map .str)] (.str (Txt.join "" xs)) := fun A σ s vs Q E g rm r q => by
  cases r with | cons r1 r2 =>
  cases r2 with | cons r2 r3 =>
  cases r3; cases r1
  cases r2 with | @list a o items n _ h1 h2 h3 h4 =>
  exact join_listW ⟨o, (g.sto _ _ h1).1, h2, n, h3⟩ h4.strs (by decide) hz fun t' k => q _ _ _ (.tok g _) .str

theorem RepL.take {P : World} {σ : Sto} : ∀ {ds vs}, RepL P σ ds vs → ∀ n, RepL P σ (ds.take n) (vs.take n)
  | _, _, .nil, n => by simp; exact .nil
  | _, _, .cons r rs, 0 => by simp; exact .nil
  | _, _, .cons r rs, n + 1 => by simp; exact .cons r (rs.take n)
theorem psl_list {ds : List D} {hi : Nat} (hz : ds.length ≤ 16777216) : Psl K w N (.list ds) none (some (hi : Int)) (.list (ds.take hi)) := fun A σ s v vl vu sl Q E g rm r pl pu hs q => by
  cases r with | @list a o items n _ h1 h2 h3 h4 =>
  have ln := h4.len
  rw [Array.length_toList] at ln
  have x := Step.push g (o := { cls := .type "list", data := .seq (slicePick items none (some (hi : Int)) none) }) rfl cls_ne
  refine wpAny_getItem_list_slice ⟨o, (g.sto _ _ h1).1, h2, n, h3⟩ hs pl pu .none (by simp) (q _ _ _ x (.list put_self rfl rfl ?_)) (by rw [sizeLine_eq]; omega)
  have e : (slicePick items none (some (hi : Int)) none).toList = items.toList.take hi := by
    rw [slicePick_upto']
  rw [e]
  exact RepL.take (h4.mono x.ext) hi

end
end Mine
end
section
open PySem PySem.W PyProof.Rows PySem.Calls
set_option Elab.async false
set_option maxRecDepth 100000
set_option autoImplicit false
set_option linter.unusedVariables false
set_option linter.unusedSimpArgs false
namespace Mine

mutual
noncomputable def D.dat : D → PyData
  | .val (.bool b) => .bool b
  | .val _ => .none
  | .int i => .int i
  | .str x => .str x
  | .list ds => .list (datL ds)
  | .tup ds => .tuple (datL ds)
  | _ => .none
noncomputable def datL : List D → List PyData
  | [] => []
  | d :: ds => d.dat :: datL ds
end
mutual
/-- plain data up to a depth, its texts plain -/
noncomputable def D.ok : D → Nat → Bool
  | .val (.bool _), _ => true
  | .val .none, _ => true
  | .int _, _ => true
  | .str x, _ => PyData.strOk x
  | .list ds, n => match n with | 0 => false | n + 1 => okL ds n
  | .tup ds, n => match n with | 0 => false | n + 1 => okL ds n
  | _, _ => false
noncomputable def okL : List D → Nat → Bool
  | [], _ => true
  | d :: ds, n => d.ok n && okL ds n
end
mutual
theorem ok_lay : ∀ (d : D) (n : Nat), d.ok n = true → d.dat.canLay0 = true ∧ d.dat.depth ≤ n
  | .val (.bool _), n, _ => ⟨rfl, Nat.zero_le _⟩
  | .val .none, n, _ => ⟨rfl, Nat.zero_le _⟩
  | .int _, n, _ => ⟨rfl, Nat.zero_le _⟩
  | .str x, n, h => ⟨by simpa [D.ok, D.dat, PyData.canLay0] using h, Nat.zero_le _⟩
  | .list ds, 0, h => by simp [D.ok] at h
  | .list ds, n + 1, h => by
    have h' : okL ds n = true := h
    have := okL_lay ds n h'
    exact ⟨this.1, Nat.succ_le_succ this.2⟩
  | .tup ds, 0, h => by simp [D.ok] at h
  | .tup ds, n + 1, h => by
    have h' : okL ds n = true := h
    have := okL_lay ds n h'
    exact ⟨this.1, Nat.succ_le_succ this.2⟩
  | .bytes _, n, h => by simp [D.ok] at h
  | .dict _, n, h => by simp [D.ok] at h
  | .view _ _, n, h => by simp [D.ok] at h
  | .range _ _ _, n, h => by simp [D.ok] at h
  | .val (.int _ _), n, h => by simp [D.ok] at h
  | .val (.float _ _), n, h => by simp [D.ok] at h
  | .val (.str _ _), n, h => by simp [D.ok] at h
  | .val (.bytes _ _), n, h => by simp [D.ok] at h
  | .val (.ref _), n, h => by simp [D.ok] at h
  | .val (.type _), n, h => by simp [D.ok] at h
  | .val (.builtin _), n, h => by simp [D.ok] at h
  | .val .notImplemented, n, h => by simp [D.ok] at h
  | .val .ellipsis, n, h => by simp [D.ok] at h
theorem okL_lay : ∀ (ds : List D) (n : Nat), okL ds n = true → PyData.canLayAll0 (datL ds) = true ∧ PyData.depthAll (datL ds) ≤ n
  | [], n, _ => ⟨rfl, Nat.zero_le _⟩
  | d :: ds, n, h => by
    have h' : (d.ok n && okL ds n) = true := h
    rw [Bool.and_eq_true] at h'
    have a := ok_lay d n h'.1
    have b := okL_lay ds n h'.2
    refine ⟨?_, ?_⟩
    · show (d.dat.canLay0 && PyData.canLayAll0 (datL ds)) = true
      rw [a.1, b.1]; rfl
    · show max d.dat.depth (PyData.depthAll (datL ds)) ≤ n
      omega
end

mutual
theorem Rep.reads {K : Frag} {N : Nat} {P : World} {σ : Sto} {s : Shared} (g : G K N σ s) : ∀ (d : D) (n : Nat) (v : Value), d.ok n = true → Rep P σ d v → ∃ as, Reads s.heap v d.dat as
  | .val (.bool b), n, v, _, r => by cases r; exact ⟨_, .bool b⟩
  | .val .none, n, v, _, r => by cases r; exact ⟨_, .none⟩
  | .int i, n, v, _, r => by cases r; exact ⟨_, .int _ _⟩
  | .str x, n, v, h, r => by cases r; exact ⟨_, .str _ _⟩
  | .list ds, 0, v, h, r => by simp [D.ok] at h
  | .list ds, n + 1, v, h, r => by
    cases r with | list h1 h2 h3 h4 =>
    obtain ⟨as, hr⟩ := RepL.reads g ds n _ h h4
    exact ⟨_, .list (g.sto _ _ h1).1 h2 h3 hr⟩
  | .tup ds, 0, v, h, r => by simp [D.ok] at h
  | .tup ds, n + 1, v, h, r => by
    cases r with | tup h1 h2 h3 h4 =>
    obtain ⟨as, hr⟩ := RepL.reads g ds n _ h h4
    exact ⟨_, .tuple (g.sto _ _ h1).1 h2 h3 hr⟩
  | .bytes _, n, v, h, _ => by simp [D.ok] at h
  | .dict _, n, v, h, _ => by simp [D.ok] at h
  | .view _ _, n, v, h, _ => by simp [D.ok] at h
  | .range _ _ _, n, v, h, _ => by simp [D.ok] at h
  | .val (.int _ _), n, v, h, _ => by simp [D.ok] at h
  | .val (.float _ _), n, v, h, _ => by simp [D.ok] at h
  | .val (.str _ _), n, v, h, _ => by simp [D.ok] at h
  | .val (.bytes _ _), n, v, h, _ => by simp [D.ok] at h
  | .val (.ref _), n, v, h, _ => by simp [D.ok] at h
  | .val (.type _), n, v, h, _ => by simp [D.ok] at h
  | .val (.builtin _), n, v, h, _ => by simp [D.ok] at h
  | .val .notImplemented, n, v, h, _ => by simp [D.ok] at h
  | .val .ellipsis, n, v, h, _ => by simp [D.ok] at h
theorem RepL.reads {K : Frag} {N : Nat} {P : World} {σ : Sto} {s : Shared} (g : G K N σ s) : ∀ (ds : List D) (n : Nat) (vs : List Value), okL ds n = true → RepL P σ ds vs → ∃ as, ReadsAll s.heap vs (datL ds) as
  | [], n, vs, _, r => by cases r; exact ⟨_, .nil⟩
  | d :: ds, n, vs, h, r => by
    have h' : (d.ok n && okL ds n) = true := h
    rw [Bool.and_eq_true] at h'
    cases r with | cons r1 r2 =>
    obtain ⟨as, ha⟩ := Rep.reads g d n _ h'.1 r1
    obtain ⟨bs, hb⟩ := RepL.reads g ds n _ h'.2 r2
    exact ⟨_, .cons ha hb⟩
end

section
variable {K : Frag} {w : World} {N k : Nat}
theorem ok_shaped {d : D} (h : d.ok 9 = true) : SeqAt.shaped d.dat = true := by
  obtain ⟨h1, h2⟩ := ok_lay d 9 h
  unfold SeqAt.shaped
  rw [h1, decide_eq_true (Nat.le_trans h2 (by decide))]; rfl
theorem p2_eq_same {d : D} (h : d.ok 9 = true) : P2 K w N (compareOp .Eq) d d (.bool true) := fun A σ s v1 v2 Q E g rm r1 r2 q => by
  obtain ⟨as, ra⟩ := Rep.reads g d 9 _ h r1
  obtain ⟨bs, rb⟩ := Rep.reads g d 9 _ h r2
  have hu := rm.units
  refine eq_dataH ra rb (ok_shaped h) (ok_shaped h) (by show A.units + 64 < 9900; omega) ?_
  rw [PySem.SeqAt.eqv_refl _ (ok_lay d 9 h).1]
  exact q _ _ _ (.refl g) .val
theorem p2_ne_same {d : D} (h : d.ok 9 = true) : P2 K w N (compareOp .NotEq) d d (.bool false) := fun A σ s v1 v2 Q E g rm r1 r2 q => by
  obtain ⟨as, ra⟩ := Rep.reads g d 9 _ h r1
  obtain ⟨bs, rb⟩ := Rep.reads g d 9 _ h r2
  have hu := rm.units
  refine ne_dataH ra rb (ok_shaped h) (ok_shaped h) (by show A.units + 64 < 9900; omega) ?_
  rw [PySem.SeqAt.eqv_refl _ (ok_lay d 9 h).1]
  exact q _ _ _ (.refl g) .val

/-- the store takes all that is new -/
noncomputable def grab (σ : Sto) (n : Nat) (h : Heap) : Sto := fun b => if b < n then σ b else (h.get? b).bind fun o => if o.cls = .type "frame" then none else some o
theorem grab_new {σ : Sto} {n : Nat} {h : Heap} {b : Addr} {o : Obj} (hn : n ≤ b) (ho : h.get? b = some o) (hc : o.cls ≠ .type "frame") : grab σ n h b = some o := by
  unfold grab
  rw [if_neg (Nat.not_lt.mpr hn), ho]
  simp [hc]
theorem Step.grab {σ : Sto} {s s' : Shared} (g : G K N σ s) (hk : ∀ b o, s.heap.get? b = some o → s'.heap.get? b = some o) (hsz : s.heap.objs.size ≤ s'.heap.objs.size) (hg : s'.gens = s.gens) (ho : s'.os = s.os) : Step K N σ s (Mine.grab σ s.heap.objs.size s'.heap) s' := by
  have inv : ∀ a o, Mine.grab σ s.heap.objs.size s'.heap a = some o → σ a = some o ∨ (s.heap.objs.size ≤ a ∧ s'.heap.get? a = some o ∧ o.cls ≠ .type "frame") := fun a o e => by
    unfold Mine.grab at e
    split at e
    · exact .inl e
    · rename_i h
      rw [Option.bind_eq_some_iff] at e
      obtain ⟨o', h1, h2⟩ := e
      split at h2
      · cases h2
      · cases h2; rename_i hc; exact .inr ⟨Nat.not_lt.mp h, h1, hc⟩
  refine ⟨⟨g.base.keep (.of_keep hk) (fun o e => hk _ _ e) hsz, fun a o e => ?_, hg ▸ g.gens⟩, .of_keep hk, fun a o e => ?_, fun a o e => ?_, hsz, ho⟩
  · rcases inv a o e with h | ⟨h1, h2, h3⟩
    · exact ⟨hk _ _ (g.sto a o h).1, (g.sto a o h).2⟩
    · exact ⟨h2, hi_of (Nat.le_trans (Nat.le_trans g.base.big g.base.size) h1), h3⟩
  · unfold Mine.grab
    rw [if_pos (Heap.lt_size (g.sto a o e).1)]; exact e
  · rcases inv a o e with h | ⟨h1, _⟩
    · exact .inl h
    · exact .inr h1

theorem fun_list_list {ds : List D} (hz : ds.length ≤ 16777216) : Fun K w N k (.type "list") [.list ds] (.list ds) := fun A σ s vs Q E g rm r q => by
  cases r with | cons r1 r2 =>
  cases r2
  cases r1 with | @list a o items n _ h1 h2 h3 h4 =>
  have ln := h4.len
  rw [Array.length_toList] at ln
  refine wpAny_size (call_list_seq (hsz := by rw [sizeLine_eq]; omega) a (.inl rfl) (g.sto _ _ h1).1 h2 h3 fun h' c' hk hD hsz => ?_)
  have x := Step.grab (s' := { s with heap := h' }) g hk hsz rfl rfl
  exact q _ _ _ x (.list (grab_new (Nat.le_refl _) hD cls_ne) rfl rfl (h4.mono x.ext))
theorem fun_list_items {kvs : List (Str × D)} (hz : kvs.length ≤ 16777216) : Fun K w N k (.type "list") [.view "dict_items" kvs] (.list (kvs.map fun kv => .tup [.str kv.1, kv.2])) := fun A σ s vs Q E g rm r q => by
  cases r with | cons r1 r2 =>
  cases r2
  cases r1 with | @view va vo _ a _ y1 y2 y3 y4 =>
  cases y4 with | @dict _ o _ es h1 h2 h3 =>
  obtain ⟨e, ep, x1, x2, x3, x4, x5⟩ := id h2
  have ln := h3.len
  refine wpAny_size (kdx_call (knd := strKind PR w) (ep := ep) (kvs := es) rm.handled ⟨vo, (g.sto _ _ y1).1, y2, y3⟩ ⟨o, e, (g.sto _ _ h1).1, x1, x2, x3, x4, x5⟩ (by rw [sizeLine_eq]; omega) fun h' tk acc c as hk hl hal hG hacc hsz => ?_)
  have x := Step.grab (s' := { s with heap := h', toks := tk }) g hk hsz rfl rfl
  refine q _ _ _ x (.list (grab_new (Nat.le_refl _) hl cls_ne) rfl rfl ?_)
  rw [hacc]
  have gen : ∀ (j : Nat) (ks : List (Str × D)) (as' : List Addr), kvs.drop j = ks → as.drop j = as' → RepL w (Mine.grab σ s.heap.objs.size h') (ks.map fun kv => D.tup [.str kv.1, kv.2]) (as'.map Value.ref) := by
    intro j ks
    induction ks generalizing j with
    | nil =>
      intro as' e1 e2
      have hj : as.length ≤ j := by rw [hal, ln]; exact List.drop_eq_nil_iff.mp e1
      rw [List.drop_eq_nil_iff.mpr hj] at e2
      subst e2
      exact .nil
    | cons kv ks ih =>
      intro as' e1 e2
      have hj : j < kvs.length := by
        rcases Nat.lt_or_ge j kvs.length with h | h
        · exact h
        · rw [List.drop_eq_nil_iff.mpr h] at e1; cases e1
      rw [List.drop_eq_getElem_cons hj] at e1
      rw [List.drop_eq_getElem_cons (show j < as.length by omega)] at e2
      subst e2
      injection e1 with e1 e3
      obtain ⟨key, k', x', p1, p2, p3⟩ := hG.pairs j as[j] (List.getElem?_eq_getElem _)
      obtain ⟨t, rfl⟩ := Value.isStrOf_shape p2
      obtain ⟨ek, rv⟩ := h3.get (k := kv.1) (d := kv.2) (by rw [List.getElem?_eq_getElem hj, e1]) p1
      refine .cons (.tup (grab_new (Nat.le_of_lt (hG.above _ (List.getElem_mem _))) p3 cls_ne) rfl rfl ?_) (ih (j + 1) _ e3 rfl)
      rw [ek]
      exact .cons .str (.cons (rv.mono x.ext) .nil)
  exact gen 0 kvs as rfl rfl
end
end Mine
end
section
open PySem PySem.W PyProof.Rows PySem.Calls
set_option Elab.async false
set_option maxRecDepth 100000
set_option autoImplicit false
set_option linter.unusedVariables false
set_option linter.unusedSimpArgs false
namespace Mine

/-- a datum laid under a key -/
noncomputable def lay (kvs : List (Str × D)) (x : Str) (d : D) : List (Str × D) := if kvs.any (fun kv => kv.1 = x) then kvs.map (fun kv => if kv.1 = x then (kv.1, d) else kv) else kvs ++ [(x, d)]

theorem RepE.any {P : World} {σ : Sto} {x : Str} : ∀ {ds vs}, RepE P σ ds vs → (vs.any fun kv => kv.1 = x) = ds.any fun kv => kv.1 = x
  | _, _, .nil => rfl
  | _, _, .cons r rs => by simp only [List.any_cons]; rw [RepE.any rs]
theorem RepE.map {P : World} {σ : Sto} {x : Str} {d : D} {v : Value} (r : Rep P σ d v) : ∀ {ds vs}, RepE P σ ds vs → RepE P σ (ds.map fun kv => if kv.1 = x then (kv.1, d) else kv) (vs.map fun kv => if kv.1 = x then (kv.1, v) else kv)
  | _, _, .nil => .nil
  | _, _, .cons (k := k) r1 rs => by
    simp only [List.map_cons]
    by_cases e : k = x
    · rw [if_pos e, if_pos e]; exact .cons r (RepE.map r rs)
    · rw [if_neg e, if_neg e]; exact .cons r1 (RepE.map r rs)
theorem RepE.snoc {P : World} {σ : Sto} {x : Str} {d : D} {v : Value} (r : Rep P σ d v) : ∀ {ds vs}, RepE P σ ds vs → RepE P σ (ds ++ [(x, d)]) (vs ++ [(x, v)])
  | _, _, .nil => .cons r .nil
  | _, _, .cons r1 rs => .cons r1 (RepE.snoc r rs)
theorem RepE.stored {P : World} {σ : Sto} {x : Str} {d : D} {v : Value} (r : Rep P σ d v) {ds vs} (h : RepE P σ ds vs) : RepE P σ (lay ds x d) (PySem.stored vs x v) := by
  unfold lay PySem.stored
  rw [h.any]
  by_cases e : (ds.any fun kv => decide (kv.1 = x)) = true
  · rw [if_pos e, if_pos e]; exact h.map r
  · rw [if_neg e, if_neg e]; exact h.snoc r

theorem nodup_app {α : Type} {l : List α} {x : α} (h : l.Nodup) (hx : x ∉ l) : (l ++ [x]).Nodup := by
  rw [List.nodup_append]
  refine ⟨h, by simp, fun a ha b hb => ?_⟩
  simp at hb; subst hb
  exact fun e => hx (e ▸ ha)

section
variable {c : Cx} {V : List (Option D)} {M : List Own} {Φ : Nx} {Ψ : Rt} {rest : List Stmt}

theorem own_dict {σ : Sto} {s : Shared} {a : Addr} {kvs : List (Str × D)} {j : Nat} (f : F c V M σ s) (hm : M[j]? = some ⟨a, od c.w kvs⟩) : ∃ es, s.heap.DictOf (strKind PR c.w) a es ∧ RepE c.w σ kvs es ∧ (a == sysModules) = false := by
  obtain ⟨o, ho, _, es, h1, h2⟩ := f.muta _ (List.mem_of_getElem? hm)
  have := f.own a (.inr (.inr ⟨_, List.mem_of_getElem? hm⟩))
  exact ⟨es, Heap.dictOf_iff.mpr ⟨o, ho, h1⟩, h2, not_sys (Nat.le_trans f.step.g.base.big (Nat.le_trans f.lo this.1))⟩

/-- x[i] = e, x an own dict -/
theorem xs_setown {x : Str} {np tp pos : Pos} {i e : Expr} {a : Addr} {kvs : List (Str × D)} {y : Str} {d : D} (n j : Nat) (hx : c.ns[n]? = some x) (hv : V[n]? = some (some (.val (.ref a)))) (hm : M[j]? = some ⟨a, od c.w kvs⟩)
    (he : Ev c V M e d) (hi : Ev c V M i (.str y)) (hsz : kvs.length ≤ 16777216) (hr : Xs c V (M.set j ⟨a, od c.w (lay kvs y d)⟩) rest Φ Ψ)
    (hs : swapsWith e (some (.Subscript (.Name x np) i tp)) pos.line c.env = pure false := by rfl) : Xs c V M (.Assign [.Subscript (.Name x np) i tp] e pos :: rest) Φ Ψ := xs_cons fun σ s Q E f kn kr => by
  refine wpAny_Assign_Subscript (he.use f fun σ1 s1 v1 x1 f1 r1 => (ev_var n hx hv).use f1 fun σ2 s2 v2 x2 f2 r2 => hi.use f2 fun σ3 s3 v3 x3 f3 r3 => ?_) hs
  cases r2
  cases r3
  obtain ⟨es, hd, re, _⟩ := own_dict f3 hm
  have ln := re.len
  refine wpAny_setItem_pairs (knd := strKind PR c.w) (k := y) (strKind_is ..) hd (fun h' hd' hs' => ?_) (by rw [sizeLine_eq]; omega)
  obtain ⟨o', ho', hd''⟩ := Heap.dictOf_iff.mp hd'
  have hcls : o'.cls = .type "dict" := by obtain ⟨_, _, q, _⟩ := hd''; exact q.1
  exact kn σ3 { s3 with heap := h', toks := s3.toks + 1 } _ _ (f3.upd hm (.of hs') ho' (by rw [hcls]; exact cls_ne) ⟨_, hd'', re.stored ((r1.mono x2.ext).mono x3.ext)⟩ od_mono rfl rfl) hr

/-- x[i] op= e, x an own dict -/
theorem xs_augown {x : Str} {np tp pos : Pos} {i e : Expr} {op : Operator} {a : Addr} {kvs : List (Str × D)} {y : Str} {d0 d1 d : D} (n j : Nat) (hx : c.ns[n]? = some x) (hv : V[n]? = some (some (.val (.ref a)))) (hm : M[j]? = some ⟨a, od c.w kvs⟩)
    (hi : Ev c V M i (.str y)) (hl : look kvs y = some d0) (he : Ev c V M e d1) (ho : P2 c.K c.w c.N (inplaceOp op) d0 d1 d) (hsz : kvs.length ≤ 16777216) (hr : Xs c V (M.set j ⟨a, od c.w (lay kvs y d)⟩) rest Φ Ψ)
    (hs : ∀ ov iv new, augStore i ov iv new = (do holding [new, ov, iv] (setItem ov iv new); release [new, ov, iv] []; pure .next) := by intros; rfl) : Xs c V M (.AugAssign (.Subscript (.Name x np) i tp) op e pos :: rest) Φ Ψ := xs_cons fun σ s Q E f kn kr => by
  refine wpAny_AugAssign_SubscriptAny ((ev_var n hx hv).use f fun σ2 s2 v2 x2 f2 r2 => hi.use f2 fun σ3 s3 v3 x3 f3 r3 => ?_) hs
  cases r2
  cases r3
  obtain ⟨es, hd, re, _⟩ := own_dict f3 hm
  obtain ⟨v0, hv0, r0⟩ := re.look.1 d0 hl
  refine wpAny_getItem_of (knd := strKind PR c.w) (k := y) (strKind_is ..) hd.mapOf hv0 ?_
  have f4 := f3.tok (s3.toks + 1)
  refine he.use f4 fun σ5 s5 v5 x5 f5 r5 => ?_
  refine ho c.A σ5 s5 v0 v5 _ _ f5.step.g (f5.rm.mono (Nat.zero_le _)) (r0.mono x5.ext) r5 fun σ6 s6 v6 x6 r6 => ?_
  have f6 := f5.stable x6
  obtain ⟨es', hd', re', _⟩ := own_dict f6 hm
  have ln := re'.len
  refine wpAny_setItem_pairs (knd := strKind PR c.w) (k := y) (strKind_is ..) hd' (fun h' hd'' hs' => ?_) (by rw [sizeLine_eq]; omega)
  obtain ⟨o', ho', hd3⟩ := Heap.dictOf_iff.mp hd''
  have hcls : o'.cls = .type "dict" := by obtain ⟨_, _, q, _⟩ := hd3; exact q.1
  exact kn σ6 { s6 with heap := h', toks := s6.toks + 1 } _ _ (f6.upd hm (.of hs') ho' (by rw [hcls]; exact cls_ne) ⟨_, hd3, re'.stored r6⟩ od_mono rfl rfl) hr

/-- x[i], x an own dict -/
theorem ev_getown {x : Str} {np pos : Pos} {i : Expr} {a : Addr} {kvs : List (Str × D)} {y : Str} {d : D} (n j : Nat) (hx : c.ns[n]? = some x) (hv : V[n]? = some (some (.val (.ref a)))) (hm : M[j]? = some ⟨a, od c.w kvs⟩)
    (hi : Ev c V M i (.str y)) (hl : look kvs y = some d) (hs : ∀ a b, subscripted i false a b = operate [a, b] (getItem a b) := by intro _ _; with_unfolding_all rfl) : Ev c V M (.Subscript (.Name x np) i pos) d := fun σ s Q E f q => by
  refine Subscript_ ((ev_var n hx hv).use f fun σ2 s2 v2 x2 f2 r2 => hi.use f2 fun σ3 s3 v3 x3 f3 r3 => ?_)
  cases r2
  cases r3
  obtain ⟨es, hd, re, _⟩ := own_dict f3 hm
  obtain ⟨v0, hv0, r0⟩ := re.look.1 d hl
  exact tail_any hd.typeIs slot_dict_getitem.lookup (wpAny_getItem_of (knd := strKind PR c.w) (k := y) (strKind_is ..) hd.mapOf hv0 (q _ _ _ ((x2.trans x3).trans (.tok f3.step.g _)) r0)) (hs _ _)

/-- i in x, x an own dict -/
theorem et_inown {x : Str} {np pos : Pos} {i : Expr} {a : Addr} {kvs : List (Str × D)} {y : Str} {b : Bool} (n j : Nat) (hx : c.ns[n]? = some x) (hv : V[n]? = some (some (.val (.ref a)))) (hm : M[j]? = some ⟨a, od c.w kvs⟩)
    (hi : Ev c V M i (.str y)) (hl : (look kvs y).isSome = b) (hmk : behindInMarks .In (.Name x np) = false := by with_unfolding_all rfl) : Et c V M (.Compare i [.In] [.Name x np] pos) b := fun σ s Q E f q => by
  refine wpAny_isTrue_Compare1 (hi.use f fun σ2 s2 v2 x2 f2 r2 => (ev_var n hx hv).use f2 fun σ3 s3 v3 x3 f3 r3 => ?_) hmk
  cases r2
  cases r3
  obtain ⟨es, hd, re, hsys⟩ := own_dict f3 hm
  refine wpAny_in_of (knd := strKind PR c.w) (k := y) (strKind_is ..) hsys hd.mapOf ?_
  have e : (valueAt es y).isSome = b := by
    rw [← hl]
    cases hk : look kvs y with
    | none => rw [re.look.2 hk]; rfl
    | some d => obtain ⟨v, hv, _⟩ := re.look.1 d hk; rw [hv]; rfl
  rw [e]
  exact wpAny_truthy_bool (q _ _ ((x2.trans x3).trans (.tok f3.step.g _)))

/-- x.get(i, e), x an own dict -/
theorem ev_getdown {x : Str} {np ap pos : Pos} {i e : Expr} {a : Addr} {kvs : List (Str × D)} {y : Str} {d d0 : D} (n j : Nat) (hx : c.ns[n]? = some x) (hv : V[n]? = some (some (.val (.ref a)))) (hm : M[j]? = some ⟨a, od c.w kvs⟩)
    (hi : Ev c V M i (.str y)) (hst : isStarred i = false) (he : Ev c V M e d0) (hst' : isStarred e = false) (hl : (look kvs y).getD d0 = d)
    (hline : (ap.endLine == pos.line) = true := by rfl) : Ev c V M (.Call (.Attribute (.Name x np) "get" ap) [i, e] [] pos) d := fun σ s Q E f q => by
  have tr : backTo pos (starEach [i, e] c.env) = [(false, eval i c.env), (false, eval e c.env)] := by rw [starEach_cons hst, starEach_cons hst']; rfl
  refine wpAny_Call_method (T := "dict") (id := "dict.get") rfl (by rw [tr]; rfl) hline PySem.F.plainAttrs_dict PySem.F.slot_dict_get PySem.F.type_dict_get ((ev_var n hx hv).use f fun σ2 s2 v2 x2 f2 r2 => ?_)
  cases r2
  obtain ⟨es, hd, re, hsys⟩ := own_dict f2 hm
  refine ⟨hd.typeIs, hd.mapOf.noDict, ?_⟩
  have ha : EvL c V M [i, e] [.str y, d0] := .cons hst hi (.cons hst' he .nil)
  refine callWith_builtin (backTo_plain ha pos) (ha.args f2 fun σ3 s3 vs x3 f3 r3 => ?_)
  cases r3 with | cons ri r3 =>
  cases r3 with | cons rd r3 =>
  cases r3
  cases ri
  obtain ⟨es', hd', re', _⟩ := own_dict f3 hm
  refine call_meetsIn PySem.F.slot_dict_get hd'.typeIs PySem.F.entry_dict_get (PySem.F.args_dict_get_3 _ _ _) (meets_dict_get_default (strKind PR c.w) a (k := y) (strKind_is ..) hsys _) ⟨_, hd'.mapOf, q _ _ _ ((x2.trans x3).trans (.tok f3.step.g _)) ?_⟩
  rw [← hl]
  cases hk : look kvs y with
  | none => rw [re'.look.2 hk]; exact rd
  | some d => obtain ⟨v, hv, r⟩ := re'.look.1 d hk; rw [hv]; exact r
end

section
variable {prog : Program} {w : World} {A : Around} {E : Value → Shared → Prop} {s : Shared}
theorem sliceApplied_to {sl : Addr} {a n : Nat} {u : Tok} {Q : Int × Int × Nat → Shared → Prop} (hs : s.heap.IsSliceOf sl .none (.int a u) .none) (ha : a ≤ n) (h : Q (0, 1, a) s) :
    wpAny (model prog w) A (Builtin.Slice.sliceApplied (.ref sl) (pure (n : Int))) Q E s := by
  obtain ⟨os, hos, hcs, hds⟩ := id hs
  unfold Builtin.Slice.sliceApplied Builtin.Slice.sliceFields
  refine wpAny_bind (wpAny_bind (wpAny_field hos hds (x := .none) rfl (wpAny_bind (wpAny_field hos hds (x := .int a u) rfl (wpAny_bind (wpAny_field hos hds (x := .none) rfl (wpAny_pure ?_)))))))
  refine wpAny_bind (slicePart_none ?_)
  show wpAny _ _ (if ((1 : Int) == 0) = true then _ else _) _ _ s
  rw [if_neg (by decide)]
  refine wpAny_bind (slicePart_none (wpAny_bind (slicePart_int (wpAny_bind (wpAny_pure ?_)))))
  have e1 : Builtin.Slice.sliceAdjust none (some (a : Int)) 1 (n : Int) = (0, (a : Int)) := by
    unfold Builtin.Slice.sliceAdjust
    have h1 : ¬ ((1 : Int) < 0) := by omega
    have h2 : ¬ ((a : Int) < 0) := by omega
    simp only [h1, h2, if_false]
    congr 1
    omega
  have e2 : Builtin.Slice.slicePlaces 0 (a : Int) 1 = a := by
    unfold Builtin.Slice.slicePlaces
    have h1 : (1 : Int) > 0 := by omega
    simp only [h1, if_true, Int.ediv_one]
    split <;> omega
  show wpAny _ _ (match Builtin.Slice.sliceAdjust none (some (a : Int)) 1 (n : Int) with | (lo, hi) => pure (lo, (1 : Int), Builtin.Slice.slicePlaces lo hi 1)) _ _ s
  rw [e1]
  show wpAny _ _ (pure ((0 : Int), (1 : Int), Builtin.Slice.slicePlaces 0 (a : Int) 1)) _ _ s
  rw [e2]
  exact wpAny_pure h
theorem getItem_tuple_to {t sl : Addr} {items : Array Value} {a : Nat} {u : Tok} {Q : Value → Shared → Prop} (ht : IsTup s.heap t items) (hs : s.heap.IsSliceOf sl .none (.int a u) .none) (ha : a < items.size)
    (h : Q (.ref s.heap.objs.size) { s with heap := s.heap.push { cls := .type "tuple", data := .seq (items.toList.take a).toArray } }) (hsz : items.size ≤ sizeLine) : wpAny (model prog w) A (getItem (.ref t) (.ref sl)) Q E s := by
  have htake : sizeOk (.seq (items.toList.take a).toArray) := by
    show (items.toList.take a).toArray.size ≤ sizeLine
    rw [List.size_toArray, List.length_take, Array.length_toList]
    omega
  obtain ⟨os, hos, hcs, hds⟩ := id hs
  have hTs : s.TypeIs (.ref sl) "slice" := ⟨os, hos, hcs⟩
  unfold getItem
  refine wpAny_holding ?_
  refine wpAny_bind (wpAny_sequenceKey ht.typeIs (by decide) ?_)
  refine wpAny_bind (wpAny_callSpecial?_slot (name := Str.ofString "__getitem__") ht.typeIs slot_tuple_getitem
    (wpAny_call_entry slot_tuple_getitem ht.typeIs entry_tuple_getitem ?_ (args_tuple_getitem _ _)))
  show wpAny _ _ (Builtin.Tuple.tupleItemsOf (.ref t) >>= _) _ _ s
  refine wpAny_bind (tupleItemsOf_ ht ?_)
  refine wpAny_bind (wpAny_typeOf hTs ?_)
  rw [if_pos (by decide)]
  refine wpAny_bind (sliceApplied_to hs (Nat.le_of_lt ha) ?_)
  have hno : ¬ (((0 : Int) == 0 && (1 : Int) == 1 && a == items.size) = true) := by
    have : (a == items.size) = false := by rw [beq_eq_false_iff_ne]; omega
    rw [this]; simp
  show wpAny _ _ (if ((0 : Int) == 0 && (1 : Int) == 1 && a == items.size) = true then _ else _) _ _ s
  have epick : ((List.range a).filterMap fun (k : Nat) => items[((0 : Int) + (k : Int) * 1).toNat]?).toArray = (items.toList.take a).toArray := by
    have e : (fun (k : Nat) => items[((0 : Int) + (k : Int) * 1).toNat]?) = fun k => items[0 + k]? := by
      funext k
      have : ((0 : Int) + (k : Int) * 1).toNat = 0 + k := by omega
      rw [this]
    rw [e]
    have := pick_run items 0 a
    rw [List.filterMap_map] at this
    have e2 : ((fun x => items[x]?) ∘ fun x => 0 + x) = fun k => items[0 + k]? := rfl
    rw [e2] at this
    rw [this, List.drop_zero]
  rw [if_neg hno, epick]
  first
    | exact wpAny_bind (m := Builtin.Tuple.tupleExact _) (wpAny_newObj_type (wpAny_pure ⟨_, rfl, wpAny_pure h⟩) htake)
    | exact wpAny_bind (m := Builtin.Tuple.tupleExact _) (wpAny_newObj_type (wpAny_bind (wpAny_pure (wpAny_pure ⟨_, rfl, wpAny_pure h⟩))) htake)
    | exact wpAny_bind (wpAny_bind (m := Builtin.Tuple.tupleExact _) (wpAny_newObj_type (wpAny_pure (wpAny_pure ⟨_, rfl, wpAny_pure h⟩)) htake))
    | exact wpAny_bind (wpAny_bind (m := Builtin.Tuple.tupleExact _) (wpAny_newObj_type (wpAny_pure ⟨_, rfl, wpAny_pure h⟩) htake))
end

section
variable {K : Frag} {w : World} {N k : Nat}
theorem psl_tup {ds : List D} {hi : Nat} (hlt : hi < ds.length) (hz : ds.length ≤ 1000) : Psl K w N (.tup ds) none (some (hi : Int)) (.tup (ds.take hi)) := fun A σ s v vl vu sl Q E g rm r pl pu hs q => by
  cases r with | @tup a o items n _ h1 h2 h3 h4 =>
  cases pl
  cases pu
  have ln := h4.len
  rw [Array.length_toList] at ln
  have x := Step.push g (o := { cls := .type "tuple", data := .seq (items.toList.take hi).toArray }) rfl cls_ne
  refine getItem_tuple_to ⟨o, (g.sto _ _ h1).1, h2, n, h3⟩ hs (by omega) (q _ _ _ x (.tup put_self rfl rfl ?_)) (by rw [sizeLine_eq]; omega)
  exact RepL.take (h4.mono x.ext) hi

theorem ite_yes {c : Prop} [Decidable c] {X Y : Prop} (hc : c) (h : X) : if c then X else Y := by
  rw [if_pos hc]
  exact h
open PySem.Builtin in
theorem meets_bslice_whole (b : Array UInt8) (t : Tok) (a : Addr) {l u : Value} {lo hi : Option Int} (hl : IsPart l lo) (hu : IsPart u hi) (hne : KBy.whole b lo hi = true) :
    Meets («bytes.__getitem__» ⟨[.bytes b t, .ref a], []⟩) (fun _ R s => s.heap.IsSliceOf a l u .none ∧ R (.ok (.ret (.bytes b t))) s) := by
  refine .of_wp fun prog w A R s hS => ?_
  obtain ⟨⟨o, ho, hc, hd⟩, h⟩ := hS
  have hT : s.TypeIs (.ref a) "slice" := ⟨o, ho, hc⟩
  show wpAny _ _ (Bytes.payload (.bytes b t) >>= fun r => _) _ _ s
  refine wpAny_bind (wpAny_of_eq (a := b) rfl ?_)
  show wpAny _ _ (Bytes.subscript? (.ref a) >>= fun r => _) _ _ s
  refine wpAny_bind ?_
  unfold Bytes.subscript?
  refine wpAny_bind (wpAny_specialOf hT slice_no_index (wpAny_pure ?_))
  refine wpAny_bind (wpAny_typeOf hT ?_)
  show wpAny _ _ (Bytes.sliceParts (.ref a) >>= fun r => _) _ _ s
  refine wpAny_bind ?_
  unfold Bytes.sliceParts
  refine wpAny_bind (wpAny_field (x := .none) ho hd rfl ?_)
  kby_none
  refine wpAny_ite (KBy.ite_no (show ¬ ((Value.none == rawInt 0) = true) from Bool.false_ne_true) ?_)
  refine wpAny_bind (wpAny_field (x := l) ho hd rfl ?_)
  have go : wpAny (model prog w) A.in1 (sliceIndices (rawPart lo) (rawPart hi) (rawPart none) b.size) (fun r s' => r = sliceBounds lo hi none b.size ∧ s' = s) (fun _ _ => False) s :=
    wpAny_of_eq (sliceIndices_raw lo hi none b.size (fun e => nomatch e)) ⟨rfl, rfl⟩
  cases hl <;> cases hu <;> (first
    | (kby_none; (refine wpAny_bind (wpAny_field (x := .none) ho hd rfl ?_)); kby_none)
    | (kby_none; (refine wpAny_bind (wpAny_field (x := .int _ _) ho hd rfl ?_)); kby_int)
    | (kby_int; (refine wpAny_bind (wpAny_field (x := .none) ho hd rfl ?_)); kby_none)
    | (kby_int; (refine wpAny_bind (wpAny_field (x := .int _ _) ho hd rfl ?_)); kby_int)) <;> refine wpAny_pure ?_
  all_goals
    refine wpAny_bind (wpAny_mono go (fun r s' hr => ?_) fun _ _ e => e.elim)
    obtain ⟨hr1, hr2⟩ := hr
    subst hr1 hr2
    refine wpAny_ite (ite_yes hne ?_)
    refine wpAny_bind (wpAny_typeOf (T := "bytes") rfl ?_)
    rw [if_pos (by decide)]
    exact wpAny_bind (wpAny_rule (wpAny_pure ⟨_, rfl, h⟩))

theorem pick_bytes (l : List UInt8) (a : Nat) : ∀ k, ((List.range k).map (a + ·)).filterMap (l.toArray[·]?) = (l.drop a).take k
  | 0 => by simp
  | k + 1 => by
    rw [List.range_succ, List.map_append, List.filterMap_append, pick_bytes l a k, List.take_add_one]
    congr 1
    simp only [List.map_cons, List.map_nil, List.getElem?_drop]
    cases h : l[a + k]? <;> simp [h]
theorem bounds_run (n a b : Nat) (ha : a ≤ n) : sliceBounds (some (a : Int)) (some (b : Int)) none n = ((a : Int), ((min b n : Nat) : Int), 1) := by
  simp only [sliceBounds, Option.getD_none]
  have h1 : ¬ ((a : Int) < 0) := by omega
  have h2 : ¬ ((b : Int) < 0) := by omega
  simp only [h1, h2, if_false, show (1 : Int) > 0 by decide, if_true]
  congr 1
  · omega
  · congr 1; omega
theorem picked_run (l : List UInt8) (a b : Nat) (ha : a ≤ l.length) (hab : a ≤ b) : KBy.picked l.toArray (some (a : Int)) (some (b : Int)) = ((l.drop a).take (b - a)).toArray := by
  unfold KBy.picked Builtin.Bytes.sliced
  rw [List.size_toArray, bounds_run _ _ _ ha]
  simp only [sliceRange_one, pick_bytes]
  congr 1
  rcases Nat.le_total b l.length with h | h
  · rw [Nat.min_eq_left h]
  · rw [Nat.min_eq_right h, List.take_of_length_le (by simp), List.take_of_length_le (by simp; omega)]
theorem psl_bytes {l : List UInt8} {a b : Nat} (ha : a ≤ l.length) (hab : a ≤ b) (hz : l.length ≤ 16777216) : Psl K w N (.bytes l) (some (a : Int)) (some (b : Int)) (.bytes ((l.drop a).take (b - a))) := fun A σ s v vl vu sl Q E g rm r pl pu hs q => by
  cases r with | @bytes _ t =>
  have hp := picked_run l a b ha hab
  cases hw : KBy.whole l.toArray (some (a : Int)) (some (b : Int)) with
  | false =>
    refine getItem_meets (typeIs_bytes _ _ _) (by decide) FB.slot_bytes_getitem FB.entry_bytes_getitem (FB.args_bytes_getitem_2 _ _) (KBy.meets_slice l.toArray t _ pl pu hw) ⟨hs, ?_, q _ _ _ (.tok g _) (by rw [hp]; exact .bytes)⟩
    rw [hp, sizeLine_eq, List.size_toArray, List.length_take, List.length_drop]
    omega
  | true =>
    refine getItem_meets (typeIs_bytes _ _ _) (by decide) FB.slot_bytes_getitem FB.entry_bytes_getitem (FB.args_bytes_getitem_2 _ _) (meets_bslice_whole l.toArray t _ pl pu hw) ⟨hs, q _ _ _ (.refl g) ?_⟩
    have e : (l.drop a).take (b - a) = l := by
      unfold KBy.whole at hw
      rw [List.size_toArray, bounds_run _ _ _ ha] at hw
      simp only [Bool.and_eq_true, beq_iff_eq] at hw
      have h0 : a = 0 := by omega
      subst h0
      rw [List.drop_zero, List.take_of_length_le (by omega)]
    rw [e]; exact .bytes
end
end Mine
end
section
open PySem PySem.W PyProof.Rows PySem.Calls
set_option Elab.async false
set_option maxRecDepth 100000
set_option autoImplicit false
set_option linter.unusedVariables false
set_option linter.unusedSimpArgs false
namespace Mine

noncomputable def Cx.comp (c : Cx) (scope : Scope) (cl : List (Str × Addr)) (ns : List Str) (C : Addr) (s₀ : Shared) (σ₀ : Sto) : Cx := ⟨c.K, c.w, c.N, c.k, c.A, compEnvC scope cl C c.env, ns, false, s₀, σ₀⟩

inductive Sub (cells : List (Str × Addr)) : List (Str × Addr) → Prop where
  | nil : Sub cells []
  | cons {x a cl} : cells.lookup x = some a → Sub cells cl → Sub cells ((x, a) :: cl)
theorem Sub.get {cells : List (Str × Addr)} {cl : List (Str × Addr)} (h : Sub cells cl) : ∀ y a, cl.lookup y = some a → cells.lookup y = some a := by
  induction h with
  | nil => intro y a e; cases e
  | @cons x b cl h1 _ ih =>
    intro y a e
    rw [List.lookup_cons] at e
    cases q : y == x with
    | true => rw [q] at e; cases e; rw [eq_of_beq q]; exact h1
    | false => rw [q] at e; exact ih y a e

inductive Frees (c : Cx) (V : List (Option D)) (scope : Scope) (cl : List (Str × Addr)) : List Str → List (Option D) → Prop where
  | nil : Frees c V scope cl [] []
  | cons {x d fns Vf} (n : Nat) : c.ns[n]? = some x → V[n]? = some (some d) → (c.env.kindOf x == some .local) = false → cl.lookup x = c.env.cells.lookup x →
      ((relabel scope c.env).names.lookup x = some .cell ∨ (relabel scope c.env).names.lookup x = some .free) → Frees c V scope cl fns Vf → Frees c V scope cl (x :: fns) (some d :: Vf)
theorem Frees.get {c : Cx} {V : List (Option D)} {scope : Scope} {cl : List (Str × Addr)} {fns : List Str} {Vf : List (Option D)} (h : Frees c V scope cl fns Vf) : ∀ (i : Nat) x, fns[i]? = some x →
    ∃ n : Nat, c.ns[n]? = some x ∧ c.env.kindOf x ≠ some .local ∧ cl.lookup x = c.env.cells.lookup x ∧ ((relabel scope c.env).names.lookup x = some .cell ∨ (relabel scope c.env).names.lookup x = some .free) ∧ ∀ d, Vf[i]? = some (some d) → V[n]? = some (some d) := by
  induction h with
  | nil => intro i x e; simp at e
  | @cons x d fns Vf n h1 h2 h3 h4 h5 _ ih =>
    intro i y e
    cases i with
    | zero =>
      simp at e; subst e
      exact ⟨n, h1, (fun q => by rw [q] at h3; simp at h3), h4, h5, fun d' e' => by simp at e'; subst e'; exact h2⟩
    | succ i => simp at e; obtain ⟨m, z⟩ := ih i y e; exact ⟨m, by simpa using z⟩
theorem Frees.len {c : Cx} {V : List (Option D)} {scope : Scope} {cl : List (Str × Addr)} {fns : List Str} {Vf : List (Option D)} (h : Frees c V scope cl fns Vf) : fns.length = Vf.length := by
  induction h with
  | nil => rfl
  | cons _ _ _ _ _ _ _ ih => simp [ih]

noncomputable def nsOK (scope : Scope) (env : Env) (tn fns : List Str) : Bool :=
  decide (tn ++ fns).Nodup && (tn ++ fns).all (fun x => !(x == ("__debug__" : Str)) && !(x == ("__classdict__" : Str))) && tn.all (fun x => (relabel scope env).names.lookup x == some .local)
    && scope.names.all (fun y => !(y.2 == .cell)) && scope.kind == .function && scope.names.all (fun y => !(y.2 == .local) || scope.names.lookup y.1 == some .local)
theorem nsOK_spec {scope : Scope} {env : Env} {tn fns : List Str} (h : nsOK scope env tn fns = true) : (tn ++ fns).Nodup ∧ (∀ x ∈ tn ++ fns, (x == ("__debug__" : Str)) = false ∧ (x == ("__classdict__" : Str)) = false) ∧
    (∀ x ∈ tn, (relabel scope env).names.lookup x = some .local) ∧ (∀ y ∈ scope.names, y.2 ≠ .cell) ∧ scope.kind = .function ∧ (∀ y ∈ scope.names, y.2 = .local → scope.names.lookup y.1 = some .local) := by
  unfold nsOK at h
  simp only [Bool.and_eq_true, decide_eq_true_eq, List.all_eq_true, Bool.not_eq_true', beq_iff_eq, Bool.or_eq_true] at h
  obtain ⟨⟨⟨⟨⟨h1, h2⟩, h3⟩, h4⟩, h5⟩, h6⟩ := h
  refine ⟨h1, fun x hx => h2 x hx, h3, fun y hy e => ?_, ?_, fun y hy e => ?_⟩
  · have := h4 y hy; rw [e] at this; simp at this
  · exact h5
  · rcases h6 y hy with q | q
    · rw [e] at q; simp at q
    · exact q

section
variable {c : Cx} {V : List (Option D)} {M : List Own} {Φ : Nx} {Ψ : Rt} {rest : List Stmt}

/-- an object that is nobody's is changed -/
theorem F.off {σ : Sto} {s s' : Shared} {C : Addr} (f : F c V M σ s) (hs : Ch C s.heap s'.heap) (hC : c.s₀.heap.objs.size ≤ C) (hσ : σ C = none) (hT : C ≠ TP) (hl : C ≠ c.env.locals) (hcl : ∀ y a, c.env.cells.lookup y = some a → a ≠ C)
    (hM : ∀ x ∈ M, x.a ≠ C) (hfr : ∀ l, c.A.frames = some l → ∀ env ∈ l, ∀ L, env.frame = some L → L ≠ C) (hg : s'.gens = s.gens) (hos : s'.os = s.os) : F c V M σ s' := by
  obtain ⟨g, st⟩ := f.write hs hC hσ hT hg hos
  refine ⟨st, ?_, f.kind, f.lo, ?_, ?_, f.nodup, f.names, f.nofree, f.tops, ?_, f.locM, fun y a h => Nat.lt_of_lt_of_le (f.celL y a h) hs.size, f.celF, f.locC, f.celC, f.apart, ?_, f.mono⟩
  · obtain ⟨l, hl', hf⟩ := f.rm.frames
    refine ⟨f.rm.depth, f.rm.units, f.rm.handled, l, hl', fun env he => ?_⟩
    obtain ⟨hk, L, o, h1, h2, h3, h4, h5, h6⟩ := hf env he
    exact ⟨hk, L, o, h1, h2, h3, hs.keep L _ (hfr l hl' env he L h1) h4, h5, h6⟩
  · obtain ⟨m, hn, hv⟩ := f.loc
    exact ⟨m, hs.ns hn (Ne.symm hl), hv⟩
  · intro j y hy hk
    obtain ⟨hk', b, u, hb, nt, hcb, hr⟩ := f.cel j y hy hk
    exact ⟨hk', b, u, hb, nt, hs.cell hcb (hcl y b hb), hr⟩
  · intro b hb
    obtain ⟨q1, q2, q3⟩ := f.own b hb
    exact ⟨q1, Nat.lt_of_lt_of_le q2 hs.size, q3⟩
  · intro x hx
    obtain ⟨o₂, ho₂, r⟩ := f.muta x hx
    exact ⟨o₂, hs.keep _ _ (hM x hx) ho₂, r⟩

/-- the frame of a comprehension -/
theorem F.comp {σ : Sto} {s s4 : Shared} (f : F c V M σ s) {scope : Scope} {cl : List (Str × Addr)} {tn fns : List Str} {Vf : List (Option D)} {I A C : Addr} {oi oa : Obj} {p pa : Pr} (hok : nsOK scope c.env tn fns = true) (hsub : Sub c.env.cells cl) (hfr : Frees c V scope cl fns Vf)
    (hI : s.heap.objs.size ≤ I) (hA : s.heap.objs.size ≤ A) (hC : s.heap.objs.size ≤ C) (hIA : I ≠ A) (hIC : I ≠ C) (hAC : A ≠ C) (hkeep : ∀ b o, s.heap.get? b = some o → s4.heap.get? b = some o) (hsz : s.heap.objs.size ≤ s4.heap.objs.size)
    (hg : s4.gens = s.gens) (hos : s4.os = s.os) {m : Str → Option Value} (hns : s4.heap.Ns C m) (hoi : s4.heap.get? I = some oi) (hci : oi.cls ≠ .type "frame") (hpi : p σ oi) (hmi : Own.Mono p) (hoa : s4.heap.get? A = some oa) (hca : oa.cls ≠ .type "frame") (hpa : pa σ oa) (hma : Own.Mono pa) :
    F (c.comp scope cl (tn ++ fns) C s σ) (List.replicate tn.length none ++ Vf) [⟨I, p⟩, ⟨A, pa⟩] σ s4 := by
  obtain ⟨k1, k2, k3, k4, k5, k6⟩ := nsOK_spec hok
  have st := Step.kept f.step.g hkeep hsz hg hos
  have big := f.step.g.base.big
  have size := f.step.g.base.size
  have none' : ∀ b, s.heap.objs.size ≤ b → σ b = none ∧ b ≠ TP := fun b hb => by
    refine ⟨?_, fun q => by have : @Eq Nat b 30 := q; omega⟩
    cases e : σ b with
    | none => rfl
    | some x => exact absurd (Heap.lt_size (f.step.g.sto b x e).1) (Nat.not_lt.mpr hb)
  have cells : ∀ y a, cl.lookup y = some a → a < s.heap.objs.size := fun y a e => f.celL y a (hsub.get y a e)
  refine ⟨st, f.rm.kp st.kp, k5, size, ⟨m, hns, fun i x d h1 h2 h3 => ?_⟩, fun i x h1 h2 => ?_, k1, k2, fun e => Bool.noConfusion (show false = true from e), f.tops, ?_, ?_, fun y a e => Nat.lt_of_lt_of_le (cells y a e) hsz, ?_, ?_, ?_, ?_, ?_, ?_⟩
  · exfalso
    have h1' : (tn ++ fns)[i]? = some x := h1
    rcases Nat.lt_or_ge i tn.length with hi | hi
    · rw [List.getElem?_append_left (by simpa using hi)] at h2
      exact lookupNone h2
    · rw [List.getElem?_append_right hi] at h1'
      obtain ⟨n, _, _, _, h5, _⟩ := hfr.get _ x h1'
      have h3' : (relabel scope c.env).names.lookup x = some .local := h3
      rw [h3'] at h5
      rcases h5 with h5 | h5 <;> cases h5
  · have h1' : (tn ++ fns)[i]? = some x := h1
    rcases Nat.lt_or_ge i tn.length with hi | hi
    · rw [List.getElem?_append_left hi] at h1'
      exact absurd (k3 x (List.mem_of_getElem? h1')) h2
    · rw [List.getElem?_append_right hi] at h1'
      obtain ⟨n, q1, q2, q3, q4, q5⟩ := hfr.get _ x h1'
      obtain ⟨_, a, v, ha, nt, hc, hr⟩ := f.cel n x q1 q2
      refine ⟨q4, a, v, q3.trans ha, nt, hc.keeps hkeep, fun d hd => ?_⟩
      rw [List.getElem?_append_right (by simpa using hi)] at hd
      simp only [List.length_replicate] at hd
      exact hr d (q5 d hd)
  · rintro b (h | ⟨h, _⟩ | ⟨q, h⟩)
    · have : b = C := h
      subst this
      exact ⟨hC, hns.lt, none' _ hC⟩
    · cases h
    · simp at h
      rcases h with ⟨rfl, _⟩ | ⟨rfl, _⟩
      · exact ⟨hI, Heap.lt_size hoi, none' _ hI⟩
      · exact ⟨hA, Heap.lt_size hoa, none' _ hA⟩
  · intro x hx
    simp at hx
    rcases hx with rfl | rfl
    · exact hIC
    · exact hAC
  · intro x hx y a e
    have lt := cells y a e
    simp at hx
    rcases hx with rfl | rfl
    · exact Nat.ne_of_gt (Nat.lt_of_lt_of_le lt hI)
    · exact Nat.ne_of_gt (Nat.lt_of_lt_of_le lt hA)
  · intro y a e q
    have lt := cells y a e
    exact Nat.ne_of_lt (Nat.lt_of_lt_of_le lt hC) q
  · intro x y a e1 e2
    exact f.celC x y a (hsub.get x a e1) (hsub.get y a e2)
  · exact .cons (by simpa using hIA) (.cons (by simp) .nil)
  · intro x hx
    simp at hx
    rcases hx with rfl | rfl
    · exact ⟨oi, hoi, hci, hpi⟩
    · exact ⟨oa, hoa, hca, hpa⟩
  · intro x hx
    simp at hx
    rcases hx with rfl | rfl
    · exact hmi
    · exact hma

/-- the tests of a comprehension -/
noncomputable def Ets (c : Cx) (V : List (Option D)) (M : List Own) (ifs : List Expr) (b : Bool) : Prop :=
  ∀ (σ : Sto) (s : Shared) (Q : Bool → Shared → Prop) (E : Value → Shared → Prop), F c V M σ s → (∀ σ' s', Step c.K c.N σ s σ' s' → Q b s') →
    wpAny (model PR c.w) c.A (forIn ifs true fun t r => if r = true then do let ok ← isTrue t c.env (eval t c.env); pure (ForInStep.yield ok) else pure (ForInStep.yield r)) Q E s
theorem ets_nil : Ets c V M [] true := fun σ s Q E f q => wpAny_tests_nil (q _ _ (.refl f.step.g))
theorem ets_one {t : Expr} {b : Bool} (h : Et c V M t b) : Ets c V M [t] b := fun σ s Q E f q => wpAny_tests_one (h σ s _ _ f q)

theorem lc_loop {prog : Program} {w : World} {A : Around} {s : Shared} {elt target iter : Expr} {ifs : List Expr} {scope : Scope} {pos : Pos} {it acc : Value} {env : Env} {R : Result → Shared → Prop} (I : Nat → Shared → Prop)
    (turn : ∀ n s, I n s → wpAny (model prog w) A (pyNext it) (fun r s₁ => match r with
      | none => R (.ok .next) s₁
      | some v => wpAny (model prog w) A (letOwnedTupleGo target it v) (fun _ s₀ => wpAny (model prog w) A (assign target env v) (fun _ s₂ =>
          wpAny (model prog w) A (forIn ifs true fun c r => if r = true then do let ok ← isTrue c env (eval c env); pure (ForInStep.yield ok) else pure (ForInStep.yield r)) (fun ok s₃ => if ok = true then wpAny (model prog w) A (eval elt env) (fun x s₄ =>
            wpAny (model prog w) A (call (.builtin "list.append") [acc, x]) (fun _ s₅ => ∃ m, m < n ∧ I m s₅) (notedBy (model prog w) A env fun e s' => R (.error e) s') s₄) (notedBy (model prog w) A env fun e s' => R (.error e) s') s₃
            else ∃ m, m < n ∧ I m s₃) (notedBy (model prog w) A env fun e s' => R (.error e) s') s₂)
          (notedBy (model prog w) A env fun e s' => R (.error e) s') s₀) (notedBy (model prog w) A env fun e s' => R (.error e) s') s₁) (notedBy (model prog w) A env fun e s' => R (.error e) s') s)
    (n : Nat) (h : I n s) : codeAny (model prog w) A (.compLoop (.ListComp elt [⟨target, iter, ifs, 0⟩] scope pos) 0 it acc env) R s := by
  refine codeAny_loop rfl I (fun n s hI => ?_) n h
  show wpAny _ A ((compTurn (.ListComp elt [⟨target, iter, ifs, 0⟩] scope pos) 0 it acc env).onRaise (fun x => do noteFrame x env; theTreesLotGoes x)) _ _ s
  refine wpAny_noted ?_
  rw [compTurn_list]
  refine wpAny_bind (wpAny_standAt (wpAny_bind (wpAny_mono (turn n s hI) (fun r s₁ h₁ => ?_) fun _ _ h' => h')))
  cases r with
  | none => exact wpAny_pure h₁
  | some v =>
    refine wpAny_bind (wpAny_mono h₁ (fun _ s₀ h₀' => ?_) fun _ _ h' => h')
    refine wpAny_bind (wpAny_mono h₀' (fun _ s₂ h₂ => ?_) fun _ _ h' => h')
    refine wpAny_bind (wpAny_mono h₂ (fun okb s₃ h₃ => ?_) fun _ _ h' => h')
    cases okb with
    | false => exact wpAny_pure ⟨rfl, h₃⟩
    | true => exact wpAny_bind (wpAny_bind (wpAny_mono h₃ (fun x s₄ h₄ => wpAny_bind (wpAny_mono h₄ (fun _ s₅ h₅ => wpAny_pure (wpAny_pure ⟨rfl, h₅⟩)) fun _ _ h' => h')) fun _ _ h' => h'))

noncomputable abbrev Lc (c : Cx) (V : List (Option D)) (M : List Own) (elt target iter : Expr) (ifs : List Expr) (scope : Scope) (outs : List D) : Prop :=
  ∀ (use : Option (Value → Sem Unit)) (pos : Pos) (σ : Sto) (s : Shared) (Q : Value → Shared → Prop) (E : Value → Shared → Prop), F c V M σ s →
    (∀ σ1 s1 σ' s' C D m, Step c.K c.N σ s σ1 s1 → F c V M σ1 s1 → s1.heap.objs.size ≤ C → σ' C = none → Step c.K c.N σ1 s1 σ' s' → Rep c.w σ' (.list outs) (.ref D) → s'.heap.Ns C m →
      (∀ h', Heap.SameBut C s'.heap h' → Step c.K c.N σ1 s1 σ' { s' with heap := h' }) → compPost (model PR c.w) c.A E use Q (.ref D) C (.ok .next) s') →
    wpAny (model PR c.w) c.A (comprehension (.ListComp elt [⟨target, iter, ifs, 0⟩] scope pos) scope c.env (firstIterPos [⟨target, iter, ifs, 0⟩] pos) (newList []) false (eval iter c.env) use) Q E s

theorem lc_core {elt target iter : Expr} {ifs : List Expr} {scope : Scope} {cl : List (Str × Addr)} {tn fns : List Str} {Vf : List (Option D)} {d : D} {α : Type} (ks : List α) (enc : α → D) (keep : α → Bool) (out : α → D) (V₁ : α → List (Option D))
    (hclos : closureFor scope c.env = pure cl) (hok : nsOK scope c.env tn fns = true) (hsub : Sub c.env.cells cl) (hfr : Frees c V scope cl fns Vf) (hit : Ev c V M iter d)
    (hiter : ∀ C s₀ σ₀, Iters (c.comp scope cl (tn ++ fns) C s₀ σ₀) target d (ks.map enc))
    (hasg : ∀ C s₀ σ₀ a, Asg (c.comp scope cl (tn ++ fns) C s₀ σ₀) target (enc a) (List.replicate tn.length none ++ Vf) (V₁ a))
    (hV : ∀ a (i : Nat) d', (List.replicate tn.length none ++ Vf)[i]? = some (some d') → (V₁ a)[i]? = some (some d'))
    (hts : ∀ C s₀ σ₀ M' a, a ∈ ks → Ets (c.comp scope cl (tn ++ fns) C s₀ σ₀) (V₁ a) M' ifs (keep a))
    (hel : ∀ C s₀ σ₀ M' a, a ∈ ks → keep a = true → Ev (c.comp scope cl (tn ++ fns) C s₀ σ₀) (V₁ a) M' elt (out a)) (hz : ks.length ≤ 16000000)
    (hs : ∀ x, foldedSetIterable iter c.env x = pure x := by intro _; rfl) : Lc c V M elt target iter ifs scope ((ks.filter keep).map out) := fun use pos σ s Q E f q => by
  obtain ⟨k1, k2, k3, k4, k5, k6⟩ := nsOK_spec hok
  refine wpAny_comprehension_free rfl hs hclos k5 k6 (hit.use f fun σ1 s1 v x1 f1 r1 => ?_)
  refine hiter (s1.heap.objs.size + 2) s1 σ1 c.A σ1 s1 v _ _ f1.step.g (f1.rm.mono (Nat.zero_le _)) r1 fun oi tk p p' nx hpi hfi hci hmi => ?_
  refine wpAny_newObj_type (wpAny_newFunctionEnv k4 (by intro y hy; simp at hy) (fun h₁ hns₁ hsb₁ => ?_) k5)
  dsimp only at hns₁ hsb₁ ⊢
  have e2 : ((s1.heap.push oi).push { cls := .type "list", data := .seq ([] : List Value).toArray }).objs.size = s1.heap.objs.size + 2 := by rw [Heap.size_push, Heap.size_push]
  have e1 : (s1.heap.push oi).objs.size = s1.heap.objs.size + 1 := Heap.size_push ..
  rw [e2] at hns₁ hsb₁
  have up : ∀ b o, b ≠ s1.heap.objs.size + 2 → ((s1.heap.push oi).push { cls := .type "list", data := .seq ([] : List Value).toArray }).get? b = some o → h₁.get? b = some o := fun b o hb e => hsb₁.extBut b o hb (Heap.get?_push_of_some _ e)
  have keep0 : ∀ b o, s1.heap.get? b = some o → h₁.get? b = some o := fun b o e => up b o (Nat.ne_of_lt (Nat.lt_of_lt_of_le (Heap.lt_size e) (Nat.le_add_right _ 2))) (Heap.get?_push_of_some _ (Heap.get?_push_of_some _ e))
  have hi : h₁.get? s1.heap.objs.size = some oi := up _ _ (Nat.ne_of_lt (by omega)) (Heap.get?_push_of_some _ (Heap.get?_push_size _ hfi))
  have ha : h₁.get? (s1.heap.objs.size + 1) = some { cls := .type "list", data := .seq ([] : List Value).toArray } := up _ _ (Nat.ne_of_lt (by omega)) (by
    have := Heap.get?_push_size (s1.heap.push oi) (o := { cls := .type "list", data := .seq ([] : List Value).toArray }) rfl
    rw [e1] at this; exact this)
  have hz1 : h₁.objs.size = s1.heap.objs.size + 3 := by rw [hsb₁.1, Heap.size_push, e2]
  have f4 : ∀ tk', F (c.comp scope cl (tn ++ fns) (s1.heap.objs.size + 2) s1 σ1) (List.replicate tn.length none ++ Vf) [⟨s1.heap.objs.size, p 0⟩, ⟨s1.heap.objs.size + 1, ol c.w []⟩] σ1 { s1 with heap := h₁, toks := tk' } := fun tk' =>
    f1.comp (pa := ol c.w []) hok hsub hfr (Nat.le_refl _) (by omega) (by omega) (Nat.ne_of_lt (by omega)) (Nat.ne_of_lt (by omega)) (Nat.ne_of_lt (by omega)) keep0 (by show _ ≤ h₁.objs.size; omega) rfl rfl hns₁ hi hci hpi hmi ha cls_ne ⟨#[], 0, rfl, .nil⟩ ol_mono
  -- the loop
  have loop : ∀ s₃ : Shared, s₃ = { s1 with heap := h₁, toks := tk + ([] : List (Str × Value)).length } → codeAny (model PR c.w) c.A (.compLoop (.ListComp elt [⟨target, iter, ifs, 0⟩] scope pos) 0 (.ref s1.heap.objs.size) (.ref (s1.heap.objs.size + 1)) (compEnvC scope cl (s1.heap.objs.size + 2) c.env))
      (compPost (model PR c.w) c.A E use Q (.ref (s1.heap.objs.size + 1)) (s1.heap.objs.size + 2)) s₃ := by
    rintro s₃ rfl
    refine lc_loop (fun n s5 => ∃ i σ5, n + i = ks.length ∧ F (c.comp scope cl (tn ++ fns) (s1.heap.objs.size + 2) s1 σ1) (List.replicate tn.length none ++ Vf) [⟨s1.heap.objs.size, p i⟩, ⟨s1.heap.objs.size + 1, ol c.w (((ks.take i).filter keep).map out)⟩] σ5 s5)
      (fun n s5 hI => ?_) ks.length ⟨0, σ1, rfl, f4 _⟩
    obtain ⟨i, σ5, hn, f5⟩ := hI
    refine nx.next _ _ σ5 s5 i _ _ f5 (fun dd hd σ6 s6 v6 ext f6 r6 => ?_) fun hd s6 f6 => ?_
    · have hi' : i < ks.length := by simpa using (List.getElem?_eq_some_iff.mp hd).1
      have hda : dd = enc ks[i] := by
        rw [List.getElem?_map, List.getElem?_eq_getElem hi'] at hd
        simpa using hd.symm
      subst hda
      have hmem : ks[i] ∈ ks := List.getElem_mem _
      have etake : ks.take (i + 1) = ks.take i ++ [ks[i]] := by rw [List.take_add_one, List.getElem?_eq_getElem hi']; rfl
      refine nx.go _ _ σ6 s6 i v6 _ _ f6 fun s7 f7 => ?_
      refine hasg _ s1 σ1 ks[i] _ σ6 s7 v6 _ _ f7 r6 fun s8 f8 => ?_
      refine hts _ s1 σ1 _ ks[i] hmem σ6 s8 _ _ f8 fun σ9 s9 x9 => ?_
      have f9 := f8.stable x9
      have back : ∀ {σ' : Sto} {s' : Shared} {M' : List Own}, F (c.comp scope cl (tn ++ fns) (s1.heap.objs.size + 2) s1 σ1) (V₁ ks[i]) M' σ' s' → F (c.comp scope cl (tn ++ fns) (s1.heap.objs.size + 2) s1 σ1) (List.replicate tn.length none ++ Vf) M' σ' s' := fun f' =>
        f'.re fun j d' hd' => ⟨d', hV _ j d' hd', fun _ r => r⟩
      cases hkp : keep ks[i] with
      | false =>
        rw [if_neg (by decide)]
        refine ⟨n - 1, by omega, i + 1, σ9, by omega, ?_⟩
        have := back f9
        rw [etake, List.filter_append]
        simpa [hkp] using this
      | true =>
        rw [if_pos rfl]
        refine (hel _ s1 σ1 _ ks[i] hmem hkp).use f9 fun σ10 s10 v10 x10 f10 r10 => ?_
        obtain ⟨o, ho, _, items, nn, rfl, hr2⟩ := f10.muta ⟨s1.heap.objs.size + 1, ol c.w (((ks.take i).filter keep).map out)⟩ (by simp)
        refine wpAny_list_append_plain (items := items) ⟨nn, ho⟩ (fun h' hp hs' => ?_) ?_
        · obtain ⟨n', ho'⟩ := hp
          refine ⟨n - 1, by omega, i + 1, σ10, by omega, back ?_⟩
          have := f10.upd (i := 1) (s' := { s10 with heap := h' }) (p' := ol c.w (((ks.take (i + 1)).filter keep).map out)) rfl (.of hs') ho' cls_ne ⟨_, n', rfl, ?_⟩ ol_mono rfl rfl
          · exact this
          · rw [Array.toList_push, etake, List.filter_append, List.map_append]
            simp only [List.filter_cons, hkp, if_true, List.filter_nil, List.map_cons, List.map_nil]
            exact hr2.snoc r10
        · have := hr2.len
          rw [Array.length_toList, List.length_map] at this
          have h2 := List.length_filter_le keep (ks.take i)
          rw [List.length_take] at h2
          rw [this, sizeLine_eq]; omega
    · have hi' : i = ks.length := by
        have := List.getElem?_eq_none_iff.mp hd
        simp at this; omega
      rw [hi', List.take_length] at f6
      obtain ⟨o, σ', ⟨items, nn, rfl, hr⟩, ho, rfl, ext, f7⟩ := f6.freeze (i := 0) rfl
      obtain ⟨m, hns, _⟩ := f7.loc
      have hown := f7.own (s1.heap.objs.size + 2) (.inl rfl)
      refine q σ1 s1 _ s6 (s1.heap.objs.size + 2) (s1.heap.objs.size + 1) m x1 f1 (by omega) hown.2.2.1 f7.step (.list put_self rfl rfl (hr.mono ext)) hns fun h' hs' => ?_
      exact (f7.write (s' := { s6 with heap := h' }) (.of hs') hown.1 hown.2.2.1 hown.2.2.2 rfl rfl).2
  have e3 : newEnv scope ((s1.heap.push oi).push { cls := .type "list", data := .seq ([] : List Value).toArray }).objs.size c.env.globals cl c.env.qual none .none (some c.env) = newEnv scope (s1.heap.objs.size + 2) c.env.globals cl c.env.qual none .none (some c.env) := by rw [e2]
  rw [e3]
  have fin := codeAny_compStart_list (loop _ rfl) (nx.self _ _ _ _ 0 _ _ (f4 _) (loop _ rfl))
  rw [e1]
  exact fin

theorem ev_lc {elt target iter : Expr} {ifs : List Expr} {scope : Scope} {pos : Pos} {outs : List D} (h : Lc c V M elt target iter ifs scope outs) : Ev c V M (.ListComp elt [⟨target, iter, ifs, 0⟩] scope pos) (.list outs) := fun σ s Q E f q => by
  rw [eval_ListComp]
  refine h none pos σ s Q E f fun σ1 s1 σ' s' C D m x1 f1 hC hσ x2 r hns hst => ?_
  exact ⟨m, hns, fun h' hs' => q _ _ _ (x1.trans (hst h' hs')) r⟩

theorem xs_lc {y : Str} {py spos : Pos} {elt target iter : Expr} {ifs : List Expr} {scope : Scope} {pos : Pos} {outs : List D} (i : Nat) (hy : c.ns[i]? = some y) (h : Lc c V M elt target iter ifs scope outs) (hr : Xs c (V.set i (some (.list outs))) M rest Φ Ψ)
    (hfree : c.fn = true ∨ c.env.kindOf y = some .local := by first | exact .inl rfl | exact .inr rfl)
    (hsw : swapsWith (.ListComp elt [⟨target, iter, ifs, 0⟩] scope pos) (some (.Name y py)) spos.line c.env = pure true := by rfl) : Xs c V M (.Assign [.Name y py] (.ListComp elt [⟨target, iter, ifs, 0⟩] scope pos) spos :: rest) Φ Ψ := xs_cons fun σ s Q E f kn kr => by
  rw [exec_Assign_Name_used _ _ _ _ hsw]
  refine wpAny_bind (wpAny_standAt (wpAny_bind ?_))
  show wpAny _ _ (do let _ ← comprehension (.ListComp elt [⟨target, iter, ifs, 0⟩] scope pos) scope c.env _ (newList []) false (eval iter c.env) (some (assign (.Name y py) c.env))) _ _ s
  refine wpAny_bind (h (some (assign (.Name y py) c.env)) pos σ s _ E f fun σ1 s1 σ' s' C D m x1 f1 hC hσ x2 r hns hst => ?_)
  show wpAny _ _ (assign (.Name y py) c.env (.ref D)) _ _ _
  have f2 := f1.stable x2
  have hlt := f1.own _ (.inl rfl)
  refine wpAny_assign_Name (f2.store' hy r hfree fun s'' b f3 hsb hb => ?_)
  have hbC : b < s1.heap.objs.size := by
    rcases hb with rfl | hb
    · exact hlt.2.1
    · exact f1.celL _ _ hb
  have neC : C ≠ b := Nat.ne_of_gt (Nat.lt_of_lt_of_le hbC hC)
  refine ⟨m, hns.sameBut hsb neC, fun h' hs' => wpAny_pure (wpAny_pure (kn _ _ _ _ (f3.off (s' := { s'' with heap := h' }) (.of hs') (Nat.le_trans f1.step.size hC) hσ ?_ ?_ ?_ ?_ ?_ rfl rfl) hr))⟩
  · exact fun q => by have q' : @Eq Nat C 30 := q; have := f1.step.g.base.big; have := f1.step.g.base.size; omega
  · exact Nat.ne_of_gt (Nat.lt_of_lt_of_le hlt.2.1 hC)
  · exact fun z a hz => Nat.ne_of_lt (Nat.lt_of_lt_of_le (f1.celL z a hz) hC)
  · exact fun x hx => Nat.ne_of_lt (Nat.lt_of_lt_of_le (f1.own x.a (.inr (.inr ⟨x.p, hx⟩))).2.1 hC)
  · intro l hl env he L hL
    obtain ⟨l', hl', hf⟩ := f1.rm.frames
    rw [hl] at hl'; cases hl'
    obtain ⟨_, L', o, h1, _, _, h4, _⟩ := hf env he
    rw [hL] at h1; cases h1
    exact Nat.ne_of_lt (Nat.lt_of_lt_of_le (Heap.lt_size h4) hC)
end
end Mine
end
section
open PySem PySem.W PyProof.Rows PySem.Calls
set_option Elab.async false
set_option maxRecDepth 100000
set_option autoImplicit false
set_option linter.unusedVariables false
set_option linter.unusedSimpArgs false
namespace Mine
section
variable {c : Cx} {V : List (Option D)} {M : List Own} {Φ : Nx} {Ψ : Rt} {rest : List Stmt}

/-- one name, the places kept -/
theorem lc_name {elt iter : Expr} {ifs : List Expr} {scope : Scope} {cl : List (Str × Addr)} {x : Str} {px : Pos} {fns : List Str} {Vf : List (Option D)} {d : D} {α : Type} (ks : List α) (enc : α → D) (keep : α → Bool) (out : α → D)
    (hclos : closureFor scope c.env = pure cl) (hok : nsOK scope c.env [x] fns = true) (hsub : Sub c.env.cells cl) (hfr : Frees c V scope cl fns Vf) (hit : Ev c V M iter d)
    (hiter : ∀ C s₀ σ₀, Iters (c.comp scope cl (x :: fns) C s₀ σ₀) (.Name x px) d (ks.map enc))
    (hts : ∀ C s₀ σ₀ M' a, a ∈ ks → Ets (c.comp scope cl (x :: fns) C s₀ σ₀) (some (enc a) :: Vf) M' ifs (keep a))
    (hel : ∀ C s₀ σ₀ M' a, a ∈ ks → keep a = true → Ev (c.comp scope cl (x :: fns) C s₀ σ₀) (some (enc a) :: Vf) M' elt (out a)) (hz : ks.length ≤ 16000000)
    (hs : ∀ x, foldedSetIterable iter c.env x = pure x := by intro _; rfl) : Lc c V M elt (.Name x px) iter ifs scope ((ks.filter keep).map out) := by
  have k3 := (nsOK_spec hok).2.2.1
  refine lc_core (tn := [x]) ks enc keep out (fun a => some (enc a) :: Vf) hclos hok hsub hfr hit hiter (fun C s₀ σ₀ a => ?_) (fun a i d' h => ?_) hts hel hz hs
  · exact asg_name (c := c.comp scope cl ([x] ++ fns) C s₀ σ₀) (V := none :: Vf) 0 rfl (.inr (k3 x (by simp)))
  · cases i with
    | zero => simp at h
    | succ i => simpa using h

theorem lc_pair {elt iter : Expr} {ifs : List Expr} {scope : Scope} {cl : List (Str × Addr)} {x y : Str} {px py tp : Pos} {kk : Nat} {fns : List Str} {Vf : List (Option D)} {d : D} {α : Type} (ks : List α) (e1 e2 : α → D) (keep : α → Bool) (out : α → D)
    (hclos : closureFor scope c.env = pure cl) (hok : nsOK scope c.env [x, y] fns = true) (hsub : Sub c.env.cells cl) (hfr : Frees c V scope cl fns Vf) (hit : Ev c V M iter d)
    (hiter : ∀ C s₀ σ₀, Iters (c.comp scope cl (x :: y :: fns) C s₀ σ₀) (.Tuple [.Name x px, .Name y py] kk tp) d (ks.map fun a => .tup [e1 a, e2 a]))
    (hts : ∀ C s₀ σ₀ M' a, a ∈ ks → Ets (c.comp scope cl (x :: y :: fns) C s₀ σ₀) (some (e1 a) :: some (e2 a) :: Vf) M' ifs (keep a))
    (hel : ∀ C s₀ σ₀ M' a, a ∈ ks → keep a = true → Ev (c.comp scope cl (x :: y :: fns) C s₀ σ₀) (some (e1 a) :: some (e2 a) :: Vf) M' elt (out a)) (hz : ks.length ≤ 16000000)
    (hs : ∀ x, foldedSetIterable iter c.env x = pure x := by intro _; rfl) : Lc c V M elt (.Tuple [.Name x px, .Name y py] kk tp) iter ifs scope ((ks.filter keep).map out) := by
  have k3 := (nsOK_spec hok).2.2.1
  refine lc_core (tn := [x, y]) ks (fun a => .tup [e1 a, e2 a]) keep out (fun a => some (e1 a) :: some (e2 a) :: Vf) hclos hok hsub hfr hit hiter (fun C s₀ σ₀ a => ?_) (fun a i d' h => ?_) hts hel hz hs
  · exact asg_tup (c := c.comp scope cl ([x, y] ++ fns) C s₀ σ₀) (V := none :: none :: Vf) (.cons 0 rfl (.inr (k3 x (by simp))) (.cons 1 rfl (.inr (k3 y (by simp))) .nil))
  · rcases i with _ | _ | i
    · simp at h
    · simp at h
    · simpa using h

theorem lay_new {kvs : List (Str × D)} {x : Str} {d : D} (h : x ∉ kvs.map (·.1)) : lay kvs x d = kvs ++ [(x, d)] := by
  unfold lay
  rw [if_neg]
  rw [List.any_eq_true]
  rintro ⟨kv, h1, h2⟩
  exact h (by simp at h2; exact List.mem_map.mpr ⟨kv, h1, h2⟩)

theorem ev_dc {kx vx iter : Expr} {scope : Scope} {cl : List (Str × Addr)} {x : Str} {px pos : Pos} {fns : List Str} {Vf : List (Option D)} {d : D} {α : Type} (ks : List α) (enc : α → D) (key : α → Str) (val : α → D)
    (hclos : closureFor scope c.env = pure cl) (hok : nsOK scope c.env [x] fns = true) (hsub : Sub c.env.cells cl) (hfr : Frees c V scope cl fns Vf) (hit : Ev c V M iter d)
    (hiter : ∀ C s₀ σ₀, Iters (c.comp scope cl (x :: fns) C s₀ σ₀) (.Name x px) d (ks.map enc)) (hnd : (ks.map key).Nodup)
    (hke : ∀ C s₀ σ₀ M' a, a ∈ ks → Ev (c.comp scope cl (x :: fns) C s₀ σ₀) (some (enc a) :: Vf) M' kx (.str (key a)))
    (hel : ∀ C s₀ σ₀ M' a, a ∈ ks → Ev (c.comp scope cl (x :: fns) C s₀ σ₀) (some (enc a) :: Vf) M' vx (val a)) (hz : ks.length ≤ 16000000)
    (hs : ∀ x, foldedSetIterable iter c.env x = pure x := by intro _; rfl) : Ev c V M (.DictComp kx vx [⟨.Name x px, iter, [], 0⟩] scope pos) (.dict (ks.map fun a => (key a, val a))) := fun σ s Q E f q => by
  obtain ⟨k1, k2, k3, k4, k5, k6⟩ := nsOK_spec hok
  rw [arm_eval_DictComp]
  show wpAny _ _ (comprehension (.DictComp kx vx [⟨.Name x px, iter, [], 0⟩] scope pos) scope c.env _ newDict false (eval iter c.env)) _ _ _
  refine wpAny_comprehension_free rfl hs hclos k5 k6 (hit.use f fun σ1 s1 v x1 f1 r1 => ?_)
  refine hiter (s1.heap.objs.size + 2) s1 σ1 c.A σ1 s1 v _ _ f1.step.g (f1.rm.mono (Nat.zero_le _)) r1 fun oi tk p p' nx hpi hfi hci hmi => ?_
  refine wpAny_newObj_type (wpAny_newFunctionEnv k4 (by intro y hy; simp at hy) (fun h₁ hns₁ hsb₁ => ?_) k5)
  dsimp only at hns₁ hsb₁ ⊢
  have e2 : ((s1.heap.push oi).push { cls := .type "dict", data := .dict #[] }).objs.size = s1.heap.objs.size + 2 := by rw [Heap.size_push, Heap.size_push]
  have e1 : (s1.heap.push oi).objs.size = s1.heap.objs.size + 1 := Heap.size_push ..
  rw [e2] at hns₁ hsb₁
  have up : ∀ b o, b ≠ s1.heap.objs.size + 2 → ((s1.heap.push oi).push { cls := .type "dict", data := .dict #[] }).get? b = some o → h₁.get? b = some o := fun b o hb e => hsb₁.extBut b o hb (Heap.get?_push_of_some _ e)
  have keep0 : ∀ b o, s1.heap.get? b = some o → h₁.get? b = some o := fun b o e => up b o (Nat.ne_of_lt (Nat.lt_of_lt_of_le (Heap.lt_size e) (Nat.le_add_right _ 2))) (Heap.get?_push_of_some _ (Heap.get?_push_of_some _ e))
  have hi : h₁.get? s1.heap.objs.size = some oi := up _ _ (Nat.ne_of_lt (by omega)) (Heap.get?_push_of_some _ (Heap.get?_push_size _ hfi))
  have ha : h₁.get? (s1.heap.objs.size + 1) = some { cls := .type "dict", data := .dict #[] } := up _ _ (Nat.ne_of_lt (by omega)) (by
    have := Heap.get?_push_size (s1.heap.push oi) (o := { cls := .type "dict", data := .dict #[] }) rfl
    rw [e1] at this; exact this)
  have hz1 : h₁.objs.size = s1.heap.objs.size + 3 := by rw [hsb₁.1, Heap.size_push, e2]
  have f4 : ∀ tk', F (c.comp scope cl (x :: fns) (s1.heap.objs.size + 2) s1 σ1) (none :: Vf) [⟨s1.heap.objs.size, p 0⟩, ⟨s1.heap.objs.size + 1, od c.w []⟩] σ1 { s1 with heap := h₁, toks := tk' } := fun tk' =>
    f1.comp (tn := [x]) (pa := od c.w []) hok hsub hfr (Nat.le_refl _) (by omega) (by omega) (Nat.ne_of_lt (by omega)) (Nat.ne_of_lt (by omega)) (Nat.ne_of_lt (by omega)) keep0 (by show _ ≤ h₁.objs.size; omega) rfl rfl hns₁ hi hci hpi hmi ha cls_ne
      ⟨[], ⟨#[], 0, ⟨rfl, rfl, rfl⟩, rfl, fun _ he => by simp at he, .nil, .nil⟩, .nil⟩ od_mono
  have loop : ∀ s₃ : Shared, s₃ = { s1 with heap := h₁, toks := tk + ([] : List (Str × Value)).length } → codeAny (model PR c.w) c.A (.compLoop (.DictComp kx vx [⟨.Name x px, iter, [], 0⟩] scope pos) 0 (.ref s1.heap.objs.size) (.ref (s1.heap.objs.size + 1)) (compEnvC scope cl (s1.heap.objs.size + 2) c.env))
      (compPost (model PR c.w) c.A E none Q (.ref (s1.heap.objs.size + 1)) (s1.heap.objs.size + 2)) s₃ := by
    rintro s₃ rfl
    refine codeAny_compLoop_testsD (fun n s5 => ∃ i σ5, n + i = ks.length ∧ F (c.comp scope cl (x :: fns) (s1.heap.objs.size + 2) s1 σ1) (none :: Vf) [⟨s1.heap.objs.size, p i⟩, ⟨s1.heap.objs.size + 1, od c.w ((ks.take i).map fun a => (key a, val a))⟩] σ5 s5)
      (fun n s5 hI => ?_) ks.length ⟨0, σ1, rfl, f4 _⟩
    obtain ⟨i, σ5, hn, f5⟩ := hI
    refine nx.next _ _ σ5 s5 i _ _ f5 (fun dd hd σ6 s6 v6 ext f6 r6 => ?_) fun hd s6 f6 => ?_
    · have hi' : i < ks.length := by simpa using (List.getElem?_eq_some_iff.mp hd).1
      have hda : dd = enc ks[i] := by
        rw [List.getElem?_map, List.getElem?_eq_getElem hi'] at hd
        simpa using hd.symm
      subst hda
      have hmem : ks[i] ∈ ks := List.getElem_mem _
      have etake : ks.take (i + 1) = ks.take i ++ [ks[i]] := by rw [List.take_add_one, List.getElem?_eq_getElem hi']; rfl
      show wpAny _ _ (letOwnedTupleGo (.Name x px) (.ref s1.heap.objs.size) v6 >>= fun _ => assign (.Name x px) (compEnvC scope cl (s1.heap.objs.size + 2) c.env) v6) _ _ _
      refine wpAny_bind (nx.go _ _ σ6 s6 i v6 _ _ f6 fun s7 f7 => ?_)
      refine asg_name (c := c.comp scope cl (x :: fns) (s1.heap.objs.size + 2) s1 σ1) (V := none :: Vf) (d := enc ks[i]) 0 rfl (.inr (k3 x (by simp))) _ σ6 s7 v6 _ _ f7 r6 fun s8 f8 => ?_
      refine wpAny_tests_nil ?_
      rw [if_pos rfl]
      refine (hke _ s1 σ1 _ ks[i] hmem).use f8 fun σ9 s9 v9 x9 f9 r9 => ?_
      refine (hel _ s1 σ1 _ ks[i] hmem).use f9 fun σ10 s10 v10 x10 f10 r10 => ?_
      cases r9
      obtain ⟨es, hdd, re, _⟩ := own_dict (j := 1) f10 rfl
      have ln := re.len
      rw [List.length_map, List.length_take] at ln
      refine wpAny_dictSet_pairs (knd := strKind PR c.w) (k := key ks[i]) (strKind_is ..) hdd (fun h' hd' hs' => ?_) (by rw [sizeLine_eq]; omega)
      obtain ⟨o', ho', hd''⟩ := Heap.dictOf_iff.mp hd'
      have hcls : o'.cls = .type "dict" := by obtain ⟨_, _, q, _⟩ := hd''; exact q.1
      refine ⟨n - 1, by omega, i + 1, σ10, by omega, ?_⟩
      have hnew : key ks[i] ∉ ((ks.take i).map fun a => (key a, val a)).map (·.1) := by
        rw [List.map_map]
        intro hm
        have hnd' : ((ks.take (i + 1)).map key).Nodup := (hnd.sublist (List.Sublist.map _ (List.take_sublist _ _)))
        rw [etake, List.map_append, List.nodup_append] at hnd'
        exact hnd'.2.2 _ (by simpa [Function.comp_def] using hm) (key ks[i]) (by simp) rfl
      have f11 := f10.upd (i := 1) (s' := { s10 with heap := h', toks := s10.toks + 1 }) (p' := od c.w ((ks.take (i + 1)).map fun a => (key a, val a))) rfl (.of hs') ho' (by rw [hcls]; exact cls_ne) ⟨_, hd'', by
        have := re.stored r10 (x := key ks[i])
        rw [lay_new hnew] at this
        rw [etake, List.map_append]
        exact this⟩ od_mono rfl rfl
      refine f11.re fun j d' hd' => ⟨d', ?_, fun _ r => r⟩
      cases j with
      | zero => simp at hd'
      | succ j => simpa using hd'
    · have hi' : i = ks.length := by
        have := List.getElem?_eq_none_iff.mp hd
        simp at this; omega
      rw [hi', List.take_length] at f6
      obtain ⟨o, σ', ⟨es, hD, hr⟩, ho, rfl, ext, f7⟩ := f6.freeze (i := 0) rfl
      obtain ⟨m, hns, _⟩ := f7.loc
      have hown := f7.own (s1.heap.objs.size + 2) (.inl rfl)
      refine ⟨m, hns, fun h' hs' => q _ _ _ (x1.trans (f7.write (s' := { s6 with heap := h' }) (.of hs') hown.1 hown.2.2.1 hown.2.2.2 rfl rfl).2) (.dict put_self hD (hr.mono ext))⟩
  have e3 : newEnv scope ((s1.heap.push oi).push { cls := .type "dict", data := .dict #[] }).objs.size c.env.globals cl c.env.qual none .none (some c.env) = newEnv scope (s1.heap.objs.size + 2) c.env.globals cl c.env.qual none .none (some c.env) := by rw [e2]
  rw [e3]
  have fin := codeAny_compStart_dict (loop _ rfl) (nx.self _ _ _ _ 0 _ _ (f4 _) (loop _ rfl))
  rw [e1]
  exact fin
end
end Mine
end
section
open PySem PySem.W PyProof.Rows PySem.Calls
set_option Elab.async false
set_option maxRecDepth 100000
set_option autoImplicit false
set_option linter.unusedVariables false
set_option linter.unusedSimpArgs false
namespace Mine

theorem RepL.of_app {P : World} {σ : Sto} {ds' : List D} {vs' : List Value} (r' : RepL P σ ds' vs') {ds vs} (r : RepL P σ ds vs) : RepL P σ (ds ++ ds') (vs ++ vs') := RepL.app r' r

theorem fun_dflt {K : Frag} {w : World} {N k : Nat} {a : Addr} {o : Obj} {fd : FuncData} {body : List Stmt} {ns : List Str} {ds dds : List D} {dvs : List Value} {d : D}
    (ho : K.lookup a = some o) (hd : o.data = .func fd) (hb : fd.body = .stmts body) (hcl : fd.closure = []) (hgl : fd.globals = mainGlobals) (hbi : fd.builtins = builtinsNs) (hcode : codeIn K fd.code fd.qualname = true)
    (hco : fd.scope.isCoroutine = false) (hgen : fd.scope.isGenerator = false) (hk : fd.scope.kind = .function) (hlay : layOK fd.scope ns = true) (hlen : (ds ++ dds).length ≤ ns.length) (hdd : ∀ σ, RepL w σ dds dvs)
    (hbind : ∀ (A : Around) (s : Shared) (vs : List Value) (Q' : List (Str × Value) → Shared → Prop) (E' : Value → Shared → Prop), K.In s.heap → vs.length = ds.length → Q' ((ns.take (ds ++ dds).length).zip (vs ++ dvs)) s → wpAny (model PR w) A (bindArgs fd ⟨vs, []⟩) Q' E' s)
    (h : ∀ (A : Around) (L : Addr) (s₀ : Shared) (σ₀ : Sto), Xs ⟨K, w, N, k, A, callEnvC fd L a, ns, true, s₀, σ₀⟩ ((ds ++ dds).map some ++ List.replicate (ns.length - (ds ++ dds).length) none) [] body (fun _ _ => False) (fun σ v => Rep w σ d v)) :
    Fun K w N (k + 1) (.ref a) ds d := fun A σ s vs Q E g rm r q => by
  refine fun_gen (args := ⟨vs, []⟩) (ds := ds ++ dds) (vs := vs ++ dvs) ho hd hb hcl hgl hbi hcode hco hgen hk hlay hlen g rm (RepL.of_app (hdd σ) r) (fun Q' E' h' => hbind _ s vs Q' E' (fun b x e => (g.base.frag b x e).1) r.len h') fun L Q' E' s1 f1 hq => ?_
  exact h (A.deeper (callEnvC fd L a)) L s σ σ s1 Q' E' f1 (fun _ _ _ _ _ h => h.elim) fun σ' s' V' M' v f' r' => hq v s' (q σ' s' v f'.step r')

/-- one keyword -/
noncomputable def FunK (K : Frag) (w : World) (N k : Nat) (f : Value) (ds : List D) (x : Str) (dk d : D) : Prop :=
  ∀ (A : Around) (σ : Sto) (s : Shared) (vs : List Value) (vk : Value) (Q : Value → Shared → Prop) (E : Value → Shared → Prop), G K N σ s → Rm N A k s.heap → RepL w σ ds vs → Rep w σ dk vk →
    (∀ σ' s' v, Step K N σ s σ' s' → Rep w σ' d v → Q v s') → wpAny (model PR w) A (call f vs [(x, vk)]) Q E s

theorem fun_kw {K : Frag} {w : World} {N k : Nat} {a : Addr} {o : Obj} {fd : FuncData} {body : List Stmt} {ns : List Str} {ds : List D} {x : Str} {dk d : D}
    (ho : K.lookup a = some o) (hd : o.data = .func fd) (hb : fd.body = .stmts body) (hcl : fd.closure = []) (hgl : fd.globals = mainGlobals) (hbi : fd.builtins = builtinsNs) (hcode : codeIn K fd.code fd.qualname = true)
    (hco : fd.scope.isCoroutine = false) (hgen : fd.scope.isGenerator = false) (hk : fd.scope.kind = .function) (hlay : layOK fd.scope ns = true) (hlen : (ds ++ [dk]).length ≤ ns.length)
    (hbind : ∀ (vs : List Value) (vk : Value), vs.length = ds.length → bindArgs fd ⟨vs, [(x, vk)]⟩ = pure ((ns.take (ds ++ [dk]).length).zip (vs ++ [vk])))
    (h : ∀ (A : Around) (L : Addr) (s₀ : Shared) (σ₀ : Sto), Xs ⟨K, w, N, k, A, callEnvC fd L a, ns, true, s₀, σ₀⟩ ((ds ++ [dk]).map some ++ List.replicate (ns.length - (ds ++ [dk]).length) none) [] body (fun _ _ => False) (fun σ v => Rep w σ d v)) :
    FunK K w N (k + 1) (.ref a) ds x dk d := fun A σ s vs vk Q E g rm r rk q => by
  refine fun_gen (args := ⟨vs, [(x, vk)]⟩) (ds := ds ++ [dk]) (vs := vs ++ [vk]) ho hd hb hcl hgl hbi hcode hco hgen hk hlay hlen g rm (RepL.of_app (.cons rk .nil) r) (fun Q' E' h' => by rw [hbind vs vk r.len]; exact wpAny_pure h') fun L Q' E' s1 f1 hq => ?_
  exact h (A.deeper (callEnvC fd L a)) L s σ σ s1 Q' E' f1 (fun _ _ _ _ _ h => h.elim) fun σ' s' V' M' v f' r' => hq v s' (q σ' s' v f'.step r')

section
variable {c : Cx} {V : List (Option D)} {M : List Own} {Φ : Nx} {Ψ : Rt} {rest : List Stmt}
theorem ev_callkw {x y : Str} {np pos kp : Pos} {e ek : Expr} {a : Addr} {o : Obj} {fd : FuncData} {de dk d : D} {k : Nat} (hn : Ev c V M (.Name x np) (.val (.ref a))) (h1 : c.K.lookup a = some o) (h2 : o.data = .func fd)
    (hst : isStarred e = false) (he : Ev c V M e de) (hek : Ev c V M ek dk) (hf : FunK c.K c.w c.N k (.ref a) [de] y dk d) (hk : k ≤ c.k) : Ev c V M (.Call (.Name x np) [e] [⟨some y, ek, kp⟩] pos) d := fun σ s Q E f q => by
  refine wpAny_Call_ofName (hn.use f fun σ1 s1 v1 x1 f1 r1 => ?_)
  cases r1
  have tr : backTo pos (starEach [e] c.env) = [(false, eval e c.env)] := by rw [starEach_cons hst]; rfl
  rw [tr]
  refine callWith_function_kw (o := o) (fd := fd) (evalArgs_kw rfl ?_)
  have hw := EvL.walk (EvL.cons hst he .nil) pos σ1 s1
  rw [tr] at hw
  refine hw _ _ f1 fun σ2 s2 vs x2 r2 => ?_
  have f2 := f1.stable x2
  cases r2 with | cons ra r2 =>
  cases r2
  show wpAny _ _ (evalAll [(do let v ← eval ek c.env; standAt pos; pure v)]) _ _ _
  refine wpAny_bind (wpAny_bind (hek.use f2 fun σ3 s3 vk x3 f3 r3 => ?_))
  refine wpAny_bind (wpAny_standAt (wpAny_pure ?_))
  refine wpAny_bind (wpAny_holding (wpAny_pure (wpAny_pure ⟨⟨(f3.step.g.base.frag _ _ h1).1, h2⟩, ?_⟩)))
  exact hf c.A σ3 s3 _ vk _ _ f3.step.g (f3.rm.mono hk) (.cons (ra.mono x3.ext) .nil) r3 fun σ4 s4 u x4 r4 => q _ _ _ (((x1.trans x2).trans x3).trans x4) r4
end

section
variable {c : Cx} {V : List (Option D)} {M : List Own} {Φ : Nx} {Ψ : Rt} {rest : List Stmt}
/-- a value read as a datum -/
theorem Ev.as {e : Expr} {d d' : D} (h : Ev c V M e d) (k : ∀ σ v, Rep c.w σ d v → Rep c.w σ d' v) : Ev c V M e d' := fun σ s Q E f q => h.use f fun σ1 s1 v x1 f1 r1 => q _ _ _ x1 (k _ _ r1)
theorem as_bytes {P : World} {l : List UInt8} {t : Tok} : ∀ σ v, Rep P σ (.val (.bytes l.toArray t)) v → Rep P σ (.bytes l) v := fun σ v r => by cases r; exact .bytes
theorem et_true {e : Expr} {d : D} {b : Bool} (h : Ev c V M e d) (ht : Tru c.K c.w c.N d b) (he : isTrue e c.env (eval e c.env) = (do let v ← eval e c.env; standAt e.pos; holding [v] (truthy v)) := by rfl) : Et c V M e b := et_val h ht he
end
end Mine
end
section
open PySem PySem.W PyProof.Rows PySem.Calls
set_option Elab.async false
set_option maxRecDepth 100000
set_option autoImplicit false
set_option linter.unusedVariables false
namespace Mine

/-- what zip draws from: an iterator at it over xs, its state J told by the objects it and fp -/
structure Src (w : World) (it : Addr) (fp : List Addr) (xs : Array Value) (J : Nat → Heap → Prop) : Prop where
  keep : ∀ i h h', J i h → (∀ c, c = it ∨ c ∈ fp → ∀ o, h.get? c = some o → h'.get? c = some o) → J i h'
  here : ∀ i h, J i h → ∃ o, h.get? it = some o
  item : ∀ (A : Around) i x (s : Shared) (Q : Value → Shared → Prop) (E : Value → Shared → Prop), J i s.heap → xs[i]? = some x →
    (∀ h', J (i + 1) h' → Heap.SameBut it s.heap h' → Q x { s with heap := h' }) → wpAny (model PR w) A (Builtin.SmallTypes.nextOf (.ref it)) Q E s
  done : ∀ (A : Around) i (s : Shared) (Q : Value → Shared → Prop) (E : Value → Shared → Prop), A.handled = none → J i s.heap → xs[i]? = none →
    (∀ h' e, Heap.ExtBut it s.heap h' → (∃ o, h'.get? e = some o ∧ o.cls = .type "StopIteration") → E (.ref e) { s with heap := h' }) → wpAny (model PR w) A (Builtin.SmallTypes.nextOf (.ref it)) Q E s

theorem src_tuple {w : World} {it t : Addr} {xs : Array Value} (hne : t ≠ it) : Src w it [t] xs fun i h => h.IsTupleIter it t i ∧ h.IsTuple t xs where
  keep := fun i h h' hj k => by
    obtain ⟨⟨o, ho, r⟩, o2, ho2, r2⟩ := hj
    exact ⟨⟨o, k _ (.inl rfl) _ ho, r⟩, o2, k _ (.inr (by simp)) _ ho2, r2⟩
  here := fun i h hj => let ⟨o, ho, _⟩ := hj.1; ⟨o, ho⟩
  item := fun A i x s Q E hj hx hQ => by
    obtain ⟨hit, ht⟩ := hj
    obtain ⟨o, ho, hc, hd⟩ := id hit
    obtain ⟨ol, hol, _, nl, hdl⟩ := id ht
    unfold Builtin.SmallTypes.nextOf
    refine wpAny_bind (wpAny_callSpecial?_slot (name := Str.ofString "__next__") hit.typeIs PySem.F.slot_tuple_iterator_next
      (wpAny_call_entry PySem.F.slot_tuple_iterator_next hit.typeIs PySem.F.entry_tuple_iterator_next ?_ (PySem.F.args_tuple_iterator_next_1 _)))
    show wpAny _ _ (field (.ref it) 0 >>= _) _ _ s
    refine wpAny_bind (wpAny_field ho hd (x := .ref t) rfl ?_)
    show wpAny _ _ (if (Value.ref t == Value.none) = true then _ else _) _ _ s
    rw [if_neg (show ¬ ((Value.ref t == Value.none) = true) from Bool.false_ne_true)]
    show wpAny _ _ (field (.ref it) 1 >>= _) _ _ s
    refine wpAny_bind (wpAny_field ho hd (x := .int i 0) rfl ?_)
    show wpAny _ _ (seqItems? (.ref t) >>= _) _ _ s
    refine wpAny_bind (wpAny_seqItems hol hdl ?_)
    simp only [Int.toNat_natCast, hx]
    refine wpAny_bind (wpAny_setField ho hd (by simp) (wpAny_pure ⟨x, rfl, wpAny_pure (hQ _ ⟨?_, ht.extBut (Heap.SameBut.update ..).extBut hne⟩ (Heap.SameBut.update ..))⟩))
    exact ⟨_, Heap.get?_update_self _ ho (Obj.isFreed_of_fields (Obj.data_mapFields hd _)), (Obj.cls_mapFields ..).trans hc, by
      rw [Obj.data_mapFields hd]; simp [rawInt]⟩
  done := fun A i s Q E hh hj hx hE => by
    obtain ⟨hit, ht⟩ := hj
    obtain ⟨o, ho, hc, hd⟩ := id hit
    obtain ⟨ol, hol, _, nl, hdl⟩ := id ht
    unfold Builtin.SmallTypes.nextOf
    refine wpAny_bind (wpAny_callSpecial?_slot (name := Str.ofString "__next__") hit.typeIs PySem.F.slot_tuple_iterator_next
      (wpAny_call_entry PySem.F.slot_tuple_iterator_next hit.typeIs PySem.F.entry_tuple_iterator_next ?_ (PySem.F.args_tuple_iterator_next_1 _)))
    show wpAny _ _ (field (.ref it) 0 >>= _) _ _ s
    refine wpAny_bind (wpAny_field ho hd (x := .ref t) rfl ?_)
    show wpAny _ _ (if (Value.ref t == Value.none) = true then _ else _) _ _ s
    rw [if_neg (show ¬ ((Value.ref t == Value.none) = true) from Bool.false_ne_true)]
    show wpAny _ _ (field (.ref it) 1 >>= _) _ _ s
    refine wpAny_bind (wpAny_field ho hd (x := .int i 0) rfl ?_)
    show wpAny _ _ (seqItems? (.ref t) >>= _) _ _ s
    refine wpAny_bind (wpAny_seqItems hol hdl ?_)
    simp only [Int.toNat_natCast, hx]
    refine wpAny_bind (wpAny_rule (wpAny_bind (wpAny_setField ho hd (by simp) ?_)))
    show wpAny _ _ (newExc (.type "StopIteration") [] >>= _) _ _ _
    refine wpAny_bind ?_
    simp only [newExc, newTuple]
    refine wpAny_bind (wpAny_newObj_type ?_ (by size_fits))
    refine wpAny_bind (m := firstArgMember _ _) (wpAny_of_eq (a := Value.none) (by first | rfl | (simp only [firstArgMember]; rfl)) ?_)
    refine wpAny_newObj_type ?_ (by size_fits)
    simp only [raiseNew]
    refine wpAny_bind (wpAny_handled ?_)
    first | rw [show A.in1.handled = none from hh] | rw [hh]
    refine wpAny_bind (wpAny_pure (wpAny_throw ?_))
    exact hE _ _ (((Heap.SameBut.update ..).extBut.push _).push _) ⟨_, Heap.get?_push_size _ rfl, rfl⟩

/-- the zip object's parts lie apart from what it draws from -/
structure Apart (z TI TO i1 i2 : Addr) (f1 f2 : List Addr) : Prop where
  TIz : TI ≠ z
  TOz : TO ≠ z
  TITO : TI ≠ TO
  TI1 : TI ≠ i1
  TI2 : TI ≠ i2
  one : ∀ c, c = i1 ∨ c ∈ f1 → c ≠ z ∧ c ≠ TO ∧ c ≠ i2
  two : ∀ c, c = i2 ∨ c ∈ f2 → c ≠ z ∧ c ≠ TO ∧ c ≠ i1

section
variable {w : World} {z TI TO i1 i2 : Addr} {f1 f2 : List Addr} {xs ys : Array Value} {J1 J2 : Nat → Heap → Prop}

theorem zip_draw {A : Around} {s : Shared} {E : Value → Shared → Prop} (P : Apart z TI TO i1 i2 f1 f2) (S1 : Src w i1 f1 xs J1) (S2 : Src w i2 f2 ys J2) {k : Nat} {x y a b : Value} {Q : Value → Shared → Prop}
    (hz : IsZip s.heap z TI TO .none) (hTI : IsPair s.heap TI (.ref i1) (.ref i2)) (hTO : IsPair s.heap TO a b) (h1 : J1 k s.heap) (h2 : J2 k s.heap) (hx : xs[k]? = some x) (hy : ys[k]? = some y)
    (hQ : ∀ h', IsZip h' z TI TO (rawInt s.heap.objs.size) → IsPair h' TO x y → J1 (k + 1) h' → J2 (k + 1) h' → IsPair h' s.heap.objs.size x y →
      (∀ c o, c ≠ z → c ≠ TO → c ≠ i1 → c ≠ i2 → s.heap.get? c = some o → h'.get? c = some o) → Q (.ref s.heap.objs.size) { s with heap := h' }) :
    wpAny (model PR w) A (Builtin.«zip.__next__» ⟨[.ref z], []⟩) (fun fin s' => ∃ v, fin = .done (.ret v) ∧ Q v s') E s := by
  have n1 := P.one i1 (.inl rfl)
  have n2 := P.two i2 (.inl rfl)
  show wpAny _ _ (field (.ref z) 2 >>= _) _ _ _
  refine wpAny_bind (wpAny_field hz rfl (x := .bool false) rfl ?_)
  show wpAny _ _ (field (.ref z) 3 >>= _) _ _ _
  refine wpAny_bind (wpAny_field hz rfl (x := .ref TI) rfl ?_)
  refine wpAny_bind (wpAny_seqItems hTI rfl ?_)
  show wpAny _ _ (Builtin.SmallTypes.ownedTupleIsFree (.ref z) >>= _) _ _ _
  refine wpAny_bind ?_
  unfold Builtin.SmallTypes.ownedTupleIsFree
  refine wpAny_bind (wpAny_field hz rfl (x := .none) rfl (wpAny_pure ?_))
  simp only [if_true]
  refine wpAny_bind (wpAny_rule ?_)
  refine wpAny_bind (wpAny_field hz rfl (x := .ref TO) rfl ?_)
  refine wpAny_bind (wpAny_setField_rec hz (by simp) fun h₁ hz₁ hs₁ => ?_)
  replace hz₁ : IsZip h₁ z TI TO .ellipsis := hz₁
  refine wpAny_bind ?_
  simp only [List.zipIdx_cons, List.zipIdx_nil, List.forIn_cons, List.forIn_nil]
  refine wpAny_bind (wpAny_bind (wpAny_onRaise ?_))
  show wpAny _ _ (Builtin.SmallTypes.nextOf (.ref i1) >>= _) _ _ _
  have a1 : J1 k h₁ := S1.keep _ _ _ h1 fun c hc o e => hs₁.extBut _ _ (P.one c hc).1 e
  have b1 : J2 k h₁ := S2.keep _ _ _ h2 fun c hc o e => hs₁.extBut _ _ (P.two c hc).1 e
  refine wpAny_bind (S1.item _ k x _ _ _ a1 hx fun h₂ a2 hs₂ => wpAny_pure ?_)
  have b2 : J2 k h₂ := S2.keep _ _ _ b1 fun c hc o e => hs₂.extBut _ _ (P.two c hc).2.2 e
  have hTO₂ : IsPair h₂ TO a b := hs₂.extBut _ _ n1.2.1.symm (hs₁.extBut _ _ P.TOz hTO)
  refine wpAny_bind (wpAny_seqItems hTO₂ rfl ?_)
  refine wpAny_bind (wpAny_updateSeq_pair hTO₂ fun h₃ hTO₃ hs₃ => ?_)
  replace hTO₃ : IsPair h₃ TO x b := hTO₃
  have a3 : J1 (k + 1) h₃ := S1.keep _ _ _ a2 fun c hc o e => hs₃.extBut _ _ (P.one c hc).2.1 e
  have b3 : J2 k h₃ := S2.keep _ _ _ b2 fun c hc o e => hs₃.extBut _ _ (P.two c hc).2.1 e
  refine wpAny_bind (wpAny_letGo (wpAny_pure ?_))
  refine wpAny_bind (wpAny_bind (wpAny_onRaise ?_))
  show wpAny _ _ (Builtin.SmallTypes.nextOf (.ref i2) >>= _) _ _ _
  refine wpAny_bind (S2.item _ k y _ _ _ b3 hy fun h₄ b4 hs₄ => wpAny_pure ?_)
  have a4 : J1 (k + 1) h₄ := S1.keep _ _ _ a3 fun c hc o e => hs₄.extBut _ _ (P.one c hc).2.2 e
  have hTO₄ : IsPair h₄ TO x b := hs₄.extBut _ _ n2.2.1.symm hTO₃
  refine wpAny_bind (wpAny_seqItems hTO₄ rfl ?_)
  refine wpAny_bind (wpAny_updateSeq_pair hTO₄ fun h₅ hTO₅ hs₅ => ?_)
  replace hTO₅ : IsPair h₅ TO x y := hTO₅
  refine wpAny_bind (wpAny_letGo (wpAny_pure (wpAny_pure ?_)))
  have a5 : J1 (k + 1) h₅ := S1.keep _ _ _ a4 fun c hc o e => hs₅.extBut _ _ (P.one c hc).2.1 e
  have b5 : J2 (k + 1) h₅ := S2.keep _ _ _ b4 fun c hc o e => hs₅.extBut _ _ (P.two c hc).2.1 e
  refine wpAny_bind (wpAny_seqItems hTO₅ rfl ?_)
  refine wpAny_bind (wpAny_newTuple ?_)
  have hsz : h₅.objs.size = s.heap.objs.size := by rw [hs₅.1, hs₄.1, hs₃.1, hs₂.1, hs₁.1]
  have hz₅ : IsZip h₅ z TI TO .ellipsis := hs₅.extBut _ _ P.TOz.symm (hs₄.extBut _ _ n2.1.symm (hs₃.extBut _ _ P.TOz.symm (hs₂.extBut _ _ n1.1.symm hz₁)))
  have hk₅ : ∀ c o, c ≠ z → c ≠ TO → c ≠ i1 → c ≠ i2 → s.heap.get? c = some o → h₅.get? c = some o := fun c o c1 c2 c3 c4 e =>
    hs₅.extBut _ _ c2 (hs₄.extBut _ _ c4 (hs₃.extBut _ _ c2 (hs₂.extBut _ _ c3 (hs₁.extBut _ _ c1 e))))
  have hzlt : z < h₅.objs.size := Heap.lt_size hz₅
  show wpAny _ _ (Builtin.SmallTypes.ownedTupleHandOut (.ref z) (.ref h₅.objs.size) >>= _) _ _ _
  refine wpAny_bind ?_
  unfold Builtin.SmallTypes.ownedTupleHandOut
  have hz₆ : IsZip (h₅.push { cls := .type "tuple", data := .seq #[x, y] }) z TI TO .ellipsis := Heap.get?_push_of_some _ hz₅
  refine wpAny_bind (wpAny_setField_rec hz₆ (by simp) fun h₇ hz₇ hs₇ => ?_)
  replace hz₇ : IsZip h₇ z TI TO (rawInt h₅.objs.size) := hz₇
  refine wpAny_setField_rec hz₇ (by simp) fun h₈ hz₈ hs₈ => ?_
  replace hz₈ : IsZip h₈ z TI TO (rawInt h₅.objs.size) := hz₈
  have up : ∀ c o, c ≠ z → h₅.get? c = some o → h₈.get? c = some o := fun c o c1 e => hs₈.extBut _ _ c1 (hs₇.extBut _ _ c1 (Heap.get?_push_of_some _ e))
  have hT₈ : IsPair h₈ h₅.objs.size x y := hs₈.extBut _ _ (Nat.ne_of_gt hzlt) (hs₇.extBut _ _ (Nat.ne_of_gt hzlt) (Heap.get?_push_size _ rfl))
  rw [hsz] at hz₈ hT₈
  refine wpAny_pure ⟨_, rfl, ?_⟩
  show Q (.ref h₅.objs.size) _
  rw [hsz]
  exact hQ h₈ hz₈ (up _ _ P.TOz hTO₅) (S1.keep _ _ _ a5 fun c hc o e => up _ _ (P.one c hc).1 e) (S2.keep _ _ _ b5 fun c hc o e => up _ _ (P.two c hc).1 e) hT₈ fun c o c1 c2 c3 c4 e => up c o c1 (hk₅ c o c1 c2 c3 c4 e)

theorem zip_over {A : Around} {s : Shared} {E : Value → Shared → Prop} (hh : A.handled = none) (P : Apart z TI TO i1 i2 f1 f2) (S1 : Src w i1 f1 xs J1) (S2 : Src w i2 f2 ys J2) {k : Nat} {a b : Value} {Q : Fin → Shared → Prop}
    (hz : IsZip s.heap z TI TO .none) (hTI : IsPair s.heap TI (.ref i1) (.ref i2)) (hTO : IsPair s.heap TO a b) (h1 : J1 k s.heap) (h2 : J2 k s.heap) (hx : xs[k]? = none)
    (hE : ∀ h' e, (∀ c o, c ≠ z → c ≠ TO → c ≠ i1 → c ≠ i2 → s.heap.get? c = some o → h'.get? c = some o) → (∃ o, h'.get? e = some o ∧ o.cls = .type "StopIteration") → E (.ref e) { s with heap := h' }) :
    wpAny (model PR w) A (Builtin.«zip.__next__» ⟨[.ref z], []⟩) Q E s := by
  have n1 := P.one i1 (.inl rfl)
  show wpAny _ _ (field (.ref z) 2 >>= _) _ _ _
  refine wpAny_bind (wpAny_field hz rfl (x := .bool false) rfl ?_)
  show wpAny _ _ (field (.ref z) 3 >>= _) _ _ _
  refine wpAny_bind (wpAny_field hz rfl (x := .ref TI) rfl ?_)
  refine wpAny_bind (wpAny_seqItems hTI rfl ?_)
  show wpAny _ _ (Builtin.SmallTypes.ownedTupleIsFree (.ref z) >>= _) _ _ _
  refine wpAny_bind ?_
  unfold Builtin.SmallTypes.ownedTupleIsFree
  refine wpAny_bind (wpAny_field hz rfl (x := .none) rfl (wpAny_pure ?_))
  simp only [if_true]
  refine wpAny_bind (wpAny_rule ?_)
  refine wpAny_bind (wpAny_field hz rfl (x := .ref TO) rfl ?_)
  refine wpAny_bind (wpAny_setField_rec hz (by simp) fun h₁ hz₁ hs₁ => ?_)
  replace hz₁ : IsZip h₁ z TI TO .ellipsis := hz₁
  refine wpAny_bind ?_
  simp only [List.zipIdx_cons, List.zipIdx_nil, List.forIn_cons, List.forIn_nil]
  refine wpAny_bind (wpAny_bind (wpAny_onRaise ?_))
  show wpAny _ _ (Builtin.SmallTypes.nextOf (.ref i1) >>= _) _ _ _
  have a1 : J1 k h₁ := S1.keep _ _ _ h1 fun c hc o e => hs₁.extBut _ _ (P.one c hc).1 e
  refine wpAny_bind (S1.done _ k _ _ _ hh a1 hx fun h₂ e hs₂ he => ?_)
  obtain ⟨oe, hoe, hce⟩ := he
  have hz₂ : IsZip h₂ z TI TO .ellipsis := hs₂ _ _ n1.1.symm hz₁
  have hez : e ≠ z := fun x => by subst x; rw [hz₂] at hoe; cases hoe; simp at hce
  refine wpAny_setField_rec hz₂ (by simp) fun h₃ _ hs₃ => hE h₃ e (fun c o c1 _ c3 _ x => hs₃.extBut _ _ c1 (hs₂ _ _ c3 (hs₁.extBut _ _ c1 x))) ⟨oe, hs₃.extBut _ _ hez hoe, hce⟩

/-- the walk of a zip of two sources of one length -/
theorem walk_zip {A : Around} (hh : A.handled = none) (P : Apart z TI TO i1 i2 f1 f2) (S1 : Src w i1 f1 xs J1) (S2 : Src w i2 f2 ys J2) (hl : xs.size = ys.size) :
    WalksU PR w A z (z :: TI :: TO :: i1 :: i2 :: (f1 ++ f2)) [z, TO, i1, i2] xs.size
      (fun i vals => ∃ x y, xs[i]? = some x ∧ ys[i]? = some y ∧ vals = #[x, y])
      (fun i h => IsZip h z TI TO .none ∧ IsPair h TI (.ref i1) (.ref i2) ∧ (∃ a b, IsPair h TO a b) ∧ J1 i h ∧ J2 i h)
      (fun i T h => IsZip h z TI TO (rawInt T) ∧ IsPair h TI (.ref i1) (.ref i2) ∧ (∃ a b, IsPair h TO a b) ∧ J1 (i + 1) h ∧ J2 (i + 1) h ∧ T ≠ z ∧ T ≠ TO ∧ T ≠ i1 ∧ T ≠ i2) where
  sub := fun c hc => by simp at hc ⊢; rcases hc with rfl | rfl | rfl | rfl <;> simp
  frame := fun i h h' hst hk => by
    obtain ⟨hz, hTI, ⟨a, b, hTO⟩, h1, h2⟩ := hst
    exact ⟨hk z (by simp) _ hz, hk TI (by simp) _ hTI, ⟨a, b, hk TO (by simp) _ hTO⟩, S1.keep _ _ _ h1 fun c hc o e => hk c (by rcases hc with rfl | hc <;> simp [*]) o e,
      S2.keep _ _ _ h2 fun c hc o e => hk c (by rcases hc with rfl | hc <;> simp [*]) o e⟩
  item := fun i s Q E hi hst hQ => by
    obtain ⟨hz, hTI, ⟨a, b, hTO⟩, h1, h2⟩ := hst
    have hiy : i < ys.size := hl ▸ hi
    have hT : s.TypeIs (.ref z) "zip" := ⟨_, hz, rfl⟩
    have n1 := P.one i1 (.inl rfl)
    have n2 := P.two i2 (.inl rfl)
    have lt : ∀ {c o}, s.heap.get? c = some o → s.heap.objs.size ≠ c := fun e => Nat.ne_of_gt (Heap.lt_size e)
    unfold pyNext
    refine wpAny_bind (wpAny_attempt (wpAny_callSpecial?_slot (name := Str.ofString "__next__") hT PySem.F.slot_zip_next
      (wpAny_call_entry PySem.F.slot_zip_next hT PySem.F.entry_zip_next
        (zip_draw P S1 S2 hz hTI hTO h1 h2 (Array.getElem?_eq_getElem hi) (Array.getElem?_eq_getElem hiy) fun h' q1 q2 q3 q4 q5 q6 => wpAny_pure ?_) (PySem.F.args_zip_next_1 _))))
    obtain ⟨o1, e1⟩ := S1.here _ _ h1
    obtain ⟨o2, e2⟩ := S2.here _ _ h2
    exact hQ s.heap.objs.size #[xs[i], ys[i]] h' s.toks ⟨_, _, Array.getElem?_eq_getElem hi, Array.getElem?_eq_getElem hiy, rfl⟩ ⟨_, q5, rfl, _, rfl⟩
      ⟨q1, q6 _ _ P.TIz P.TITO P.TI1 P.TI2 hTI, ⟨_, _, q2⟩, q3, q4, lt hz, lt hTO, lt e1, lt e2⟩
      fun c o hc e => q6 c o (fun x => hc (by simp [x])) (fun x => hc (by simp [x])) (fun x => hc (by simp [x])) (fun x => hc (by simp [x])) e
  go := fun elts k pos i T s Q E hm hQ => by
    obtain ⟨hz, hTI, ⟨a, b, hTO⟩, h1, h2, _⟩ := hm
    refine wpAny_letOwnedTupleGo_zip hz fun h' hz' hs' => hQ h' ⟨hz', hs'.extBut _ _ P.TIz hTI, ⟨a, b, hs'.extBut _ _ P.TOz hTO⟩, S1.keep _ _ _ h1 fun c hc o e => hs'.extBut _ _ (P.one c hc).1 e,
      S2.keep _ _ _ h2 fun c hc o e => hs'.extBut _ _ (P.two c hc).1 e⟩ fun c o hc e => hs'.extBut _ _ (fun x => hc (by simp [x])) e
  apart := fun i T h hm hT => by
    obtain ⟨_, _, _, _, _, t1, t2, t3, t4⟩ := hm
    simp at hT
    rcases hT with rfl | rfl | rfl | rfl
    · exact t1 rfl
    · exact t2 rfl
    · exact t3 rfl
    · exact t4 rfl
  done := fun s Q E hst hQ => by
    obtain ⟨hz, hTI, ⟨a, b, hTO⟩, h1, h2⟩ := hst
    have hT : s.TypeIs (.ref z) "zip" := ⟨_, hz, rfl⟩
    unfold pyNext
    refine wpAny_bind (wpAny_attempt (wpAny_callSpecial?_slot (name := Str.ofString "__next__") hT PySem.F.slot_zip_next
      (wpAny_call_entry PySem.F.slot_zip_next hT PySem.F.entry_zip_next (zip_over (A := A.in1) hh P S1 S2 hz hTI hTO h1 h2 (Array.getElem?_eq_none (Nat.le_refl _)) fun h' e hk he => ?_) (PySem.F.args_zip_next_1 _))))
    obtain ⟨o, ho, hc⟩ := he
    refine wpAny_bind (wpAny_isInstance (T := "StopIteration") (b := true) ⟨o, ho, hc⟩ isSubtype_stop ?_)
    exact wpAny_pure (hQ h' s.toks fun c o hc e => hk c o (fun x => hc (by simp [x])) (fun x => hc (by simp [x])) (fun x => hc (by simp [x])) (fun x => hc (by simp [x])) e)
  self := fun i s Q E hst hQ => wpAny_pyIter_zip hst.1 hQ
end

/-- zip of two tuples: the heap that it leaves -/
noncomputable def zipped (h : Heap) (t1 t2 : Addr) : Heap :=
  let n := h.objs.size
  ((((h.push { cls := .type "tuple_iterator", data := .fields #[.ref t1, .int 0 0] }).push { cls := .type "tuple_iterator", data := .fields #[.ref t2, .int 0 0] }).push
    { cls := .type "tuple", data := .seq #[.ref n, .ref (n + 1)] }).push { cls := .type "tuple", data := .seq #[.none, .none] }).push
    { cls := .type "zip", data := .fields #[.none, .bool false, .bool false, .ref (n + 2), .ref (n + 3)] }

theorem zip_made (t1 t2 : Addr) (xs ys : Array Value) :
    Meets (Builtin.«zip.__new__» ⟨[.type "zip", .ref t1, .ref t2], []⟩) (fun _ R s => s.heap.IsTuple t1 xs ∧ s.heap.IsTuple t2 ys ∧
      R (.ok (.ret (.ref (s.heap.objs.size + 4)))) { s with heap := zipped s.heap t1 t2 }) :=
  .of_wp fun prog w A R s h => by
    obtain ⟨hp, g, d, tk, os⟩ := s; obtain ⟨hl1, hl2, h⟩ := h
    have hsub := sub_zip
    have hL1 : Heap.IsTuple (Shared.heap ⟨hp, g, d, tk, os⟩) t1 xs := hl1
    have hL2 : Heap.IsTuple (Shared.heap ⟨hp.push { cls := .type "tuple_iterator", data := .fields #[.ref t1, .int 0 0] }, g, d, tk, os⟩) t2 ys := Heap.IsTuple.push hl2 _
    simp only [zipped] at h
    wp_walk using wpAny_pyIter_tuple hL1, wpAny_pyIter_tuple hL2
    simp only [Heap.size_push] at *
    exact ⟨_, rfl, h⟩

theorem call_zipped {w : World} {A : Around} {E : Value → Shared → Prop} {s : Shared} {t1 t2 : Addr} {xs ys : Array Value} {Q : Value → Shared → Prop} (h1 : s.heap.IsTuple t1 xs) (h2 : s.heap.IsTuple t2 ys)
    (h : Q (.ref (s.heap.objs.size + 4)) { s with heap := zipped s.heap t1 t2 }) : wpAny (model PR w) A (call (.type "zip") [.ref t1, .ref t2]) Q E s := by
  refine callType_new PySem.F.called_zip (by decide) (PySem.F.typeCall_zip_2 _ _) (PySem.F.newCall_zip_2 _ _) (fun obj => PySem.F.args_object_init_3 obj _ _) PySem.F.entry_zip_new
    (zip_made t1 t2 xs ys) ⟨h1, h2, ?_⟩
  have z : (Heap.push (Heap.push (Heap.push (Heap.push s.heap { cls := .type "tuple_iterator", data := .fields #[.ref t1, .int 0 0] }) { cls := .type "tuple_iterator", data := .fields #[.ref t2, .int 0 0] }) { cls := .type "tuple", data := .seq #[.ref s.heap.objs.size, .ref (s.heap.objs.size + 1)] }) { cls := .type "tuple", data := .seq #[.none, .none] }).objs.size = s.heap.objs.size + 4 := by
    simp only [Heap.size_push]
  have g : (zipped s.heap t1 t2).get? (s.heap.objs.size + 4) = some { cls := .type "zip", data := .fields #[.none, .bool false, .bool false, .ref (s.heap.objs.size + 2), .ref (s.heap.objs.size + 3)] } := by
    rw [← z]
    exact Heap.get?_push_size _ rfl
  exact ⟨⟨_, g, rfl⟩, h⟩

theorem zipped_at (h : Heap) (t1 t2 : Addr) : IsZip (zipped h t1 t2) (h.objs.size + 4) (h.objs.size + 2) (h.objs.size + 3) .none ∧ IsPair (zipped h t1 t2) (h.objs.size + 2) (.ref h.objs.size) (.ref (h.objs.size + 1)) ∧
    IsPair (zipped h t1 t2) (h.objs.size + 3) .none .none ∧ (zipped h t1 t2).IsTupleIter h.objs.size t1 0 ∧ (zipped h t1 t2).IsTupleIter (h.objs.size + 1) t2 0 ∧ (zipped h t1 t2).objs.size = h.objs.size + 5 ∧
    ∀ c o, h.get? c = some o → (zipped h t1 t2).get? c = some o := by
  unfold zipped
  generalize hn : h.objs.size = n
  generalize e1 : h.push { cls := .type "tuple_iterator", data := .fields #[.ref t1, .int 0 0] } = a1
  have z1 : a1.objs.size = n + 1 := by rw [← e1, Heap.size_push, hn]
  generalize e2 : a1.push { cls := .type "tuple_iterator", data := .fields #[.ref t2, .int 0 0] } = a2
  have z2 : a2.objs.size = n + 2 := by rw [← e2, Heap.size_push, z1]
  simp only
  generalize e3 : a2.push { cls := .type "tuple", data := .seq #[.ref n, .ref (n + 1)] } = a3
  have z3 : a3.objs.size = n + 3 := by rw [← e3, Heap.size_push, z2]
  generalize e4 : a3.push { cls := .type "tuple", data := .seq #[.none, .none] } = a4
  have z4 : a4.objs.size = n + 4 := by rw [← e4, Heap.size_push, z3]
  have g1 : a1.get? n = some { cls := .type "tuple_iterator", data := .fields #[.ref t1, .int 0 0] } := by rw [← e1, ← hn]; exact Heap.get?_push_size _ rfl
  have g2 : a2.get? (n + 1) = some { cls := .type "tuple_iterator", data := .fields #[.ref t2, .int 0 0] } := by rw [← e2, ← z1]; exact Heap.get?_push_size _ rfl
  have g3 : a3.get? (n + 2) = some { cls := .type "tuple", data := .seq #[.ref n, .ref (n + 1)] } := by rw [← e3, ← z2]; exact Heap.get?_push_size _ rfl
  have g4 : a4.get? (n + 3) = some { cls := .type "tuple", data := .seq #[.none, .none] } := by rw [← e4, ← z3]; exact Heap.get?_push_size _ rfl
  have u1 : ∀ c o, h.get? c = some o → a1.get? c = some o := fun c o e => by rw [← e1]; exact Heap.get?_push_of_some _ e
  have u2 : ∀ c o, a1.get? c = some o → a2.get? c = some o := fun c o e => by rw [← e2]; exact Heap.get?_push_of_some _ e
  have u3 : ∀ c o, a2.get? c = some o → a3.get? c = some o := fun c o e => by rw [← e3]; exact Heap.get?_push_of_some _ e
  have u4 : ∀ c o, a3.get? c = some o → a4.get? c = some o := fun c o e => by rw [← e4]; exact Heap.get?_push_of_some _ e
  refine ⟨?_, Heap.get?_push_of_some _ (u4 _ _ g3), Heap.get?_push_of_some _ g4, ⟨_, Heap.get?_push_of_some _ (u4 _ _ (u3 _ _ (u2 _ _ g1))), rfl, rfl⟩, ⟨_, Heap.get?_push_of_some _ (u4 _ _ (u3 _ _ g2)), rfl, rfl⟩, ?_, fun c o e => Heap.get?_push_of_some _ (u4 _ _ (u3 _ _ (u2 _ _ (u1 _ _ e))))⟩
  · rw [← z4]; exact Heap.get?_push_size _ rfl
  · rw [Heap.size_push, z4]
end Mine
end
section
open PySem PySem.W PyProof.Rows PySem.Calls
set_option Elab.async false
set_option maxRecDepth 100000
set_option autoImplicit false
set_option linter.unusedVariables false
namespace Mine

/-- a step that may lay code into the table and may leave finished generators -/
theorem Step.but {K : Frag} {N : Nat} {σ : Sto} {s s' : Shared} (g : G K N σ s) (hk : ∀ b o, b ≠ TP → s.heap.get? b = some o → s'.heap.get? b = some o) (ht : ∃ ps, s'.heap.IsCode TC TP ps ∧ s'.heap.TableAt TC TP ps)
    (hg : AllBare s'.gens) (hsz : s.heap.objs.size ≤ s'.heap.objs.size) (ho : s'.os = s.os) : Step K N σ s σ s' := by
  have kp : KP N s.heap s'.heap := fun b o e ne => ⟨o, hk b o ne e, .inl rfl⟩
  exact ⟨⟨g.base.kp kp ht hsz, fun a o e => ⟨hk _ _ (g.sto a o e).2.1.1 (g.sto a o e).1, (g.sto a o e).2⟩, hg⟩, kp, fun _ _ e => e, fun _ _ e => .inl e, hsz, ho⟩

theorem repL_of {P : World} {σ : Sto} : ∀ {ds : List D} {vs : List Value}, ds.length = vs.length → (∀ (j : Nat) d v, ds[j]? = some d → vs[j]? = some v → Rep P σ d v) → RepL P σ ds vs
  | [], [], _, _ => .nil
  | d :: ds, v :: vs, hl, h => .cons (h 0 d v rfl rfl) (repL_of (by simpa using hl) fun j d' v' h1 h2 => h (j + 1) d' v' (by simpa using h1) (by simpa using h2))
  | [], _ :: _, hl, _ => by cases hl
  | _ :: _, [], hl, _ => by cases hl

theorem quiet_add {w : World} {cenv : Env} {xa xb : Str} {pa pb pos : Pos} {fp wr : List Addr} {xs ys : Array Value} {as bs : List Int} {σ : Sto} {href : Heap}
    (hk : cenv.scope.kind = .function) (ha : cenv.kindOf xa = some .local) (hb : cenv.kindOf xb = some .local) (da : (xa == ("__debug__" : Str)) = false) (db : (xb == ("__debug__" : Str)) = false)
    (r1 : RepL w σ (as.map .int) xs.toList) (r2 : RepL w σ (bs.map .int) ys.toList) :
    QuietGenT PR w cenv xa xb [] (.BinOp (.Name xa pa) .Add (.Name xb pb) pos) fp wr (fun i vals => ∃ x y, xs[i]? = some x ∧ ys[i]? = some y ∧ vals = #[x, y]) (fun _ => true)
      (fun i y => ∃ a b t, as[i]? = some a ∧ bs[i]? = some b ∧ y = .int (a + b) t) href where
  tests := fun A' E' i va vb s₂ m₂ hh hp hn hma hmb hkp => by
    rw [List.forIn_nil]
    exact wpAny_pure ⟨rfl, s₂.heap, s₂.toks, rfl, fun _ _ e => e⟩
  elt := fun A' E' i va vb s₂ m₂ hh hp hz hn hma hmb hkp => by
    obtain ⟨x, y, hx, hy, e⟩ := hp
    have e' : [va, vb] = [x, y] := congrArg Array.toList e
    cases e'
    have hl1 := r1.len
    have hl2 := r2.len
    have i1 : i < as.length := by
      have := (Array.getElem?_eq_some_iff.mp hx).1
      simp at hl1; omega
    have i2 : i < bs.length := by
      have := (Array.getElem?_eq_some_iff.mp hy).1
      simp at hl2; omega
    have q1 := r1.get (i := i) (d := .int as[i]) (v := va) (by simp [i1]) (by simpa using hx)
    have q2 := r2.get (i := i) (d := .int bs[i]) (v := vb) (by simp [i2]) (by simpa using hy)
    cases q1
    cases q2
    refine wpAny_BinOp (wpAny_Name (wpAny_loadName_local hk ha hn hma (wpAny_Name (wpAny_loadName_local hk hb hn hmb (wpAny_add_int ?_)) db)) da)
    exact ⟨⟨as[i], bs[i], _, by simp [i1], by simp [i2], rfl⟩, s₂.heap, _, rfl, fun _ _ e => e⟩

section
variable {c : Cx} {V : List (Option D)} {M : List Own}

/-- tuple(x + y for x, y in zip(e1, e2)), two tuples of numbers of one length -/
theorem ev_tzip {tp zp pa pb pa' pb' pt bp gp cp pos : Pos} {xa xb : Str} {kt : Nat} {e1 e2 : Expr} {scope : Scope} {as bs : List Int}
    (hcode : c.env.code = .ref TC) (hgb : Glo c.K "__builtins__" (some (.ref 4))) (hT : Ev c V M (.Name "tuple" tp) (.val (.type "tuple"))) (hZ : Ev c V M (.Name "zip" zp) (.val (.type "zip")))
    (h1 : Ev c V M e1 (.tup (as.map .int))) (h2 : Ev c V M e2 (.tup (bs.map .int))) (n1 : isStarred e1 = false) (n2 : isStarred e2 = false) (hl : as.length = bs.length) (hsz : as.length ≤ 1000)
    (hco : scope.isCoroutine = false) (hclos : closureFor scope c.env = pure []) (hcell : ∀ y ∈ scope.names, y.2 ≠ .cell) (h0 : scope.names.lookup (".0" : Str) = some NameKind.local)
    (hxa : scope.names.lookup xa = some .local) (hxb : scope.names.lookup xb = some .local) (hab : xa ≠ xb) (hkind : scope.kind = .function)
    (da : (xa == ("__debug__" : Str)) = false) (db : (xb == ("__debug__" : Str)) = false) :
    Ev c V M (.Call (.Name "tuple" tp) [.GeneratorExp (.BinOp (.Name xa pa') .Add (.Name xb pb') bp) [⟨.Tuple [.Name xa pa, .Name xb pb] kt pt, .Call (.Name "zip" zp) [e1, e2] [] cp, [], 0⟩] scope gp] [] pos)
      (.tup ((List.zipWith (· + ·) as bs).map .int)) := fun σ s Q E f q => by
  refine wpAny_Call_ofName (hT.use f fun σ1 s1 v1 x1 f1 r1 => ?_)
  cases r1
  refine PySem.callWith_type (by rfl) (evalArgs_plain (spliced_cons ?_))
  refine wpAny_GeneratorExp_walksQT (cl := []) f1.rm.handled hco hclos hcell h0 hxa hxb hab hkind (by have := f1.rm.depth; show c.A.depth < 1000; omega) ?_ (fun x => by rfl)
  refine wpAny_Call_ofName (hZ.use f1 fun σ2 s2 v2 x2 f2 r2 => ?_)
  cases r2
  have hL : EvL c V M [e1, e2] [.tup (as.map .int), .tup (bs.map .int)] := .cons n1 h1 (.cons n2 h2 .nil)
  refine PySem.callWith_type (backTo_plain hL cp) (hL.args f2 fun σ3 s3 vs x3 f3 r3 => ?_)
  cases r3 with
  | cons ra rb =>
  cases rb with
  | cons rb rn =>
  cases rn
  cases ra with
  | @tup a1 o1 xs n1 _ ho1 hc1 hd1 rl1 =>
  cases rb with
  | @tup a2 o2 ys n2 _ ho2 hc2 hd2 rl2 =>
  have g3 := f3.step.g
  have big := g3.base.big
  have size := g3.base.size
  have t1 : s3.heap.IsTuple a1 xs := ⟨o1, (g3.sto _ _ ho1).1, hc1, n1, hd1⟩
  have t2 : s3.heap.IsTuple a2 ys := ⟨o2, (g3.sto _ _ ho2).1, hc2, n2, hd2⟩
  have lt1 : @LT.lt Nat _ a1 s3.heap.objs.size := Heap.lt_size (g3.sto _ _ ho1).1
  have lt2 : @LT.lt Nat _ a2 s3.heap.objs.size := Heap.lt_size (g3.sto _ _ ho2).1
  refine call_zipped t1 t2 ?_
  obtain ⟨z1, z2, z3, z4, z5, z6, z7⟩ := zipped_at s3.heap a1 a2
  generalize zipped s3.heap a1 a2 = hz at z1 z2 z3 z4 z5 z6 z7 ⊢
  generalize hn : s3.heap.objs.size = n at *
  refine wpAny_pyIter_zip z1 ⟨?_, ?_⟩
  · obtain ⟨mc, hnn, r⟩ := g3.base.lim
    exact ⟨mc, ns_kp (.of_keep (N := c.N) z7) hnn (by decide), r⟩
  have lenx : xs.size = as.length := by have := rl1.len; simpa using this
  have leny : ys.size = bs.length := by have := rl2.len; simpa using this
  have P : Apart (n + 4) (n + 2) (n + 3) n (n + 1) [a1] [a2] := by
    refine ⟨by show @Ne Nat _ _; omega, by show @Ne Nat _ _; omega, by show @Ne Nat _ _; omega, by show @Ne Nat _ _; omega, by show @Ne Nat _ _; omega, fun b hb => ?_, fun b hb => ?_⟩
    · have h : @Eq Nat b n ∨ @Eq Nat b a1 := by simpa using hb
      refine ⟨?_, ?_, ?_⟩ <;> (show @Ne Nat _ _; omega)
    · have h : @Eq Nat b (n + 1) ∨ @Eq Nat b a2 := by simpa using hb
      refine ⟨?_, ?_, ?_⟩ <;> (show @Ne Nat _ _; omega)
  have W : ∀ A' : Around, A'.handled = none → WalksU PR c.w A' (n + 4) _ _ _ _ _ _ := fun A' hA => walk_zip hA P (src_tuple (w := c.w) (xs := xs) (show a1 ≠ n from Nat.ne_of_lt lt1)) (src_tuple (w := c.w) (xs := ys) (show a2 ≠ n + 1 from Nat.ne_of_lt (Nat.lt_succ_of_lt lt2))) (by omega)
  obtain ⟨ps, hcd, htb⟩ := g3.base.tab
  have main : ∀ (code : Value) (h₃ : Heap) (tk : Nat), Heap.ExtBut TP hz h₃ → hz.objs.size ≤ h₃.objs.size → (∃ ps, h₃.IsCode TC TP ps ∧ h₃.TableAt TC TP ps) →
      wpAny (model PR c.w) c.A (builtinsFor c.env.globals c.env.builtins) (fun bi s₄ =>
        ∃ I fp wr n₀ Pt St₀ Mid pz F, Value.ref (n + 4) = .ref I ∧ (∀ A' : Around, A'.handled = none → WalksU PR c.w A' I fp wr n₀ Pt St₀ Mid) ∧ (∀ i vals, Pt i vals → ∃ va vb, vals = #[va, vb]) ∧ St₀ 0 s₄.heap ∧ (∀ b ∈ fp, b < s₄.heap.objs.size) ∧ s₄.heap.NoLimit ∧ cStatics ∉ wr ∧
          (∀ href : Heap, (∀ b o, s₄.heap.get? b = some o → href.get? b = some o) →
            QuietGenT PR c.w (genEnv scope [] s₄.heap.objs.size code bi c.env) xa xb [] (.BinOp (.Name xa pa') .Add (.Name xb pb') bp) (List.range s₄.heap.objs.size) wr Pt pz F href) ∧
          (∀ a h₅ tk gs, gs.bare = true → s₄.heap.objs.size < a → h₅.objs.size = a + 1 → (∀ b o, s₄.heap.get? b = some o → h₅.get? b = some o) →
            WalksS PR c.w c.A.in4 a (a :: s₄.heap.objs.size :: List.range s₄.heap.objs.size) (s₄.heap.objs.size :: wr) (GenOnlyQ s₄.gens.size) (passing pz n₀ 0).length
              (fun j y => ∃ i, (passing pz n₀ 0)[j]? = some i ∧ F i y) (GenAt PR c.w c.A.in4 a s₄.gens.size s₄.heap.objs.size (List.range s₄.heap.objs.size) wr pz n₀ F) →
            GenAt PR c.w c.A.in4 a s₄.gens.size s₄.heap.objs.size (List.range s₄.heap.objs.size) wr pz n₀ F 0 { s₄ with gens := s₄.gens.push gs, toks := tk, heap := h₅ } →
            wpAny (model PR c.w) c.A (spliced (backTo pos (starEach [] c.env))) (fun vs s' => wpAny (model PR c.w) c.A (call (.type "tuple") ([] ++ (Value.ref a :: vs)) []) Q E s') E { s₄ with gens := s₄.gens.push gs, toks := tk, heap := h₅ })) E { s3 with heap := h₃, toks := tk } := by
    intro code h₃ tk hx₃ hs₃ ht₃
    have nb : ∀ {b : Addr} {o}, s3.heap.get? b = some o → b ≠ TP → h₃.get? b = some o := fun {b o} e ne => hx₃ _ _ ne (z7 _ _ e)
    have nb' : ∀ {b : Addr} {o}, hz.get? b = some o → @LE.le Nat _ 100 b → h₃.get? b = some o := fun {b o} e ne => hx₃ _ _ (fun q => by have q' : @Eq Nat b 30 := q; omega) e
    obtain ⟨og, es, ep, hog, hdg, hsg, hfg⟩ := hgb
    obtain ⟨ob, hob, hb1, hb2, hb3⟩ := g3.base.mods
    refine wpAny_builtinsFor (m := fun y => nsFind es y) (bm := 4) ?_ hfg (by decide) (nb hob (by decide)) hb1 hb2 hb3 ?_
    · rw [f3.tops.1]; exact ⟨og, es, ep, nb (g3.base.frag _ _ hog).1 (g3.base.frag _ _ hog).2.2, hdg, hsg, fun _ => rfl⟩
    refine ⟨n + 4, _, _, _, _, _, _, fun _ => true, fun i y => ∃ a b t, as[i]? = some a ∧ bs[i]? = some b ∧ y = .int (a + b) t, rfl, W, ?_, ?_, ?_, ?_, ?_, ?_, ?_⟩
    · rintro i vals ⟨x, y, _, _, rfl⟩; exact ⟨x, y, rfl⟩
    · refine ⟨nb' z1 (by omega), nb' z2 (by omega), ⟨_, _, nb' z3 (by omega)⟩, ⟨?_, ?_⟩, ?_, ?_⟩
      · obtain ⟨o, ho, r⟩ := z4; exact ⟨o, nb' ho (by omega), r⟩
      · obtain ⟨o, ho, r⟩ := t1; exact ⟨o, nb ho (g3.sto _ _ ho1).2.1.1, r⟩
      · obtain ⟨o, ho, r⟩ := z5; exact ⟨o, nb' ho (by omega), r⟩
      · obtain ⟨o, ho, r⟩ := t2; exact ⟨o, nb ho (g3.sto _ _ ho2).2.1.1, r⟩
    · intro b hb
      show b < h₃.objs.size
      simp only [List.mem_cons, List.mem_append, List.not_mem_nil, or_false] at hb
      have hq : @LE.le Nat _ b (n + 4) := by
        rcases hb with q | q | q | q | q | q | q <;> (have q' : @Eq Nat b _ := q; omega)
      show @LT.lt Nat _ b h₃.objs.size
      omega
    · obtain ⟨mc, hnn, r⟩ := g3.base.lim
      exact ⟨mc, ns_kp (N := c.N) (fun b o e ne => ⟨o, nb e ne, .inl rfl⟩) hnn (by decide), r⟩
    · intro hm
      simp only [List.mem_cons, List.not_mem_nil, or_false] at hm
      have e2 : @LT.lt Nat _ cStatics 100 := by decide
      rcases hm with e | e | e | e <;> (have e' : @Eq Nat cStatics _ := e; omega)
    · intro href hh
      exact quiet_add (σ := σ3) hkind hxa hxb da db rl1 rl2
    · intro a h₅ tk' gs hgb' ha h5 hk5 WS GA
      refine wpAny_pure ?_
      show wpAny (model PR c.w) c.A (call (.type "tuple") [Value.ref a]) Q E _
      have el : (passing (fun _ => true) xs.size 0).length = as.length := by
        show (((List.range xs.size).drop 0).filter (fun _ => true)).length = _
        rw [List.drop_zero, List.filter_eq_self.mpr (fun _ _ => rfl), List.length_range]; exact lenx
      refine wpAny_size (call_tuple_gen (hsz := by rw [el, sizeLine_eq]; omega) WS.in4_3 (fun i s' st => st.1.typeIs) GA ?_ (List.mem_cons_self ..) fun s' acc hm hacc hsz' => ?_)
      · intro b hb
        show b < h₅.objs.size
        rw [h5]
        rcases List.mem_cons.mp hb with rfl | hb
        · exact Nat.lt_succ_self _
        · rcases List.mem_cons.mp hb with rfl | hb
          · exact Nat.lt_succ_of_lt ha
          · exact Nat.lt_succ_of_lt (Nat.lt_trans (List.mem_range.mp hb) ha)
      · have hlow : ∀ b o, @LT.lt Nat _ b n → h₃.get? b = some o → s'.heap.get? b = some o := fun b o lt e => by
          refine hm.heap b o (fun hmem => ?_) (hk5 b o e)
          have hC : @LE.le Nat _ (n + 5) h₃.objs.size := by omega
          rcases List.mem_cons.mp hmem with q' | hmem
          · have q2 : @Eq Nat b h₃.objs.size := q'
            omega
          · simp only [List.mem_cons, List.not_mem_nil, or_false] at hmem
            rcases hmem with q' | q' | q' | q' <;> (have q2 : @Eq Nat b _ := q'; omega)
        have y1 : Step c.K c.N σ3 s3 σ3 s' := by
          refine Step.but g3 (fun b o ne e => hlow b o (hn ▸ Heap.lt_size e) (nb e ne)) ?_ ((AllBare.push g3.gens hgb').movedS hm) ?_ hm.os
          · obtain ⟨ps', hcd', ⟨⟨o, vs, ho, hcl, hdv, h11⟩, hp⟩⟩ := ht₃
            obtain ⟨o', vs', file, tf, flags, tg, inF, text, tt, op, i1, i2, i3, i4, i5, i6, i7, i8, i9⟩ := hcd'
            have l1 : @LT.lt Nat _ TC n := by show @LT.lt Nat _ 34 n; omega
            have l2 : @LT.lt Nat _ TP n := by show @LT.lt Nat _ 30 n; omega
            exact ⟨ps', ⟨o', vs', file, tf, flags, tg, inF, text, tt, op, hlow _ _ l1 i1, i2, i3, i4, i5, i6, i7, hlow _ _ l2 i8, i9⟩, ⟨o, vs, hlow _ _ l1 ho, hcl, hdv, h11⟩, hlow _ _ l2 hp⟩
          · have e1 : h₅.objs.size ≤ (s'.heap.push { cls := .type "tuple", data := .seq acc }).objs.size := hsz'
            rw [Heap.size_push] at e1
            have e2 : @LT.lt Nat _ h₃.objs.size a := ha
            rw [hn]
            show @LE.le Nat _ n s'.heap.objs.size
            omega
        have y2 := Step.push y1.g (o := { cls := .type "tuple", data := .seq acc }) rfl cls_ne
        refine q _ _ _ (((x1.trans x2).trans x3).trans (y1.trans y2)) (.tup put_self rfl rfl (repL_of ?_ fun j d v hd hv => ?_))
        · simp only [List.length_map, List.length_zipWith, Array.length_toList]
          rw [hacc.1, el]; omega
        · obtain ⟨i, hi, p1, p2, t, k1, k2, rfl⟩ := hacc.2 j v (by simpa using hv)
          have ei : i = j := by
            unfold passing at hi
            rw [List.drop_zero, List.filter_eq_self.mpr (fun _ _ => rfl)] at hi
            exact ((List.getElem?_eq_some_iff.mp hi).2.symm.trans (by simp))
          subst ei
          simp only [List.getElem?_map, List.getElem?_zipWith, k1, k2] at hd
          cases hd
          exact .int
  have hcd' : hz.IsCode TC TP ps := hcd.keeps z7
  have htb' : hz.TableAt TC TP ps := htb.keeps z7
  cases hnf : codeAmong gp ps.toList with
  | some cv => exact wpAny_genexprCode_hit hcode hcd' hnf (main cv hz s3.toks (Heap.ExtBut.refl _ _) (Nat.le_refl _) ⟨ps, hcd', htb'⟩)
  | none => exact wpAny_genexprCodeX hcode hcd' htb' hnf fun c' h' tk hx hge hlt hc' _ ht' _ => main _ h' tk hx (Nat.le_trans hge (Nat.le_of_lt hlt)) ⟨_, hc', ht'⟩
end
end Mine
end
section
set_option autoImplicit false
namespace Mine
/-! plain functions: the encoders -/
noncomputable def B64 : List UInt8 := [65, 66, 67, 68, 69, 70, 71, 72, 73, 74, 75, 76, 77, 78, 79, 80, 81, 82, 83, 84, 85, 86, 87, 88, 89, 90, 97, 98, 99, 100, 101, 102, 103, 104, 105, 106, 107, 108, 109, 110, 111, 112, 113, 114, 115, 116, 117, 118, 119, 120, 121, 122, 48, 49, 50, 51, 52, 53, 54, 55, 56, 57, 43, 47]
noncomputable def sx (n : Nat) : UInt8 := B64.getD n 0
noncomputable def emit (lc : Nat) : Nat → Nat → List UInt8 → Nat × List UInt8
  | 0, lb, out => (lb, out)
  | f + 1, lb, out => if 6 ≤ lb then emit lc f (lb - 6) (out ++ [sx (lc / 2 ^ (lb - 6) % 64)]) else (lb, out)
structure S64 where
  lb : Nat
  lc : Nat
  out : List UInt8
noncomputable def step64 (st : S64) (b : UInt8) : S64 :=
  let lc := (st.lc * 256 + b.toNat) % 65536
  let e := emit lc (st.lb + 8) (st.lb + 8) st.out
  ⟨e.1, lc, e.2⟩
noncomputable def run64 (l : List UInt8) : S64 := l.foldl step64 ⟨0, 0, []⟩
noncomputable def fin64 (st : S64) : List UInt8 :=
  if st.lb = 2 then st.out ++ [sx (st.lc % 4 * 16), 61, 61] else if st.lb = 4 then st.out ++ [sx (st.lc % 16 * 4), 61] else st.out
noncomputable def enc64 (l : List UInt8) : List UInt8 := fin64 (run64 l)
noncomputable def urlT (c : UInt8) : UInt8 := if c = 43 then 45 else if c = 47 then 95 else c
noncomputable def url64 (l : List UInt8) : List UInt8 := (enc64 l).map urlT
noncomputable def hexD (n : Nat) : Nat := if n < 10 then 48 + n else 55 + n
noncomputable def enc16 (l : List UInt8) : List UInt8 := l.flatMap fun c => [(hexD (c.toNat / 16)).toUInt8, (hexD (c.toNat % 16)).toUInt8]

theorem emit_lt (lc : Nat) : ∀ f lb out, lb ≤ f → (emit lc f lb out).1 < 6
  | 0, lb, out, h => by simp [emit]; omega
  | f + 1, lb, out, h => by
    unfold emit
    split
    · exact emit_lt lc f _ _ (by omega)
    · simp; omega
theorem run64_lt (l : List UInt8) : (run64 l).lb < 6 ∧ (run64 l).lc < 65536 := by
  unfold run64
  suffices h : ∀ (l : List UInt8) (st : S64), st.lb < 6 → st.lc < 65536 → (l.foldl step64 st).lb < 6 ∧ (l.foldl step64 st).lc < 65536 from h l _ (by decide) (by decide)
  intro l
  induction l with
  | nil => intro st h1 h2; exact ⟨h1, h2⟩
  | cons b l ih => intro st h1 h2; exact ih _ (emit_lt _ _ _ _ (Nat.le_refl _)) (Nat.mod_lt _ (by decide))
theorem emit_len (lc : Nat) : ∀ f lb out, (emit lc f lb out).2.length ≤ out.length + lb / 6
  | 0, lb, out => by simp [emit]
  | f + 1, lb, out => by
    unfold emit
    split
    · have := emit_len lc f (lb - 6) (out ++ [sx (lc / 2 ^ (lb - 6) % 64)])
      simp at this
      omega
    · simp
theorem run64_len (l : List UInt8) : (run64 l).out.length ≤ 2 * l.length := by
  suffices h : ∀ (n : Nat), n ≤ l.length → (run64 (l.take n)).out.length ≤ 2 * n by
    have := h l.length (Nat.le_refl _); rwa [List.take_length] at this
  intro n
  induction n with
  | zero => intro _; simp [run64]
  | succ n ih =>
    intro hn
    have e : l.take (n + 1) = l.take n ++ [l[n]] := by rw [List.take_add_one, List.getElem?_eq_getElem (by omega)]; rfl
    have h1 := ih (by omega)
    have h2 := (run64_lt (l.take n)).1
    have h3 : run64 (l.take (n + 1)) = step64 (run64 (l.take n)) l[n] := by unfold run64; rw [e, List.foldl_append]; rfl
    rw [h3]
    have h4 := emit_len (((run64 (l.take n)).lc * 256 + l[n].toNat) % 65536) ((run64 (l.take n)).lb + 8) ((run64 (l.take n)).lb + 8) (run64 (l.take n)).out
    show (emit _ _ _ _).2.length ≤ _
    omega
theorem emit_fuel (lc : Nat) : ∀ f g lb out, lb ≤ f → lb ≤ g → emit lc f lb out = emit lc g lb out
  | 0, 0, lb, out, _, _ => rfl
  | 0, g + 1, lb, out, h, _ => by
    have : lb = 0 := by omega
    subst this; simp [emit]
  | f + 1, 0, lb, out, _, h => by
    have : lb = 0 := by omega
    subst this; simp [emit]
  | f + 1, g + 1, lb, out, h1, h2 => by
    unfold emit
    split
    · exact emit_fuel lc f g _ _ (by omega) (by omega)
    · rfl
theorem emit_step (lc lb : Nat) (out : List UInt8) (h : 6 ≤ lb) : emit lc lb lb out = emit lc (lb - 6) (lb - 6) (out ++ [sx (lc / 2 ^ (lb - 6) % 64)]) := by
  obtain ⟨f, rfl⟩ : ∃ f, lb = f + 1 := ⟨lb - 1, by omega⟩
  rw [emit, if_pos h]
  exact emit_fuel lc _ _ _ _ (by omega) (by omega)
theorem emit_stop (lc lb : Nat) (out : List UInt8) (h : ¬ 6 ≤ lb) : emit lc lb lb out = (lb, out) := by
  cases lb with
  | zero => rfl
  | succ f => rw [emit, if_neg h]
theorem run64_snoc (l : List UInt8) (b : UInt8) : run64 (l ++ [b]) = step64 (run64 l) b := by unfold run64; rw [List.foldl_append]; rfl
end Mine
end
section
set_option autoImplicit false
namespace Mine
/-! plain functions: the pieces, the signs -/
noncomputable def oct (n : Int) : UInt8 := (n.fmod 256).toNat.toUInt8
theorem oct_int (n : Int) : n.fmod 256 = ((oct n).toNat : Int) := by
  unfold oct
  have h1 : 0 ≤ n.fmod 256 := by rw [Int.fmod_eq_emod_of_nonneg _ (by decide)]; exact Int.emod_nonneg _ (by decide)
  have h2 : n.fmod 256 < 256 := by rw [Int.fmod_eq_emod_of_nonneg _ (by decide)]; exact Int.emod_lt_of_pos _ (by decide)
  have : (n.fmod 256).toNat < 256 := by omega
  simp [Nat.mod_eq_of_lt this]
  omega
noncomputable def laid (n : Int) : List UInt8 := oct (n.fdiv 3) :: if n.fmod 3 = 2 then [oct (n.fdiv 768)] else []
noncomputable def pstep (st : List (List UInt8) × List UInt8) (n : Int) : List (List UInt8) × List UInt8 := if n.fmod 3 = 1 then (st.1 ++ [st.2 ++ laid n], []) else (st.1, st.2 ++ laid n)
noncomputable def prun (ns : List Int) : List (List UInt8) × List UInt8 := ns.foldl pstep ([], [])
noncomputable def pieces (ns : List Int) : List (List UInt8) := (prun ns).1 ++ [(prun ns).2]
theorem laid_len (n : Int) : 1 ≤ (laid n).length ∧ (laid n).length ≤ 2 := by unfold laid; split <;> simp
theorem prun_snoc (ns : List Int) (n : Int) : prun (ns ++ [n]) = pstep (prun ns) n := by unfold prun; rw [List.foldl_append]; rfl
theorem prun_len (ns : List Int) : (prun ns).1.length ≤ ns.length ∧ (prun ns).2.length ≤ 2 * ns.length ∧ ((prun ns).1.flatten ++ (prun ns).2).length ≤ 2 * ns.length ∧ ns.length ≤ ((prun ns).1.flatten ++ (prun ns).2).length := by
  suffices h : ∀ n ≤ ns.length, (prun (ns.take n)).1.length ≤ n ∧ (prun (ns.take n)).2.length ≤ 2 * n ∧ ((prun (ns.take n)).1.flatten ++ (prun (ns.take n)).2).length ≤ 2 * n ∧ n ≤ ((prun (ns.take n)).1.flatten ++ (prun (ns.take n)).2).length by
    have := h ns.length (Nat.le_refl _); rwa [List.take_length] at this
  intro n
  induction n with
  | zero => intro _; simp [prun]
  | succ n ih =>
    intro hn
    have e : ns.take (n + 1) = ns.take n ++ [ns[n]] := by rw [List.take_add_one, List.getElem?_eq_getElem (by omega)]; rfl
    obtain ⟨h1, h2, h3, h4⟩ := ih (by omega)
    obtain ⟨l1, l2⟩ := laid_len ns[n]
    rw [e, prun_snoc]
    unfold pstep
    split
    · simp only [List.length_append, List.flatten_append, List.flatten_cons, List.flatten_nil, List.append_nil, List.length_nil, List.length_cons] at h3 h4 ⊢; omega
    · simp only [List.length_append] at h3 h4 ⊢; omega

noncomputable def num (l : List UInt8) : Nat := l.foldl (fun v b => v * 256 + b.toNat) 0
theorem num_snoc (l : List UInt8) (b : UInt8) : num (l ++ [b]) = num l * 256 + b.toNat := by unfold num; rw [List.foldl_append]; rfl
noncomputable def digs (al : List Nat) (B : Nat) : Nat → Nat → List Nat
  | 0, _ => []
  | k + 1, v => al.getD (v / B ^ k % B) 0 :: digs al B k v
theorem digs_len (al : List Nat) (B v : Nat) : ∀ k, (digs al B k v).length = k
  | 0 => rfl
  | k + 1 => by simp [digs, digs_len al B v k]
noncomputable def pad4 (l : List Nat) : List Nat := l ++ List.replicate ((4 - l.length % 4) % 4) 61
noncomputable def spare (bits n : Nat) : Nat := (bits - 8 * n % bits) % bits
noncomputable def signs (bits : Nat) (al : List Nat) (l : List UInt8) : List Nat :=
  let s := digs al (2 ^ bits) ((8 * l.length + spare bits l.length) / bits) (num l * 2 ^ spare bits l.length)
  if bits = 6 then pad4 s else s
end Mine
end
section
set_option autoImplicit false
namespace Mine
/-! plain functions: tables -/
noncomputable def tadd (t : List (Nat × Int)) (k : Nat) (v : Int) : List (Nat × Int) := if t.any (fun kv => kv.1 = k) then t.map (fun kv => if kv.1 = k then (kv.1, kv.2 + v) else kv) else t ++ [(k, v)]
noncomputable def tget (t : List (Nat × Int)) (k : Nat) : Option Int := (t.find? fun kv => kv.1 = k).map (·.2)
noncomputable def oftenT (tx : List Nat) : List (Nat × Int) := tx.foldl (fun t c => tadd t c 1) []
noncomputable def placesT (tx : List Nat) : List (Nat × Int) := (tx.zipIdx).foldl (fun t ci => tadd t ci.1 (ci.2 : Int)) []
theorem oftenT_snoc (tx : List Nat) (c : Nat) : oftenT (tx ++ [c]) = tadd (oftenT tx) c 1 := by unfold oftenT; rw [List.foldl_append]; rfl
theorem placesT_snoc (tx : List Nat) (c : Nat) : placesT (tx ++ [c]) = tadd (placesT tx) c (tx.length : Int) := by
  unfold placesT; rw [List.zipIdx_append, List.foldl_append]; simp
theorem tadd_keys (t : List (Nat × Int)) (k : Nat) (v : Int) : (tadd t k v).map (·.1) = if k ∈ t.map (·.1) then t.map (·.1) else t.map (·.1) ++ [k] := by
  unfold tadd
  by_cases h : (t.any fun kv => decide (kv.1 = k)) = true
  · rw [if_pos h]
    have h' : k ∈ t.map (·.1) := by
      rw [List.any_eq_true] at h
      obtain ⟨x, h1, h2⟩ := h
      simp at h2
      exact List.mem_map.mpr ⟨x, h1, h2⟩
    rw [if_pos h', List.map_map]
    refine List.map_congr_left fun kv _ => ?_
    simp only [Function.comp]
    split <;> rfl
  · rw [if_neg h]
    have h' : k ∉ t.map (·.1) := fun hm => by
      obtain ⟨x, h1, h2⟩ := List.mem_map.mp hm
      exact h (List.any_eq_true.mpr ⟨x, h1, by simpa using h2⟩)
    rw [if_neg h']
    simp
theorem tadd_nodup (t : List (Nat × Int)) (k : Nat) (v : Int) (h : (t.map (·.1)).Nodup) : ((tadd t k v).map (·.1)).Nodup := by
  rw [tadd_keys]
  split
  · exact h
  · rename_i hk
    rw [List.nodup_append]
    exact ⟨h, by simp, fun a ha b hb => by simp at hb; subst hb; exact fun e => hk (e ▸ ha)⟩
theorem often_nodup (tx : List Nat) : ((oftenT tx).map (·.1)).Nodup := by
  suffices h : ∀ (l : List Nat) (t : List (Nat × Int)), (t.map (·.1)).Nodup → ((l.foldl (fun t c => tadd t c 1) t).map (·.1)).Nodup from h tx [] (by simp)
  intro l
  induction l with
  | nil => intro t h; exact h
  | cons c l ih => intro t h; exact ih _ (tadd_nodup _ _ _ h)
theorem often_places_keys (tx : List Nat) : (oftenT tx).map (·.1) = (placesT tx).map (·.1) := by
  suffices h : ∀ n ≤ tx.length, (oftenT (tx.take n)).map (·.1) = (placesT (tx.take n)).map (·.1) by
    have := h tx.length (Nat.le_refl _); rwa [List.take_length] at this
  intro n
  induction n with
  | zero => intro _; simp [oftenT, placesT]
  | succ n ih =>
    intro hn
    have e : tx.take (n + 1) = tx.take n ++ [tx[n]] := by rw [List.take_add_one, List.getElem?_eq_getElem (by omega)]; rfl
    rw [e, oftenT_snoc, placesT_snoc, tadd_keys, tadd_keys, ih (by omega)]
theorem tget_some {t : List (Nat × Int)} {k : Nat} (h : k ∈ t.map (·.1)) : ∃ v, tget t k = some v := by
  unfold tget
  obtain ⟨x, h1, h2⟩ := List.mem_map.mp h
  cases e : t.find? (fun kv => decide (kv.1 = k)) with
  | some y => exact ⟨_, rfl⟩
  | none =>
    rw [List.find?_eq_none] at e
    exact absurd (by simpa using h2) (e x h1)
theorem tget_nodup {t : List (Nat × Int)} (hn : (t.map (·.1)).Nodup) {kv : Nat × Int} (h : kv ∈ t) : tget t kv.1 = some kv.2 := by
  induction t with
  | nil => cases h
  | cons x t ih =>
    rw [List.map_cons, List.nodup_cons] at hn
    unfold tget
    rcases List.mem_cons.mp h with rfl | h
    · simp
    · have : x.1 ≠ kv.1 := fun e => hn.1 (e ▸ List.mem_map_of_mem h)
      rw [List.find?_cons]
      simp only [this, decide_false]
      exact ih hn.2 h
theorem tadd_len (t : List (Nat × Int)) (k : Nat) (v : Int) : (tadd t k v).length ≤ t.length + 1 := by unfold tadd; split <;> simp
theorem often_len (tx : List Nat) : (oftenT tx).length ≤ tx.length := by
  suffices h : ∀ n ≤ tx.length, (oftenT (tx.take n)).length ≤ n by
    have := h tx.length (Nat.le_refl _); rwa [List.take_length] at this
  intro n
  induction n with
  | zero => intro _; simp [oftenT]
  | succ n ih =>
    intro hn
    have e : tx.take (n + 1) = tx.take n ++ [tx[n]] := by rw [List.take_add_one, List.getElem?_eq_getElem (by omega)]; rfl
    rw [e, oftenT_snoc]
    have := tadd_len (oftenT (tx.take n)) tx[n] 1
    have := ih (by omega)
    omega
noncomputable abbrev Tab := List (Nat × List Int)
/-- the callers of one writing -/
noncomputable def callersT (wide : Bool) (tx : List Nat) (size : Int) : Tab := (oftenT tx).map fun kv => (kv.1, if wide then [kv.2, (tget (placesT tx) kv.1).getD 0, size, 1] else [kv.2])
end Mine
end
section
set_option autoImplicit false
namespace Mine
/-! plain functions: the ledger -/
noncomputable def plcN (c : Nat) (t : List Nat) : Nat → Int
  | 0 => 0
  | i + 1 => plcN c t i + if t[i]? = some c then (i : Int) else 0
noncomputable def plc (c : Nat) (t : List Nat) : Int := plcN c t t.length
noncomputable def hav (c : Nat) (W : List (List Nat)) : List Nat := (List.range W.length).filter fun k => decide (c ∈ W.getD k [])
noncomputable def lineT (wide : Bool) (c : Nat) (W : List (List Nat)) (P : List (List UInt8)) : List Int :=
  let h := hav c W
  if wide then [(h.map fun k => ((W.getD k []).count c : Int)).sum, (h.map fun k => plc c (W.getD k [])).sum, (h.map fun k => ((P.getD k []).length : Int)).sum, (h.length : Int)]
  else [(h.map fun k => ((W.getD k []).count c : Int)).sum]
noncomputable def seenStep (s : List Nat) (c : Nat) : List Nat := if c ∈ s then s else s ++ [c]
noncomputable def firsts (l : List Nat) : List Nat := l.foldl seenStep []
theorem firsts_snoc (l : List Nat) (c : Nat) : firsts (l ++ [c]) = seenStep (firsts l) c := by unfold firsts; rw [List.foldl_append]; rfl
noncomputable def ledgerT (wide : Bool) (W : List (List Nat)) (P : List (List UInt8)) : List (Nat × List Int) := (firsts W.flatten).map fun c => (c, lineT wide c W P)
theorem firsts_len (l : List Nat) : (firsts l).length ≤ l.length := by
  suffices h : ∀ n ≤ l.length, (firsts (l.take n)).length ≤ n by
    have := h l.length (Nat.le_refl _); rwa [List.take_length] at this
  intro n
  induction n with
  | zero => intro _; simp [firsts]
  | succ n ih =>
    intro hn
    have e : l.take (n + 1) = l.take n ++ [l[n]] := by rw [List.take_add_one, List.getElem?_eq_getElem (by omega)]; rfl
    rw [e, firsts_snoc]
    have := ih (by omega)
    unfold seenStep
    split <;> simp <;> omega
end Mine
end
section
set_option autoImplicit false
namespace Mine
/-! plain functions: tables merged -/
noncomputable def gget {α : Type} (t : List (Nat × α)) (k : Nat) : Option α := (t.find? fun kv => kv.1 = k).map (·.2)
noncomputable def gput {α : Type} (t : List (Nat × α)) (k : Nat) (v : α) : List (Nat × α) := if t.any (fun kv => kv.1 = k) then t.map (fun kv => if kv.1 = k then (kv.1, v) else kv) else t ++ [(k, v)]
noncomputable def mstep (t : Tab) (kv : Nat × List Int) : Tab := gput t kv.1 (match gget t kv.1 with | some old => List.zipWith (· + ·) kv.2 old | none => kv.2)
noncomputable def merge (t s : Tab) : Tab := s.foldl mstep t
theorem gget_none {α : Type} {t : List (Nat × α)} {k : Nat} (h : k ∉ t.map (·.1)) : gget t k = none := by
  unfold gget
  rw [Option.map_eq_none_iff, List.find?_eq_none]
  intro x hx e
  exact h (List.mem_map.mpr ⟨x, hx, by simpa using e⟩)
theorem gget_mem {α : Type} {t : List (Nat × α)} {k : Nat} {v : α} (h : gget t k = some v) : (k, v) ∈ t := by
  unfold gget at h
  rw [Option.map_eq_some_iff] at h
  obtain ⟨x, h1, h2⟩ := h
  have h3 := List.mem_of_find?_eq_some h1
  have h4 := List.find?_some h1
  simp at h4
  rw [← h4, ← h2]
  exact h3
theorem any_mem {α : Type} {t : List (Nat × α)} {k : Nat} : (t.any fun kv => decide (kv.1 = k)) = true ↔ k ∈ t.map (·.1) := by
  rw [List.any_eq_true, List.mem_map]
  simp only [decide_eq_true_eq]
theorem gput_fresh {α : Type} {t : List (Nat × α)} {k : Nat} {v : α} (h : k ∉ t.map (·.1)) : gput t k v = t ++ [(k, v)] := by
  unfold gput
  rw [if_neg fun e => h (any_mem.mp e)]
theorem gput_keys {α : Type} (t : List (Nat × α)) (k : Nat) (v : α) : (gput t k v).map (·.1) = if k ∈ t.map (·.1) then t.map (·.1) else t.map (·.1) ++ [k] := by
  unfold gput
  by_cases h : k ∈ t.map (·.1)
  · rw [if_pos (any_mem.mpr h), if_pos h, List.map_map]
    refine List.map_congr_left fun kv _ => ?_
    simp only [Function.comp]
    split <;> rfl
  · rw [if_neg fun e => h (any_mem.mp e), if_neg h]
    simp
theorem gput_nodup {α : Type} (t : List (Nat × α)) (k : Nat) (v : α) (h : (t.map (·.1)).Nodup) : ((gput t k v).map (·.1)).Nodup := by
  rw [gput_keys]
  split
  · exact h
  · rename_i hk
    rw [List.nodup_append]
    exact ⟨h, by simp, fun a ha b hb => by simp at hb; subst hb; exact fun e => hk (e ▸ ha)⟩
theorem gput_len {α : Type} (t : List (Nat × α)) (k : Nat) (v : α) : (gput t k v).length ≤ t.length + 1 := by unfold gput; split <;> simp
theorem gput_mem {α : Type} {t : List (Nat × α)} {k : Nat} {v : α} {x : Nat × α} (h : x ∈ gput t k v) : x ∈ t ∨ x.2 = v := by
  unfold gput at h
  split at h
  · obtain ⟨y, h1, h2⟩ := List.mem_map.mp h
    split at h2
    · exact .inr (by rw [← h2])
    · exact .inl (h2 ▸ h1)
  · rcases List.mem_append.mp h with h | h
    · exact .inl h
    · exact .inr (by simp at h; rw [h])
theorem merge_snoc (t s : Tab) (kv : Nat × List Int) : merge t (s ++ [kv]) = mstep (merge t s) kv := by unfold merge; rw [List.foldl_append]; rfl
theorem merge_nodup (t s : Tab) (h : (t.map (·.1)).Nodup) : ((merge t s).map (·.1)).Nodup := by
  unfold merge
  induction s generalizing t with
  | nil => exact h
  | cons x s ih => exact ih _ (gput_nodup _ _ _ h)
theorem merge_len (t s : Tab) : (merge t s).length ≤ t.length + s.length := by
  unfold merge
  induction s generalizing t with
  | nil => simp
  | cons x s ih =>
    have h1 := ih (mstep t x)
    have h2 : (mstep t x).length ≤ t.length + 1 := gput_len _ _ _
    simp only [List.foldl_cons, List.length_cons]
    omega
theorem merge_rows (n : Nat) (t s : Tab) (h : ∀ kv ∈ t, kv.2.length = n) (h' : ∀ kv ∈ s, kv.2.length = n) : ∀ kv ∈ merge t s, kv.2.length = n := by
  unfold merge
  induction s generalizing t with
  | nil => exact h
  | cons x s ih =>
    refine ih _ (fun kv hkv => ?_) fun kv hkv => h' kv (List.mem_cons_of_mem _ hkv)
    rcases gput_mem hkv with h1 | h1
    · exact h kv h1
    · rw [h1]
      have hx := h' x (List.mem_cons_self ..)
      cases hg : gget t x.1 with
      | none => exact hx
      | some old =>
        have := h _ (gget_mem hg)
        simp only [List.length_zipWith, hx]
        have h2 : old.length = n := this
        rw [h2, Nat.min_self]
theorem gput_take {α : Type} {t : List (Nat × α)} (hn : (t.map (·.1)).Nodup) {i : Nat} (hi : i < t.length) : gput (t.take i) t[i].1 t[i].2 = t.take (i + 1) := by
  have e : t.take (i + 1) = t.take i ++ [t[i]] := by rw [List.take_add_one, List.getElem?_eq_getElem hi]; rfl
  rw [e, gput_fresh]
  intro hm
  have e2 : t = t.take i ++ t[i] :: t.drop (i + 1) := by rw [List.getElem_cons_drop, List.take_append_drop]
  have hn2 : ((t.take i ++ t[i] :: t.drop (i + 1)).map (·.1)).Nodup := by rw [← e2]; exact hn
  rw [List.map_append, List.nodup_append] at hn2
  exact hn2.2.2 _ hm t[i].1 (by rw [List.map_cons]; exact List.mem_cons_self ..) rfl
end Mine
end
section
set_option autoImplicit false
namespace Mine
/-! plain functions: entries added up -/
noncomputable abbrev nat8 (l : List UInt8) : List Nat := l.map (·.toNat)
noncomputable def tabs (wide : Bool) (enc : List UInt8 → List UInt8) (ps : List (List UInt8)) : Tab := ps.foldl (fun t p => merge t (callersT wide (nat8 (enc p)) (p.length : Int))) []
noncomputable def lens (enc : List UInt8 → List UInt8) (ps : List (List UInt8)) : Int := (ps.map fun p => ((enc p).length : Int)).sum
noncomputable def octN (ps : List (List UInt8)) : Int := (ps.map fun p => (p.length : Int)).sum
noncomputable def tots (ps : List (List UInt8)) : Int := (ps.map fun p => (p.map fun c => (c.toNat : Int)).sum).sum
theorem tabs_snoc (wide : Bool) (enc : List UInt8 → List UInt8) (ps : List (List UInt8)) (p : List UInt8) : tabs wide enc (ps ++ [p]) = merge (tabs wide enc ps) (callersT wide (nat8 (enc p)) (p.length : Int)) := by
  unfold tabs; rw [List.foldl_append]; rfl
theorem lens_snoc (enc : List UInt8 → List UInt8) (ps : List (List UInt8)) (p : List UInt8) : lens enc (ps ++ [p]) = lens enc ps + (enc p).length := by unfold lens; simp
theorem octN_snoc (ps : List (List UInt8)) (p : List UInt8) : octN (ps ++ [p]) = octN ps + p.length := by unfold octN; simp
theorem tots_snoc (ps : List (List UInt8)) (p : List UInt8) : tots (ps ++ [p]) = tots ps + (p.map fun c => (c.toNat : Int)).sum := by unfold tots; simp
theorem callers_rows (wide : Bool) (tx : List Nat) (n : Int) : ∀ kv ∈ callersT wide tx n, kv.2.length = if wide then 4 else 1 := by
  intro kv h
  unfold callersT at h
  obtain ⟨x, _, rfl⟩ := List.mem_map.mp h
  cases wide <;> rfl
theorem callers_len (wide : Bool) (tx : List Nat) (n : Int) : (callersT wide tx n).length ≤ tx.length := by
  unfold callersT; rw [List.length_map]; exact often_len tx
theorem tabs_ok (wide : Bool) (enc : List UInt8 → List UInt8) (ps : List (List UInt8)) : ((tabs wide enc ps).map (·.1)).Nodup ∧ (∀ kv ∈ tabs wide enc ps, kv.2.length = if wide then 4 else 1) := by
  suffices h : ∀ (l : List (List UInt8)) (t : Tab), (t.map (·.1)).Nodup → (∀ kv ∈ t, kv.2.length = if wide then 4 else 1) →
      ((l.foldl (fun t p => merge t (callersT wide (nat8 (enc p)) (p.length : Int))) t).map (·.1)).Nodup ∧ (∀ kv ∈ l.foldl (fun t p => merge t (callersT wide (nat8 (enc p)) (p.length : Int))) t, kv.2.length = if wide then 4 else 1) from
    h ps [] (by simp) (by simp)
  intro l
  induction l with
  | nil => intro t h1 h2; exact ⟨h1, h2⟩
  | cons p l ih => intro t h1 h2; exact ih _ (merge_nodup _ _ h1) (merge_rows _ _ _ h2 (callers_rows wide _ _))
theorem tabs_len (wide : Bool) (enc : List UInt8 → List UInt8) (ps : List (List UInt8)) : (tabs wide enc ps).length ≤ (ps.map fun p => (enc p).length).sum := by
  suffices h : ∀ (l : List (List UInt8)) (t : Tab), (l.foldl (fun t p => merge t (callersT wide (nat8 (enc p)) (p.length : Int))) t).length ≤ t.length + (l.map fun p => (enc p).length).sum by
    have := h ps []; unfold tabs; simpa using this
  intro l
  induction l with
  | nil => intro t; simp
  | cons p l ih =>
    intro t
    have h1 := ih (merge t (callersT wide (nat8 (enc p)) (p.length : Int)))
    have h2 := merge_len t (callersT wide (nat8 (enc p)) (p.length : Int))
    have h3 := callers_len wide (nat8 (enc p)) (p.length : Int)
    rw [List.length_map] at h3
    simp only [List.foldl_cons, List.map_cons, List.sum_cons]
    omega
end Mine
end
section
set_option autoImplicit false
namespace Mine
/-! plain functions: a row cut into parts of one size; the alphabets -/
noncomputable def cuts (size : Nat) (row : List UInt8) : List (List UInt8) := (List.range ((row.length + size - 1) / size)).map fun k => (row.drop (k * size)).take size
noncomputable def al16 : List Nat := [48, 49, 50, 51, 52, 53, 54, 55, 56, 57, 65, 66, 67, 68, 69, 70]
noncomputable def alLet : List Nat := [65, 66, 67, 68, 69, 70, 71, 72, 73, 74, 75, 76, 77, 78, 79, 80, 81, 82, 83, 84, 85, 86, 87, 88, 89, 90, 97, 98, 99, 100, 101, 102, 103, 104, 105, 106, 107, 108, 109, 110, 111, 112, 113, 114, 115, 116, 117, 118, 119, 120, 121, 122, 48, 49, 50, 51, 52, 53, 54, 55, 56, 57]
noncomputable def al64 : List Nat := alLet ++ [43, 47]
noncomputable def alUrl : List Nat := alLet ++ [45, 95]
/-- the numbers that the law lays -/
noncomputable def nums13 (ns : List Int) : List Int := ns.take 8 ++ [753, 766, 571, 3, 2]
end Mine
end
section
set_option autoImplicit false
set_option linter.unusedSimpArgs false
namespace Mine
/-! plain laws: tables -/
theorem seen_mem (s : List Nat) (c x : Nat) : x ∈ seenStep s c ↔ x ∈ s ∨ x = c := by
  unfold seenStep
  split
  · rename_i h
    exact ⟨.inl, fun q => q.elim id fun e => e ▸ h⟩
  · simp
theorem seen_fold_mem (l : List Nat) : ∀ (s : List Nat) (x : Nat), x ∈ l.foldl seenStep s ↔ x ∈ s ∨ x ∈ l := by
  induction l with
  | nil => intro s x; simp
  | cons c l ih => intro s x; rw [List.foldl_cons, ih, seen_mem]; simp [or_assoc]
theorem firsts_iff (l : List Nat) (x : Nat) : x ∈ firsts l ↔ x ∈ l := by unfold firsts; rw [seen_fold_mem]; simp
theorem seen_nodup (s : List Nat) (c : Nat) (h : s.Nodup) : (seenStep s c).Nodup := by
  unfold seenStep
  split
  · exact h
  · rename_i hk
    rw [List.nodup_append]
    exact ⟨h, by simp, fun a ha b hb => by simp at hb; subst hb; exact fun e => hk (e ▸ ha)⟩
theorem seen_fold_nodup (l : List Nat) : ∀ (s : List Nat), s.Nodup → (l.foldl seenStep s).Nodup := by
  induction l with
  | nil => intro s h; exact h
  | cons c l ih => intro s h; exact ih _ (seen_nodup s c h)
theorem firsts_nodup (l : List Nat) : (firsts l).Nodup := seen_fold_nodup l [] (by simp)
theorem snoc_ind {α : Type} {p : List α → Prop} (h0 : p []) (h1 : ∀ l a, p l → p (l ++ [a])) (l : List α) : p l := by
  have : ∀ n (l : List α), l.length = n → p l := by
    intro n
    induction n with
    | zero => intro l hl; rw [List.length_eq_zero_iff.mp hl]; exact h0
    | succ n ih =>
      intro l hl
      have hne : l ≠ [] := fun e => by rw [e] at hl; cases hl
      rw [← List.dropLast_concat_getLast hne]
      exact h1 _ _ (ih _ (by rw [List.length_dropLast, hl]; rfl))
  exact this _ l rfl
theorem seen_fold_firsts (s l : List Nat) : (firsts l).foldl seenStep s = l.foldl seenStep s := by
  induction l using snoc_ind with
  | h0 => rfl
  | h1 l c ih =>
    rw [firsts_snoc, List.foldl_append]
    unfold seenStep
    by_cases h : c ∈ firsts l
    · rw [if_pos h]
      show List.foldl seenStep s (firsts l) = seenStep (List.foldl seenStep s l) c
      rw [ih]
      unfold seenStep
      rw [if_pos]
      exact (seen_fold_mem l s c).mpr (.inr ((firsts_iff l c).mp h))
    · rw [if_neg h, List.foldl_append]
      show seenStep (List.foldl seenStep s (firsts l)) c = seenStep (List.foldl seenStep s l) c
      rw [ih]
theorem firsts_app (a b : List Nat) : (firsts b).foldl seenStep (firsts a) = firsts (a ++ b) := by
  rw [seen_fold_firsts]; unfold firsts; rw [List.foldl_append]

/-- tables with the same keys and the same values are the same -/
theorem tab_ext {α : Type} : ∀ {t s : List (Nat × α)}, (t.map (·.1)).Nodup → t.map (·.1) = s.map (·.1) → (∀ c ∈ t.map (·.1), gget t c = gget s c) → t = s
  | [], [], _, _, _ => rfl
  | [], _ :: _, _, h, _ => by cases h
  | _ :: _, [], _, h, _ => by cases h
  | (k, v) :: t, (k', v') :: s, hn, hk, hg => by
    simp only [List.map_cons, List.cons.injEq] at hk
    obtain ⟨hk1, hk2⟩ := hk
    subst hk1
    rw [List.map_cons, List.nodup_cons] at hn
    have h0 := hg k (by simp)
    have hv : v = v' := by simpa [gget] using h0
    subst hv
    congr 1
    refine tab_ext hn.2 hk2 fun c hc => ?_
    have hne : k ≠ c := fun e => hn.1 (e ▸ hc)
    have := hg c (by simp [hc])
    simpa [gget, List.find?_cons, hne] using this
theorem gput_seen {α : Type} (t : List (Nat × α)) (k : Nat) (v : α) : (gput t k v).map (·.1) = seenStep (t.map (·.1)) k := by rw [gput_keys]; rfl
theorem merge_keys (t s : Tab) : (merge t s).map (·.1) = (s.map (·.1)).foldl seenStep (t.map (·.1)) := by
  unfold merge
  induction s generalizing t with
  | nil => rfl
  | cons x s ih => rw [List.foldl_cons, ih, List.map_cons, List.foldl_cons]; congr 1; exact gput_seen _ _ _
theorem gget_gput {α : Type} (t : List (Nat × α)) (k c : Nat) (v : α) : gget (gput t k v) c = if c = k then some v else gget t c := by
  unfold gput
  by_cases h : k ∈ t.map (·.1)
  · rw [if_pos (any_mem.mpr h)]
    induction t with
    | nil => cases h
    | cons x t ih =>
      obtain ⟨a, b⟩ := x
      by_cases hk : a = k
      · subst hk
        by_cases hc : c = a
        · subst hc; simp [gget]
        · have hc' : a ≠ c := fun e => hc e.symm
          rw [if_neg hc]
          have e : ∀ t : List (Nat × α), gget (t.map fun kv => if kv.1 = a then (kv.1, v) else kv) c = gget t c := by
            intro t
            induction t with
            | nil => rfl
            | cons y t ih2 =>
              obtain ⟨p, q⟩ := y
              by_cases hp : p = a
              · subst hp; simpa [gget, List.find?_cons, hc'] using ih2
              · by_cases hq : p = c
                · subst hq; simp [gget, List.find?_cons, hp]
                · simpa [gget, List.find?_cons, hp, hq] using ih2
          exact e ((a, b) :: t)
      · have h' : k ∈ t.map (·.1) := by
          rcases List.mem_cons.mp h with q | q
          · exact absurd q.symm hk
          · exact q
        have := ih h'
        by_cases hc : a = c
        · subst hc; simp [gget, List.find?_cons, hk]
        · simpa [gget, List.find?_cons, hk, hc] using this
  · rw [if_neg fun e => h (any_mem.mp e)]
    by_cases hc : c = k
    · subst hc
      have := gget_none h
      unfold gget at this ⊢
      rw [Option.map_eq_none_iff] at this
      rw [List.find?_append, this]
      simp
    · have hc' : k ≠ c := fun e => hc e.symm
      rw [if_neg hc]
      unfold gget
      rw [List.find?_append]
      simp [hc']
noncomputable def comb (a b : Option (List Int)) : Option (List Int) := match b, a with | some v, some old => some (List.zipWith (· + ·) v old) | some v, none => some v | none, x => x
theorem gget_merge (t s : Tab) (hs : (s.map (·.1)).Nodup) (c : Nat) : gget (merge t s) c = comb (gget t c) (gget s c) := by
  unfold merge
  induction s generalizing t with
  | nil =>
    show gget t c = comb (gget t c) none
    cases gget t c <;> rfl
  | cons x s ih =>
    obtain ⟨k, v⟩ := x
    rw [List.map_cons, List.nodup_cons] at hs
    rw [List.foldl_cons, ih _ hs.2]
    unfold mstep
    rw [gget_gput]
    by_cases hc : c = k
    · subst hc
      rw [gget_none hs.1, if_pos rfl]
      have : gget ((c, v) :: s) c = some v := by simp [gget]
      rw [this]
      cases gget t c <;> rfl
    · have hc' : k ≠ c := fun e => hc e.symm
      rw [if_neg hc]
      have : gget ((k, v) :: s) c = gget s c := by simp [gget, List.find?_cons, hc']
      rw [this]
end Mine
end
section
set_option autoImplicit false
set_option linter.unusedSimpArgs false
namespace Mine
theorem tadd_gput {t : List (Nat × Int)} (hn : (t.map (·.1)).Nodup) (k : Nat) (v : Int) : tadd t k v = gput t k ((gget t k).getD 0 + v) := by
  unfold tadd gput
  by_cases h : (t.any fun kv => decide (kv.1 = k)) = true
  · rw [if_pos h, if_pos h]
    refine List.map_congr_left fun kv hkv => ?_
    by_cases hk : kv.1 = k
    · have hg : gget t kv.1 = some kv.2 := tget_nodup hn hkv
      rw [hk] at hg
      rw [if_pos hk, if_pos hk, hg]
      rfl
    · rw [if_neg hk, if_neg hk]
  · rw [if_neg h, if_neg h, gget_none fun e => h (any_mem.mpr e)]
    simp
theorem gget_often (tx : List Nat) (c : Nat) : gget (oftenT tx) c = if c ∈ tx then some ((tx.count c : Nat) : Int) else none := by
  induction tx using snoc_ind with
  | h0 => rfl
  | h1 tx x ih =>
    rw [oftenT_snoc, tadd_gput (often_nodup tx), gget_gput]
    by_cases hc : c = x
    · subst hc
      have hin : c ∈ tx ++ [c] := by simp
      rw [if_pos rfl, ih, if_pos hin]
      by_cases hm : c ∈ tx
      · rw [if_pos hm]; simp [List.count_append]
      · rw [if_neg hm]; simp [List.count_append, List.count_eq_zero.mpr hm]
    · rw [if_neg hc, ih]
      have hc' : x ≠ c := fun e => hc e.symm
      simp [List.count_append, List.count_cons, hc, hc']
theorem plcN_app (c : Nat) (tx : List Nat) (y : List Nat) : ∀ n ≤ tx.length, plcN c (tx ++ y) n = plcN c tx n
  | 0, _ => rfl
  | n + 1, h => by
    unfold plcN
    rw [plcN_app c tx y n (by omega), List.getElem?_append_left (by omega)]
theorem plc_snoc (c : Nat) (tx : List Nat) (x : Nat) : plc c (tx ++ [x]) = plc c tx + if x = c then (tx.length : Int) else 0 := by
  unfold plc
  rw [List.length_append]
  show plcN c (tx ++ [x]) (tx.length + 1) = _
  rw [plcN, plcN_app c tx [x] _ (Nat.le_refl _)]
  simp
theorem places_nodup (tx : List Nat) : ((placesT tx).map (·.1)).Nodup := often_places_keys tx ▸ often_nodup tx
theorem gget_places (tx : List Nat) (c : Nat) : gget (placesT tx) c = if c ∈ tx then some (plc c tx) else none := by
  induction tx using snoc_ind with
  | h0 => rfl
  | h1 tx x ih =>
    rw [placesT_snoc, tadd_gput (places_nodup tx), gget_gput, plc_snoc]
    by_cases hc : c = x
    · subst hc
      have hin : c ∈ tx ++ [c] := by simp
      rw [if_pos rfl, ih, if_pos hin, if_pos rfl]
      by_cases hm : c ∈ tx
      · rw [if_pos hm]; rfl
      · rw [if_neg hm]
        have : plc c tx = 0 := by
          unfold plc
          have : ∀ n, plcN c tx n = 0 := by
            intro n
            induction n with
            | zero => rfl
            | succ n ih2 =>
              unfold plcN
              rw [ih2, if_neg fun e => hm (List.mem_of_getElem? e)]
              rfl
          exact this _
        rw [this]; rfl
    · have hc' : x ≠ c := fun e => hc e.symm
      rw [if_neg hc, ih, if_neg hc']
      simp [hc]
theorem gget_map {α β : Type} (t : List (Nat × α)) (f : Nat → α → β) (c : Nat) : gget (t.map fun kv => (kv.1, f kv.1 kv.2)) c = (gget t c).map (f c) := by
  induction t with
  | nil => rfl
  | cons x t ih =>
    obtain ⟨k, v⟩ := x
    by_cases h : k = c
    · subst h; simp [gget]
    · simpa [gget, List.find?_cons, h] using ih
theorem gget_keys {β : Type} (l : List Nat) (f : Nat → β) (c : Nat) : gget (l.map fun k => (k, f k)) c = if c ∈ l then some (f c) else none := by
  induction l with
  | nil => rfl
  | cons k l ih =>
    by_cases h : k = c
    · subst h; simp [gget]
    · have h' : c ≠ k := fun e => h e.symm
      simp only [List.mem_cons, h', false_or]
      rw [← ih]
      simp [gget, List.find?_cons, h]
noncomputable def rowT (wide : Bool) (c : Nat) (tx : List Nat) (size : Int) : List Int := if wide then [((tx.count c : Nat) : Int), plc c tx, size, 1] else [((tx.count c : Nat) : Int)]
theorem gget_callers (wide : Bool) (tx : List Nat) (size : Int) (c : Nat) : gget (callersT wide tx size) c = if c ∈ tx then some (rowT wide c tx size) else none := by
  unfold callersT
  rw [gget_map (oftenT tx) (fun k n => if wide then [n, (tget (placesT tx) k).getD 0, size, 1] else [n]) c, gget_often]
  have hp : tget (placesT tx) c = gget (placesT tx) c := rfl
  rw [hp, gget_places]
  by_cases h : c ∈ tx
  · rw [if_pos h, if_pos h, if_pos h]; rfl
  · rw [if_neg h, if_neg h, if_neg h]; rfl
theorem often_keys (tx : List Nat) : (oftenT tx).map (·.1) = firsts tx := by
  induction tx using snoc_ind with
  | h0 => rfl
  | h1 tx x ih => rw [oftenT_snoc, tadd_keys, firsts_snoc, ih]; rfl
theorem callers_keys (wide : Bool) (tx : List Nat) (size : Int) : (callersT wide tx size).map (·.1) = firsts tx := by
  unfold callersT; rw [List.map_map]; exact often_keys tx
theorem hav_snoc (c : Nat) (W : List (List Nat)) (tx : List Nat) : hav c (W ++ [tx]) = hav c W ++ if c ∈ tx then [W.length] else [] := by
  unfold hav
  rw [List.length_append, List.length_singleton, List.range_succ, List.filter_append]
  congr 1
  · refine List.filter_congr fun k hk => ?_
    have hk' := List.mem_range.mp hk
    have : (W ++ [tx]).getD k [] = W.getD k [] := by simp [List.getD, List.getElem?_append_left hk']
    rw [this]
  · have : (W ++ [tx]).getD W.length [] = tx := by simp [List.getD]
    simp only [List.filter_cons, List.filter_nil, this]
    by_cases h : c ∈ tx <;> simp [h]
theorem hav_lt {c : Nat} {W : List (List Nat)} {k : Nat} (h : k ∈ hav c W) : k < W.length := List.mem_range.mp (List.mem_filter.mp h).1
theorem getD_snoc {α : Type} (W : List (List α)) (tx : List α) {k : Nat} (h : k < W.length) : (W ++ [tx]).getD k [] = W.getD k [] := by simp [List.getD, List.getElem?_append_left h]
theorem getD_last {α : Type} (W : List (List α)) (tx : List α) : (W ++ [tx]).getD W.length [] = tx := by simp [List.getD]
theorem line_len (wide : Bool) (c : Nat) (W : List (List Nat)) (P : List (List UInt8)) : (lineT wide c W P).length = if wide then 4 else 1 := by unfold lineT; cases wide <;> rfl
theorem line_snoc (wide : Bool) (c : Nat) (W : List (List Nat)) (P : List (List UInt8)) (tx : List Nat) (p : List UInt8) (hl : P.length = W.length) :
    lineT wide c (W ++ [tx]) (P ++ [p]) = if c ∈ tx then List.zipWith (· + ·) (rowT wide c tx (p.length : Int)) (lineT wide c W P) else lineT wide c W P := by
  have e1 : (hav c W).map (fun k => (((W ++ [tx]).getD k []).count c : Int)) = (hav c W).map fun k => ((W.getD k []).count c : Int) := List.map_congr_left fun k hk => by rw [getD_snoc W tx (hav_lt hk)]
  have e2 : (hav c W).map (fun k => plc c ((W ++ [tx]).getD k [])) = (hav c W).map fun k => plc c (W.getD k []) := List.map_congr_left fun k hk => by rw [getD_snoc W tx (hav_lt hk)]
  have e3 : (hav c W).map (fun k => (((P ++ [p]).getD k []).length : Int)) = (hav c W).map fun k => ((P.getD k []).length : Int) := List.map_congr_left fun k hk => by rw [getD_snoc P p (hl ▸ hav_lt hk)]
  have e4 : (P ++ [p]).getD W.length [] = p := hl ▸ getD_last P p
  unfold lineT rowT
  simp only [hav_snoc]
  by_cases h : c ∈ tx
  · simp only [if_pos h, List.map_append, List.map_cons, List.map_nil, List.sum_append, List.sum_cons, List.sum_nil, e1, e2, e3, e4, getD_last, List.length_append, List.length_singleton]
    cases wide
    · simp [Int.add_comm]
    · simp [Int.add_comm]
  · simp only [if_neg h, List.append_nil, e1, e2, e3]
theorem hav_none {c : Nat} {W : List (List Nat)} (h : c ∉ W.flatten) : hav c W = [] := by
  unfold hav
  rw [List.filter_eq_nil_iff]
  intro k hk e
  have hk' := List.mem_range.mp hk
  simp only [decide_eq_true_eq] at e
  refine h (List.mem_flatten.mpr ⟨W.getD k [], ?_, e⟩)
  simp only [List.getD, List.getElem?_eq_getElem hk', Option.getD_some]
  exact List.getElem_mem hk'
theorem line_none {c : Nat} {W : List (List Nat)} {P : List (List UInt8)} (wide : Bool) (h : c ∉ W.flatten) (tx : List Nat) (n : Int) : List.zipWith (· + ·) (rowT wide c tx n) (lineT wide c W P) = rowT wide c tx n := by
  unfold lineT rowT
  simp only [hav_none h]
  cases wide <;> simp

/-- entries added up give the ledger -/
theorem ledger_snoc (wide : Bool) (W : List (List Nat)) (P : List (List UInt8)) (tx : List Nat) (p : List UInt8) (hl : P.length = W.length) : merge (ledgerT wide W P) (callersT wide tx (p.length : Int)) = ledgerT wide (W ++ [tx]) (P ++ [p]) := by
  have k1 : (ledgerT wide W P).map (·.1) = firsts W.flatten := by unfold ledgerT; rw [List.map_map]; exact List.map_id _
  have k2 : (ledgerT wide (W ++ [tx]) (P ++ [p])).map (·.1) = firsts (W ++ [tx]).flatten := by unfold ledgerT; rw [List.map_map]; exact List.map_id _
  have fl : (W ++ [tx]).flatten = W.flatten ++ tx := by simp
  have hk : (merge (ledgerT wide W P) (callersT wide tx (p.length : Int))).map (·.1) = firsts (W.flatten ++ tx) := by rw [merge_keys, k1, callers_keys, firsts_app]
  refine tab_ext (by rw [hk]; exact firsts_nodup _) (by rw [hk, k2, fl]) fun c hc => ?_
  rw [hk, firsts_iff, List.mem_append] at hc
  rw [gget_merge _ _ (by rw [callers_keys]; exact firsts_nodup _), gget_callers]
  unfold ledgerT
  rw [gget_keys, gget_keys, fl]
  simp only [firsts_iff, List.mem_append, if_pos hc]
  rw [line_snoc wide c W P tx p hl]
  by_cases h1 : c ∈ tx
  · by_cases h2 : c ∈ W.flatten
    · simp [h1, h2, comb]
    · simp [h1, h2, comb, line_none wide h2]
  · have h2 : c ∈ W.flatten := hc.resolve_right h1
    simp [h1, h2, comb]
theorem tabs_ledger (wide : Bool) (enc : List UInt8 → List UInt8) (P : List (List UInt8)) : tabs wide enc P = ledgerT wide (P.map fun p => nat8 (enc p)) P := by
  induction P using snoc_ind with
  | h0 => rfl
  | h1 P p ih =>
    rw [tabs_snoc, ih, ledger_snoc _ _ _ _ _ (by simp), List.map_append]
    rfl
end Mine
end
section
set_option autoImplicit false
set_option linter.unusedSimpArgs false
namespace Mine
/-! plain laws: the signs -/
theorem digs_snoc (al : List Nat) (B : Nat) : ∀ (k v : Nat), digs al B (k + 1) v = digs al B k (v / B) ++ [al.getD (v % B) 0]
  | 0, v => by simp [digs]
  | k + 1, v => by
    rw [digs, digs_snoc al B k v, digs]
    have e : v / B ^ (k + 1) = v / B / B ^ k := by rw [Nat.div_div_eq_div_mul, Nat.pow_succ, Nat.mul_comm]
    rw [e]
    rfl
theorem digs_app (al : List Nat) (B : Nat) : ∀ (m k v : Nat), digs al B (k + m) v = digs al B k (v / B ^ m) ++ digs al B m v
  | 0, k, v => by simp [digs]
  | m + 1, k, v => by
    rw [show k + (m + 1) = (k + m) + 1 by omega, digs_snoc, digs_app al B m k (v / B), digs_snoc al B m v, List.append_assoc]
    have e : v / B / B ^ m = v / B ^ (m + 1) := by rw [Nat.div_div_eq_div_mul, Nat.pow_succ, Nat.mul_comm]
    rw [e]
theorem digs_mod (al : List Nat) (B : Nat) (hB : 0 < B) : ∀ (m x y : Nat), digs al B m (x * B ^ m + y) = digs al B m y
  | 0, x, y => rfl
  | m + 1, x, y => by
    rw [digs_snoc, digs_snoc]
    have e : x * B ^ (m + 1) + y = y + B * (x * B ^ m) := by rw [Nat.pow_succ, ← Nat.mul_assoc, Nat.mul_comm (x * B ^ m) B, Nat.add_comm]
    have e1 : (x * B ^ (m + 1) + y) / B = x * B ^ m + y / B := by rw [e, Nat.add_mul_div_left _ _ hB, Nat.add_comm]
    have e2 : (x * B ^ (m + 1) + y) % B = y % B := by rw [e, Nat.add_mul_mod_self_left]
    rw [e1, e2, digs_mod al B hB m x (y / B)]
theorem digs_map (al : List Nat) (B : Nat) (f : Nat → Nat) (hB : 0 < B) (hl : B ≤ al.length) : ∀ (m v : Nat), (digs al B m v).map f = digs (al.map f) B m v
  | 0, v => rfl
  | m + 1, v => by
    rw [digs, digs, List.map_cons, digs_map al B f hB hl m v]
    congr 1
    have h : v / B ^ m % B < al.length := Nat.lt_of_lt_of_le (Nat.mod_lt _ hB) hl
    simp [List.getD, List.getElem?_eq_getElem h]
theorem num_lt (l : List UInt8) : num l < 256 ^ l.length := by
  induction l using snoc_ind with
  | h0 => decide
  | h1 l b ih =>
    rw [num_snoc, List.length_append, List.length_singleton, Nat.pow_succ]
    have := b.toNat_lt
    omega
theorem num_app (a b : List UInt8) : num (a ++ b) = num a * 256 ^ b.length + num b := by
  induction b using snoc_ind with
  | h0 => simp [num]
  | h1 b x ih =>
    rw [← List.append_assoc, num_snoc, num_snoc, ih, List.length_append, List.length_singleton, Nat.pow_succ, Nat.add_mul, ← Nat.mul_assoc]
    omega

/-! base 16 -/
theorem nat8_app (a b : List UInt8) : nat8 (a ++ b) = nat8 a ++ nat8 b := List.map_append
theorem nat8_cons (a : UInt8) (b : List UInt8) : nat8 (a :: b) = a.toNat :: nat8 b := rfl
theorem nat8_nil : nat8 [] = [] := rfl
theorem hexD_al : ∀ n, n < 16 → (hexD n).toUInt8.toNat = al16.getD n 0 := by decide
theorem enc16_app (a b : List UInt8) : enc16 (a ++ b) = enc16 a ++ enc16 b := by unfold enc16; rw [List.flatMap_append]
theorem enc16_len (l : List UInt8) : (enc16 l).length = 2 * l.length := by
  induction l with
  | nil => rfl
  | cons c l ih =>
    have : enc16 (c :: l) = [(hexD (c.toNat / 16)).toUInt8, (hexD (c.toNat % 16)).toUInt8] ++ enc16 l := rfl
    rw [this, List.length_append, ih]; simp; omega
theorem enc16_digs (l : List UInt8) : nat8 (enc16 l) = digs al16 16 (2 * l.length) (num l) := by
  induction l using snoc_ind with
  | h0 => rfl
  | h1 l b ih =>
    have hb := b.toNat_lt
    have e : enc16 [b] = [(hexD (b.toNat / 16)).toUInt8, (hexD (b.toNat % 16)).toUInt8] := rfl
    rw [enc16_app, num_snoc, List.length_append, List.length_singleton, show 2 * (l.length + 1) = 2 * l.length + 1 + 1 by omega, digs_snoc, digs_snoc, e]
    rw [nat8_app, ih, nat8_cons, nat8_cons, nat8_nil, hexD_al _ (by omega), hexD_al _ (by omega)]
    rw [show (num l * 256 + b.toNat) / 16 / 16 = num l by omega, show (num l * 256 + b.toNat) / 16 % 16 = b.toNat / 16 by omega, show (num l * 256 + b.toNat) % 16 = b.toNat % 16 by omega]
    simp
theorem sg16 (l : List UInt8) : nat8 (enc16 l) = signs 4 al16 l := by
  rw [enc16_digs]
  have hs : spare 4 l.length = 0 := by unfold spare; omega
  unfold signs
  rw [hs]
  simp only [Nat.add_zero, Nat.pow_zero, Nat.mul_one]
  rw [if_neg (by decide), show 8 * l.length / 4 = 2 * l.length by omega]

/-! base 64 -/
theorem sx_al : ∀ n, n < 64 → (sx n).toNat = al64.getD n 0 := by decide
theorem emit_digs (v : Nat) : ∀ (lb k : Nat) (out : List UInt8), lb ≤ 16 → nat8 out = digs al64 64 k (v / 2 ^ lb) →
    (emit (v % 65536) lb lb out).1 = lb % 6 ∧ nat8 (emit (v % 65536) lb lb out).2 = digs al64 64 (k + lb / 6) (v / 2 ^ (lb % 6)) := by
  intro lb
  induction lb using Nat.strongRecOn with
  | ind lb ih =>
    intro k out hl h
    by_cases h6 : 6 ≤ lb
    · rw [emit_step _ _ _ h6]
      have := ih (lb - 6) (by omega) (k + 1) (out ++ [sx (v % 65536 / 2 ^ (lb - 6) % 64)]) (by omega) ?_
      · rw [show lb % 6 = (lb - 6) % 6 by omega, show k + lb / 6 = k + 1 + (lb - 6) / 6 by omega]
        exact this
      · rw [nat8_app, h, digs_snoc, Nat.div_div_eq_div_mul, nat8_cons, nat8_nil, sx_al _ (Nat.mod_lt _ (by decide))]
        have e1 : 2 ^ (lb - 6) * 64 = 2 ^ lb := by
          rw [show (64 : Nat) = 2 ^ 6 from rfl, ← Nat.pow_add, show lb - 6 + 6 = lb by omega]
        have e2 : v % 65536 / 2 ^ (lb - 6) % 64 = v / 2 ^ (lb - 6) % 64 := by
          rw [show (65536 : Nat) = 2 ^ (lb - 6) * (64 * 2 ^ (16 - lb)) by
            rw [← Nat.mul_assoc, e1, ← Nat.pow_add, show lb + (16 - lb) = 16 by omega]]
          rw [Nat.mod_mul_right_div_self, Nat.mod_mul_right_mod]
        rw [e1, e2]
    · rw [emit_stop _ _ _ h6, Nat.mod_eq_of_lt (by omega), Nat.div_eq_of_lt (by omega)]
      exact ⟨rfl, h⟩
theorem run64_digs (l : List UInt8) : (run64 l).lb = 8 * l.length % 6 ∧ (run64 l).lc = num l % 65536 ∧ nat8 (run64 l).out = digs al64 64 (8 * l.length / 6) (num l / 2 ^ (8 * l.length % 6)) := by
  induction l using snoc_ind with
  | h0 => exact ⟨rfl, rfl, rfl⟩
  | h1 l b ih =>
    obtain ⟨h1, h2, h3⟩ := ih
    have hb := b.toNat_lt
    rw [run64_snoc, num_snoc, List.length_append, List.length_singleton]
    have hlc : ((run64 l).lc * 256 + b.toNat) % 65536 = (num l * 256 + b.toNat) % 65536 := by rw [h2]; omega
    have hlt := (run64_lt l).1
    have := emit_digs (num l * 256 + b.toNat) ((run64 l).lb + 8) (8 * l.length / 6) (run64 l).out (by omega) (by
      rw [h3, h1, Nat.add_comm _ 8, Nat.pow_add, ← Nat.div_div_eq_div_mul]
      congr 2; omega)
    rw [← hlc] at this
    obtain ⟨g1, g2⟩ := this
    refine ⟨?_, hlc, ?_⟩
    · show (emit _ _ _ _).1 = _
      rw [g1, h1]; omega
    · show nat8 (emit _ _ _ _).2 = _
      rw [g2, h1, show (8 * l.length % 6 + 8) % 6 = 8 * (l.length + 1) % 6 by omega, show 8 * l.length / 6 + (8 * l.length % 6 + 8) / 6 = 8 * (l.length + 1) / 6 by omega]
theorem sg64 (l : List UInt8) : nat8 (enc64 l) = signs 6 al64 l := by
  obtain ⟨h1, h2, h3⟩ := run64_digs l
  unfold signs
  simp only [if_pos]
  rw [show (2 : Nat) ^ 6 = 64 from rfl]
  have hn : l.length % 3 = 0 ∨ l.length % 3 = 1 ∨ l.length % 3 = 2 := by omega
  unfold enc64 fin64
  rw [h1]
  rcases hn with hn | hn | hn
  · have hb : 8 * l.length % 6 = 0 := by omega
    have hs : spare 6 l.length = 0 := by unfold spare; omega
    rw [hb] at h3
    rw [hb, hs, if_neg (by decide), if_neg (by decide), h3]
    unfold pad4
    rw [digs_len]
    simp only [Nat.add_zero, Nat.pow_zero, Nat.mul_one, Nat.div_one]
    rw [show (4 - 8 * l.length / 6 % 4) % 4 = 0 by omega]
    simp
  · have hb : 8 * l.length % 6 = 2 := by omega
    have hs : spare 6 l.length = 4 := by unfold spare; omega
    rw [hb] at h3
    rw [hb, hs, if_pos rfl]
    unfold pad4
    rw [digs_len, show (8 * l.length + 4) / 6 = 8 * l.length / 6 + 1 by omega, digs_snoc, show (4 - (8 * l.length / 6 + 1) % 4) % 4 = 2 by omega]
    rw [nat8_app, h3, nat8_cons, sx_al _ (by omega), h2]
    rw [show num l * 2 ^ 4 / 64 = num l / 2 ^ 2 by omega, show num l * 2 ^ 4 % 64 = num l % 65536 % 4 * 16 by omega, List.append_assoc]
    rfl
  · have hb : 8 * l.length % 6 = 4 := by omega
    have hs : spare 6 l.length = 2 := by unfold spare; omega
    rw [hb] at h3
    rw [hb, hs, if_neg (by decide), if_pos rfl]
    unfold pad4
    rw [digs_len, show (8 * l.length + 2) / 6 = 8 * l.length / 6 + 1 by omega, digs_snoc, show (4 - (8 * l.length / 6 + 1) % 4) % 4 = 1 by omega]
    rw [nat8_app, h3, nat8_cons, sx_al _ (by omega), h2]
    rw [show num l * 2 ^ 2 / 64 = num l / 2 ^ 4 by omega, show num l * 2 ^ 2 % 64 = num l % 65536 % 16 * 4 by omega, List.append_assoc]
    rfl
noncomputable def urlN (c : Nat) : Nat := if c = 43 then 45 else if c = 47 then 95 else c
theorem urlT_nat (c : UInt8) : (urlT c).toNat = urlN c.toNat := by
  unfold urlT urlN
  by_cases h : c = 43
  · subst h; rfl
  by_cases h2 : c = 47
  · subst h2; rfl
  have e1 : ¬ c.toNat = 43 := fun e => h (UInt8.toNat_inj.mp e)
  have e2 : ¬ c.toNat = 47 := fun e => h2 (UInt8.toNat_inj.mp e)
  rw [if_neg h, if_neg h2, if_neg e1, if_neg e2]
theorem sgUrl (l : List UInt8) : nat8 (url64 l) = signs 6 alUrl l := by
  have e : nat8 (url64 l) = (nat8 (enc64 l)).map urlN := by
    unfold url64
    show List.map _ (List.map _ _) = List.map _ (List.map _ _)
    rw [List.map_map, List.map_map]
    exact List.map_congr_left fun c _ => urlT_nat c
  rw [e, sg64]
  unfold signs
  simp only [if_pos]
  unfold pad4
  rw [List.map_append, List.map_replicate, digs_map _ _ _ (by decide) (by decide), digs_len, digs_len]
  rfl
/-- a row whose first part lays whole fours -/
theorem signs_app (al : List Nat) (a b : List UInt8) (h : a.length % 3 = 0) : signs 6 al (a ++ b) = signs 6 al a ++ signs 6 al b := by
  unfold signs
  simp only [if_pos]
  rw [show (2 : Nat) ^ 6 = 64 from rfl]
  have ha : spare 6 a.length = 0 := by unfold spare; omega
  have hb : spare 6 (a ++ b).length = spare 6 b.length := by rw [List.length_append]; unfold spare; omega
  rw [ha, hb, num_app, List.length_append]
  generalize hsp : spare 6 b.length = sp
  have hd : (8 * b.length + sp) / 6 * 6 = 8 * b.length + sp := by rw [← hsp]; unfold spare; omega
  have hK : (8 * (a.length + b.length) + sp) / 6 = 8 * a.length / 6 + (8 * b.length + sp) / 6 := by
    generalize (8 * b.length + sp) / 6 = m at hd
    omega
  generalize hm : (8 * b.length + sp) / 6 = m at hd hK
  have hp : (64 : Nat) ^ m = 256 ^ b.length * 2 ^ sp := by
    rw [show (64 : Nat) = 2 ^ 6 from rfl, show (256 : Nat) = 2 ^ 8 from rfl, ← Nat.pow_mul, ← Nat.pow_mul, ← Nat.pow_add]
    congr 1; omega
  have hv : (num a * 256 ^ b.length + num b) * 2 ^ sp = num a * 64 ^ m + num b * 2 ^ sp := by rw [hp, Nat.add_mul, Nat.mul_assoc]
  have hlt : num b * 2 ^ sp < 64 ^ m := by rw [hp]; exact Nat.mul_lt_mul_of_pos_right (num_lt b) (Nat.pow_pos (by decide))
  rw [hK, digs_app, hv, digs_mod _ _ (by decide)]
  have hq : (num a * 64 ^ m + num b * 2 ^ sp) / 64 ^ m = num a := by
    rw [Nat.add_comm, Nat.add_mul_div_right _ _ (Nat.pow_pos (by decide)), Nat.div_eq_of_lt hlt, Nat.zero_add]
  rw [hq]
  unfold pad4
  simp only [List.length_append, digs_len, Nat.add_zero, Nat.pow_zero, Nat.mul_one]
  rw [show (4 - 8 * a.length / 6 % 4) % 4 = 0 by omega, List.replicate_zero, List.append_nil, List.append_assoc]
  congr 3
  omega
theorem signs_len (bits : Nat) (al : List Nat) (l : List UInt8) (hb : bits = 4 ∨ bits = 6) : l.length ≤ (signs bits al l).length ∧ (signs bits al l).length ≤ 2 * l.length + 4 := by
  rcases hb with rfl | rfl
  · unfold signs
    simp only [show ¬ (4 : Nat) = 6 by decide, if_false, digs_len]
    unfold spare
    omega
  · unfold signs pad4
    simp only [if_pos, List.length_append, digs_len, List.length_replicate]
    unfold spare
    omega
end Mine
end
section
set_option autoImplicit false
set_option linter.unusedSimpArgs false
namespace Mine
/-! plain laws: the ledger's heads -/
theorem count_flatten_zero (c : Nat) (W : List (List Nat)) : (W.flatten.count c : Int) = ((hav c W).map fun k => ((W.getD k []).count c : Int)).sum := by
  induction W using snoc_ind with
  | h0 => rfl
  | h1 W tx ih =>
    have e1 : (hav c W).map (fun k => (((W ++ [tx]).getD k []).count c : Int)) = (hav c W).map fun k => ((W.getD k []).count c : Int) := List.map_congr_left fun k hk => by rw [getD_snoc W tx (hav_lt hk)]
    rw [hav_snoc, List.map_append, List.sum_append, e1, ← ih, List.flatten_append, List.count_append]
    by_cases h : c ∈ tx
    · simp only [if_pos h, List.map_cons, List.map_nil, List.sum_cons, List.sum_nil, getD_last]
      simp
    · simp [if_neg h, List.count_eq_zero.mpr h]
theorem line_head (wide : Bool) (c : Nat) (W : List (List Nat)) (P : List (List UInt8)) : (lineT wide c W P).headD 0 = (W.flatten.count c : Int) := by
  rw [count_flatten_zero]; unfold lineT; cases wide <;> rfl
/-- signs and their numbers: they rest on the writings laid end to end alone -/
theorem heads (wide : Bool) (W : List (List Nat)) (P : List (List UInt8)) : (ledgerT wide W P).map (fun kv => (kv.1, kv.2.headD 0)) = (firsts W.flatten).map fun c => (c, (W.flatten.count c : Int)) := by
  unfold ledgerT
  rw [List.map_map]
  refine List.map_congr_left fun c _ => ?_
  show (c, _) = _
  rw [line_head]
theorem firsts_count (l : List Nat) : ((firsts l).map fun c => (l.count c : Int)).sum = (l.length : Int) := by
  induction l using snoc_ind with
  | h0 => rfl
  | h1 l x ih =>
    have hsum : ∀ (s : List Nat), s.Nodup → (s.map fun c => ((l ++ [x]).count c : Int)).sum = (s.map fun c => (l.count c : Int)).sum + if x ∈ s then 1 else 0 := by
      intro s
      induction s with
      | nil => intro _; rfl
      | cons y s ih2 =>
        intro hn
        rw [List.nodup_cons] at hn
        rw [List.map_cons, List.sum_cons, ih2 hn.2, List.map_cons, List.sum_cons, List.count_append]
        by_cases h : x = y
        · subst h
          simp [hn.1]
          omega
        · have h' : y ≠ x := fun e => h e.symm
          simp only [List.count_singleton, List.mem_cons, h, false_or]
          simp [h]
          omega
    rw [firsts_snoc, List.length_append, List.length_singleton]
    unfold seenStep
    by_cases h : x ∈ firsts l
    · rw [if_pos h, hsum _ (firsts_nodup l), ih, if_pos h]; omega
    · have hx : x ∉ l := fun e => h ((firsts_iff l x).mpr e)
      rw [if_neg h, List.map_append, List.sum_append, hsum _ (firsts_nodup l), ih, if_neg h]
      simp [List.count_append, List.count_eq_zero.mpr hx]
theorem ledger_sum (W : List (List Nat)) (P : List (List UInt8)) (wide : Bool) : ((ledgerT wide W P).map fun kv => kv.2.headD 0).sum = (W.flatten.length : Nat) := by
  have h := congrArg (fun t => (t.map (·.2)).sum) (heads wide W P)
  simp only [List.map_map] at h
  rw [show ((ledgerT wide W P).map fun kv => kv.2.headD 0) = (ledgerT wide W P).map ((·.2) ∘ fun kv => (kv.1, kv.2.headD 0)) from rfl, h]
  exact firsts_count _
theorem ledger_ne {wide : Bool} {W : List (List Nat)} {P : List (List UInt8)} (h : 0 < W.flatten.length) : ledgerT wide W P ≠ [] := fun e => by
  have h1 := ledger_sum W P wide
  rw [e] at h1
  have : (0 : Int) = (W.flatten.length : Nat) := h1
  omega

/-! plain laws: the row in threes -/
theorem enc16_flatten (P : List (List UInt8)) : (P.map fun p => nat8 (enc16 p)).flatten = nat8 (enc16 P.flatten) := by
  induction P with
  | nil => rfl
  | cons p P ih => rw [List.map_cons, List.flatten_cons, ih, List.flatten_cons, enc16_app, nat8_app]
/-- a row's first part and the rest -/
theorem cuts_nil (size : Nat) (hs : 0 < size) : cuts size [] = [] := by
  unfold cuts
  rw [show (([] : List UInt8).length + size - 1) / size = 0 from Nat.div_eq_of_lt (by simp; omega)]
  rfl
theorem cuts_cons (size : Nat) (hs : 0 < size) (row : List UInt8) (h : 0 < row.length) : cuts size row = row.take size :: cuts size (row.drop size) := by
  unfold cuts
  have e : (row.length + size - 1) / size = ((row.drop size).length + size - 1) / size + 1 := by
    rw [List.length_drop]
    by_cases hl : size ≤ row.length
    · rw [show row.length - size + size - 1 = row.length - 1 by omega, show row.length + size - 1 = row.length - 1 + size by omega, Nat.add_div_right _ hs]
    · rw [show row.length - size + size - 1 = size - 1 by omega, Nat.div_eq_of_lt (show size - 1 < size by omega), show row.length + size - 1 = row.length - 1 + size by omega, Nat.add_div_right _ hs, Nat.div_eq_of_lt (by omega)]
  rw [e, List.range_succ_eq_map, List.map_cons, List.map_map, Nat.zero_mul, List.drop_zero]
  congr 1
  refine List.map_congr_left fun k _ => ?_
  show (row.drop ((k + 1) * size)).take size = ((row.drop size).drop (k * size)).take size
  rw [List.drop_drop, Nat.succ_mul, Nat.add_comm]
theorem cuts_ind (size : Nat) (hs : 0 < size) {p : List UInt8 → Prop} (h0 : p []) (h1 : ∀ row, 0 < row.length → p (row.drop size) → p row) (row : List UInt8) : p row := by
  have : ∀ (n : Nat) (row : List UInt8), row.length ≤ n → p row := by
    intro n
    induction n with
    | zero => intro row hr; rw [List.length_eq_zero_iff.mp (by omega : row.length = 0)]; exact h0
    | succ n ih =>
      intro row hr
      by_cases hz : 0 < row.length
      · exact h1 row hz (ih _ (by rw [List.length_drop]; omega))
      · rw [List.length_eq_zero_iff.mp (by omega : row.length = 0)]; exact h0
  exact this _ row (Nat.le_refl _)
theorem cuts_flatten (size : Nat) (hs : 0 < size) (row : List UInt8) : (cuts size row).flatten = row := by
  induction row using cuts_ind size hs with
  | h0 => rw [cuts_nil size hs]; rfl
  | h1 row hr ih => rw [cuts_cons size hs row hr, List.flatten_cons, ih, List.take_append_drop]
theorem cuts_len (size : Nat) (hs : 0 < size) (row : List UInt8) : (cuts size row).length ≤ row.length := by
  induction row using cuts_ind size hs with
  | h0 => rw [cuts_nil size hs]; exact Nat.le_refl _
  | h1 row hr ih =>
    rw [cuts_cons size hs row hr, List.length_cons]
    rw [List.length_drop] at ih
    omega
theorem signs_nil (al : List Nat) : signs 6 al [] = [] := by
  have h : (signs 6 al []).length = 0 := by
    unfold signs pad4
    simp only [if_pos, List.length_append, digs_len, List.length_replicate, List.length_nil]
    decide
  exact List.length_eq_zero_iff.mp h
theorem cuts_signs (size : Nat) (hs : 0 < size) (h3 : size % 3 = 0) (al : List Nat) (row : List UInt8) : ((cuts size row).map (signs 6 al)).flatten = signs 6 al row := by
  induction row using cuts_ind size hs with
  | h0 => rw [cuts_nil size hs, signs_nil]; rfl
  | h1 row hr ih =>
    rw [cuts_cons size hs row hr, List.map_cons, List.flatten_cons, ih]
    by_cases hl : size ≤ row.length
    · rw [← signs_app al (row.take size) (row.drop size) (by rw [List.length_take, Nat.min_eq_left hl]; exact h3), List.take_append_drop]
    · rw [List.drop_eq_nil_of_le (by omega), List.take_of_length_le (by omega)]
      rw [signs_nil]
      exact List.append_nil _

/-! what a row asks -/
theorem digs_lt (al : List Nat) (B n : Nat) (hn : 0 < n) (ha : ∀ x ∈ al, x < n) : ∀ (k v : Nat), ∀ c ∈ digs al B k v, c < n
  | 0, v, c, h => nomatch h
  | k + 1, v, c, h => by
    rcases List.mem_cons.mp h with rfl | h
    · rw [List.getD]
      cases e : al[v / B ^ k % B]? with
      | none => exact hn
      | some x => exact ha x (List.mem_of_getElem? e)
    · exact digs_lt al B n hn ha k v c h
theorem signs_lt (bits : Nat) (al : List Nat) (ha : ∀ x ∈ al, x < 128) (l : List UInt8) : ∀ c ∈ signs bits al l, c < 128 := by
  intro c h
  unfold signs at h
  dsimp only at h
  split at h
  · unfold pad4 at h
    rcases List.mem_append.mp h with h | h
    · exact digs_lt al _ 128 (by decide) ha _ _ c h
    · rw [(List.mem_replicate.mp h).2]; decide
  · exact digs_lt al _ 128 (by decide) ha _ _ c h
theorem enc_len {enc : List UInt8 → List UInt8} {bits : Nat} {al : List Nat} (hb : bits = 4 ∨ bits = 6) (sg : ∀ l, nat8 (enc l) = signs bits al l) (l : List UInt8) : l.length ≤ (enc l).length ∧ (enc l).length ≤ 2 * l.length + 4 := by
  have h : (enc l).length = (signs bits al l).length := by rw [← sg l]; exact (List.length_map _).symm
  rw [h]; exact signs_len bits al l hb
theorem enc_sum {enc : List UInt8 → List UInt8} {bits : Nat} {al : List Nat} (hb : bits = 4 ∨ bits = 6) (sg : ∀ l, nat8 (enc l) = signs bits al l) (P : List (List UInt8)) :
    P.flatten.length ≤ (P.map (signs bits al)).flatten.length ∧ (P.map fun p => (enc p).length).sum ≤ 2 * P.flatten.length + 4 * P.length := by
  induction P with
  | nil => exact ⟨Nat.le_refl _, Nat.le_refl _⟩
  | cons p P ih =>
    have h := enc_len hb sg p
    have h2 := signs_len bits al p hb
    simp only [List.map_cons, List.flatten_cons, List.length_append, List.sum_cons, List.length_cons]
    omega
theorem heads_eq (wide : Bool) (enc : List UInt8 → List UInt8) {P Q : List (List UInt8)} (h : (P.map fun p => nat8 (enc p)).flatten = (Q.map fun p => nat8 (enc p)).flatten) :
    (tabs wide enc P).map (fun kv => (kv.1, kv.2.headD 0)) = (tabs wide enc Q).map fun kv => (kv.1, kv.2.headD 0) := by
  rw [tabs_ledger, tabs_ledger, heads, heads, h]
theorem flatten1 (enc : List UInt8 → List UInt8) (row : List UInt8) : ([row].map fun p => nat8 (enc p)).flatten = nat8 (enc row) := by
  rw [List.map_cons, List.map_nil, List.flatten_cons, List.flatten_nil, List.append_nil]
theorem sg_map {enc : List UInt8 → List UInt8} {bits : Nat} {al : List Nat} (sg : ∀ l, nat8 (enc l) = signs bits al l) (P : List (List UInt8)) : (P.map fun p => nat8 (enc p)) = P.map (signs bits al) := List.map_congr_left fun p _ => sg p
/-- base 16: however cut -/
theorem heads16 (wide : Bool) (P : List (List UInt8)) : (tabs wide enc16 P).map (fun kv => (kv.1, kv.2.headD 0)) = (tabs wide enc16 [P.flatten]).map fun kv => (kv.1, kv.2.headD 0) :=
  heads_eq wide enc16 (by rw [enc16_flatten, flatten1])
theorem heads16c (wide : Bool) (size : Nat) (hs : 0 < size) (row : List UInt8) : (tabs wide enc16 (cuts size row)).map (fun kv => (kv.1, kv.2.headD 0)) = (tabs wide enc16 [row]).map fun kv => (kv.1, kv.2.headD 0) :=
  heads_eq wide enc16 (by rw [enc16_flatten, flatten1, cuts_flatten size hs])
/-- base 64: cut in whole threes -/
theorem heads64c {enc : List UInt8 → List UInt8} {al : List Nat} (sg : ∀ l, nat8 (enc l) = signs 6 al l) (wide : Bool) (size : Nat) (hs : 0 < size) (h3 : size % 3 = 0) (row : List UInt8) : (tabs wide enc (cuts size row)).map (fun kv => (kv.1, kv.2.headD 0)) = (tabs wide enc [row]).map fun kv => (kv.1, kv.2.headD 0) :=
  heads_eq wide enc (by rw [flatten1, sg_map sg, sg, cuts_signs size hs h3])
/-- the pieces of thirteen numbers at most -/
theorem pieces_len (ns : List Int) : (pieces ns).length ≤ ns.length + 1 ∧ (pieces ns).flatten.length ≤ 2 * ns.length ∧ ns.length ≤ (pieces ns).flatten.length := by
  obtain ⟨h1, h2, h3, h4⟩ := prun_len ns
  unfold pieces
  simp only [List.length_append, List.flatten_append, List.flatten_cons, List.flatten_nil, List.append_nil, List.length_cons, List.length_nil] at h3 h4 ⊢
  omega
theorem nums13_len (ns : List Int) : 5 ≤ (nums13 ns).length ∧ (nums13 ns).length ≤ 13 := by
  unfold nums13; rw [List.length_append, List.length_take]; simp; omega
end Mine
end
section
open PySem PySem.W PyProof.Rows PySem.Calls
set_option Elab.async false
set_option maxRecDepth 100000
set_option autoImplicit false
set_option linter.unusedVariables false
namespace Mine
noncomputable abbrev KK (w : World) : Frag := hd.heap_39 w.params
theorem glo_ok (w : World) : gloOK (KK w) = true := by kernel_rfl
theorem g_add_func_stats (w : World) : Glo (KK w) "add_func_stats" (some (.ref 28)) := glo_of (glo_ok w) (by kernel_rfl)
theorem g_add_callers (w : World) : Glo (KK w) "add_callers" (some (.ref 35)) := glo_of (glo_ok w) (by kernel_rfl)
theorem g_count_calls (w : World) : Glo (KK w) "count_calls" (some (.ref 42)) := glo_of (glo_ok w) (by kernel_rfl)
theorem g_buffer (w : World) : Glo (KK w) "_buffer" (some (.ref 49)) := glo_of (glo_ok w) (by kernel_rfl)
theorem g_truth (w : World) : Glo (KK w) "_truth" (some (.ref 56)) := glo_of (glo_ok w) (by kernel_rfl)
theorem g_b2a_base64 (w : World) : Glo (KK w) "b2a_base64" (some (.ref 64)) := glo_of (glo_ok w) (by kernel_rfl)
theorem g_b2a_hex (w : World) : Glo (KK w) "b2a_hex" (some (.ref 73)) := glo_of (glo_ok w) (by kernel_rfl)
theorem g_hexlify (w : World) : Glo (KK w) "hexlify" (some (.ref 73)) := glo_of (glo_ok w) (by kernel_rfl)
theorem g_b64encode (w : World) : Glo (KK w) "b64encode" (some (.ref 81)) := glo_of (glo_ok w) (by kernel_rfl)
theorem g_standard_b64encode (w : World) : Glo (KK w) "standard_b64encode" (some (.ref 88)) := glo_of (glo_ok w) (by kernel_rfl)
theorem g_urlsafe_b64encode (w : World) : Glo (KK w) "urlsafe_b64encode" (some (.ref 95)) := glo_of (glo_ok w) (by kernel_rfl)
theorem g_b16encode (w : World) : Glo (KK w) "b16encode" (some (.ref 102)) := glo_of (glo_ok w) (by kernel_rfl)
theorem g_law_pieces (w : World) : Glo (KK w) "_law_pieces" (some (.ref 109)) := glo_of (glo_ok w) (by kernel_rfl)
theorem g_law_signs (w : World) : Glo (KK w) "_law_signs" (some (.ref 116)) := glo_of (glo_ok w) (by kernel_rfl)
theorem g_law_callers (w : World) : Glo (KK w) "_law_callers" (some (.ref 121)) := glo_of (glo_ok w) (by kernel_rfl)
theorem g_law_total (w : World) : Glo (KK w) "_law_total" (some (.ref 128)) := glo_of (glo_ok w) (by kernel_rfl)
theorem g_law_line (w : World) : Glo (KK w) "_law_line" (some (.ref 133)) := glo_of (glo_ok w) (by kernel_rfl)
theorem g_law_ledger (w : World) : Glo (KK w) "_law_ledger" (some (.ref 140)) := glo_of (glo_ok w) (by kernel_rfl)
theorem g_law_counted (w : World) : Glo (KK w) "_law_counted" (some (.ref 147)) := glo_of (glo_ok w) (by kernel_rfl)
theorem g_law_summed (w : World) : Glo (KK w) "_law_summed" (some (.ref 154)) := glo_of (glo_ok w) (by kernel_rfl)
theorem g_law_often (w : World) : Glo (KK w) "_law_often" (some (.ref 159)) := glo_of (glo_ok w) (by kernel_rfl)
theorem g_law_kind (w : World) : Glo (KK w) "_law_kind" (some (.ref 164)) := glo_of (glo_ok w) (by kernel_rfl)
theorem g_law_all (w : World) : Glo (KK w) "_law_all" (some (.ref 169)) := glo_of (glo_ok w) (by kernel_rfl)
theorem g_type (w : World) : Glo (KK w) "type" none := glo_of (glo_ok w) (by kernel_rfl)
theorem b_type : bootBuiltins "type" = some (.type "type") := by kernel_rfl
theorem g_bytes (w : World) : Glo (KK w) "bytes" none := glo_of (glo_ok w) (by kernel_rfl)
theorem b_bytes : bootBuiltins "bytes" = some (.type "bytes") := by kernel_rfl
theorem g_bool (w : World) : Glo (KK w) "bool" none := glo_of (glo_ok w) (by kernel_rfl)
theorem b_bool : bootBuiltins "bool" = some (.type "bool") := by kernel_rfl
theorem g_int (w : World) : Glo (KK w) "int" none := glo_of (glo_ok w) (by kernel_rfl)
theorem b_int : bootBuiltins "int" = some (.type "int") := by kernel_rfl
theorem g_tuple (w : World) : Glo (KK w) "tuple" none := glo_of (glo_ok w) (by kernel_rfl)
theorem b_tuple : bootBuiltins "tuple" = some (.type "tuple") := by kernel_rfl
theorem g_range (w : World) : Glo (KK w) "range" none := glo_of (glo_ok w) (by kernel_rfl)
theorem b_range : bootBuiltins "range" = some (.type "range") := by kernel_rfl
theorem g_list (w : World) : Glo (KK w) "list" none := glo_of (glo_ok w) (by kernel_rfl)
theorem b_list : bootBuiltins "list" = some (.type "list") := by kernel_rfl
theorem g_zip (w : World) : Glo (KK w) "zip" none := glo_of (glo_ok w) (by kernel_rfl)
theorem b_zip : bootBuiltins "zip" = some (.type "zip") := by kernel_rfl
theorem g_len (w : World) : Glo (KK w) "len" none := glo_of (glo_ok w) (by kernel_rfl)
theorem b_len : bootBuiltins "len" = some (.builtin "len") := by kernel_rfl
theorem g_sum (w : World) : Glo (KK w) "sum" none := glo_of (glo_ok w) (by kernel_rfl)
theorem b_sum : bootBuiltins "sum" = some (.builtin "sum") := by kernel_rfl
theorem g_isinstance (w : World) : Glo (KK w) "isinstance" none := glo_of (glo_ok w) (by kernel_rfl)
theorem b_isinstance : bootBuiltins "isinstance" = some (.builtin "isinstance") := by kernel_rfl
theorem g_TypeError (w : World) : Glo (KK w) "TypeError" none := glo_of (glo_ok w) (by kernel_rfl)
theorem b_TypeError : bootBuiltins "TypeError" = some (.type "TypeError") := by kernel_rfl
end Mine
end
section
open PySem PySem.W PyProof.Rows PySem.Calls
set_option Elab.async false
set_option maxRecDepth 100000
set_option autoImplicit false
set_option linter.unusedVariables false
namespace Mine
theorem c_buffer {w : World} {N : Nat} {l : List UInt8} : Fun (KK w) w N 1 (.ref 49) [.bytes l] (.bytes l) := by
  refine fun_plain (ns := ["data", "t"]) rfl rfl rfl rfl rfl rfl (by kernel_rfl) rfl rfl rfl (by kernel_rfl) (Nat.le_of_ble_eq_true rfl) (of_len1 fun v => rfl) fun A L s₀ σ₀ => ?_
  refine xs_assign 1 rfl (ev_call (ev_blt rfl (g_type w) b_type) .typ (.cons rfl (ev_var 0 rfl rfl) .nil) (fun_type rfl) (Nat.zero_le _)) ?_
  refine xs_if_t (Φ₁ := fun _ _ => False) (et_cmp (ev_var 1 rfl rfl) (ev_blt rfl (g_bytes w) b_bytes) p2_is tru_bool) ?_ (fun _ _ h => h.elim)
  exact xs_ret (ev_var 0 rfl rfl) fun _ _ r => r

theorem c_truth {w : World} {N : Nat} {b : Bool} : Fun (KK w) w N 1 (.ref 56) [.bool b] (.bool b) := by
  refine fun_plain (ns := ["x", "t"]) rfl rfl rfl rfl rfl rfl (by kernel_rfl) rfl rfl rfl (by kernel_rfl) (Nat.le_of_ble_eq_true rfl) (of_len1 fun v => rfl) fun A L s₀ σ₀ => ?_
  refine xs_assign 1 rfl (ev_call (ev_blt rfl (g_type w) b_type) .typ (.cons rfl (ev_var 0 rfl rfl) .nil) (fun_type rfl) (Nat.zero_le _)) ?_
  refine xs_if_t (Φ₁ := fun _ _ => False) (et_chain (.orF (et_cmp (ev_var 0 rfl rfl) ev_none (p2_is (r := false) (by cases b <;> rfl) (by cases b <;> rfl)) tru_bool) (.orT (et_cmp (ev_var 1 rfl rfl) (ev_blt rfl (g_bool w) b_bool) p2_is tru_bool)))) ?_ (fun _ _ h => h.elim)
  refine xs_ret (d := .bool b) (ev_ifexp (et_val (ev_var 0 rfl rfl) tru_bool) (fun h => ?_) (fun h => ?_)) fun _ _ r => r
  · subst h; exact ev_bool
  · subst h; exact ev_bool
end Mine
end
section
open PySem PySem.W PyProof.Rows PySem.Calls
set_option Elab.async false
set_option maxRecDepth 100000
set_option autoImplicit false
set_option linter.unusedVariables false
namespace Mine
theorem Ev.eq {c : Cx} {V : List (Option D)} {M : List Own} {e : Expr} {d d' : D} (h : Ev c V M e d) (q : d = d') : Ev c V M e d' := q ▸ h
theorem g_B64 (w : World) : Glo (KK w) "_B64" (some (.bytes B64.toArray 252)) := glo_of (glo_ok w) (by kernel_rfl)
theorem or_add (a b : Nat) (h : b < 256) : Builtin.bitOr ((a : Int) * 2 ^ (8 : Int).toNat) (b : Int) = ((a * 256 + b : Nat) : Int) := by
  rw [bitOr_and, bitAnd_pp (Int.mul_nonneg (by omega) (by decide)) (by omega)]
  have e : ((a : Int) * 2 ^ (8 : Int).toNat).toNat = 2 ^ 8 * a := by
    have : ((a : Int) * 2 ^ (8 : Int).toNat) = ((2 ^ 8 * a : Nat) : Int) := by
      show (a : Int) * 256 = _; push_cast; omega
    rw [this]; rfl
  rw [e]
  have h2 : (2 ^ 8 * a &&& (b : Int).toNat) = 0 := by
    have h3 := Nat.two_pow_add_eq_or_of_lt (i := 8) (b := b) h a
    show 2 ^ 8 * a &&& b = 0
    apply Nat.eq_of_testBit_eq
    intro i
    rw [Nat.testBit_and, Nat.zero_testBit, Nat.mul_comm, Nat.testBit_mul_two_pow]
    by_cases hi : 8 ≤ i
    · have : b.testBit i = false := Nat.testBit_lt_two_pow (Nat.lt_of_lt_of_le (show b < 2 ^ 8 from h) (Nat.pow_le_pow_right (show 0 < 2 by decide) hi))
      simp [this]
    · simp [hi]
  rw [h2]
  show (a : Int) * 256 + (b : Int) - 0 = _
  omega
theorem lc_arith (a b : Nat) (h : b < 256) : Builtin.bitAnd (Builtin.bitOr ((a : Int) * 2 ^ (8 : Int).toNat) (b : Int)) 65535 = (((a * 256 + b) % 65536 : Nat) : Int) := by
  rw [or_add a b h, bitAnd_m16]; omega
theorem sx_arith (lc lb : Nat) (h : 6 ≤ lb) : Builtin.bitAnd (Int.fdiv (lc : Int) (2 ^ ((lb : Int) - 6).toNat)) 63 = ((lc / 2 ^ (lb - 6) % 64 : Nat) : Int) := by
  rw [bitAnd_m6]
  have e : ((lb : Int) - 6).toNat = lb - 6 := by omega
  rw [e, Int.fdiv_eq_ediv_of_nonneg _ (Int.pow_nonneg (by decide))]
  push_cast
  rfl

noncomputable abbrev V64 (l : List UInt8) (a : Addr) (lb lc : Nat) (x : Option D) : List (Option D) := [some (.bytes l), some (.bool false), some (.bytes l), some (.val (.ref a)), some (.int lb), some (.int lc), x]

theorem c_base64 {w : World} {N : Nat} {l : List UInt8} (hl : l.length ≤ 100000) : FunK (KK w) w N 2 (.ref 64) [.bytes l] "newline" (.bool false) (.bytes (enc64 l)) := by
  refine fun_kw (ns := ["data", "newline", "bin_data", "out", "leftbits", "leftchar", "b"]) rfl rfl rfl rfl rfl rfl (by kernel_rfl) rfl rfl rfl (by kernel_rfl) (Nat.le_of_ble_eq_true rfl) (fun vs vk h => ?_) fun A L s₀ σ₀ => ?_
  · match vs, h with | [v], _ => rfl
  refine xs_assign 2 rfl (ev_call (ev_glob rfl (g_buffer w)) (.fn rfl rfl) (.cons rfl (ev_var 0 rfl rfl) .nil) c_buffer (Nat.le_refl _)) ?_
  refine xs_assign 1 rfl (ev_call (ev_glob rfl (g_truth w)) (.fn rfl rfl) (.cons rfl (ev_var 1 rfl rfl) .nil) c_truth (Nat.le_refl _)) ?_
  refine xs_newlist 3 rfl fun a => ?_
  refine xs_assign 4 rfl ev_int ?_
  refine xs_assign 5 rfl ev_int ?_
  refine xs_for (fun i V M => ∃ x, V = V64 l a (run64 (l.take i)).lb (run64 (l.take i)).lc x ∧ M = [⟨a, ol w (octs (run64 (l.take i)).out)⟩]) (ev_var 2 rfl rfl) iters_bytes ⟨none, rfl, rfl⟩ (fun i dd V M o hd hI => ?_) fun V M hI => ?_
  · obtain ⟨x, rfl, rfl⟩ := hI
    obtain ⟨hi, hd'⟩ := List.getElem?_eq_some_iff.mp hd
    have hi' : i < l.length := by simpa using hi
    have hb : dd = .int (l[i].toNat : Int) := by rw [← hd']; simp
    subst hb
    have etake : l.take (i + 1) = l.take i ++ [l[i]] := by rw [List.take_add_one, List.getElem?_eq_getElem hi']; rfl
    have hlen := run64_len (l.take i)
    obtain ⟨hlb, hlc⟩ := run64_lt (l.take i)
    rw [List.length_take] at hlen
    generalize hst : run64 (l.take i) = st at *
    have hb : l[i].toNat < 256 := l[i].toNat_lt
    refine ⟨_, asg_name 6 rfl, ?_⟩
    refine xs_assign 5 rfl (d := .int (((st.lc * 256 + l[i].toNat) % 65536 : Nat) : Int)) ((ev_binop (ev_binop (ev_binop (ev_var 5 rfl rfl) ev_int (p2_shl (by decide) (by decide) (by omega))) (ev_var 6 rfl rfl) p2_or) ev_int p2_and).eq (by rw [lc_arith _ _ hb])) ?_
    refine xs_assign 4 rfl (d := .int ((st.lb + 8 : Nat) : Int)) ((ev_binop (ev_var 4 rfl rfl) ev_int p2_add).eq (by congr 1)) ?_
    have hstep : step64 st l[i] = ⟨(emit ((st.lc * 256 + l[i].toNat) % 65536) (st.lb + 8) (st.lb + 8) st.out).1, (st.lc * 256 + l[i].toNat) % 65536, (emit ((st.lc * 256 + l[i].toNat) % 65536) (st.lb + 8) (st.lb + 8) st.out).2⟩ := rfl
    generalize hlc1 : (st.lc * 256 + l[i].toNat) % 65536 = lc1 at *
    refine xs_while (fun n V M => ∃ out, V = V64 l a n lc1 (some (.int (l[i].toNat : Int))) ∧ M = [o, ⟨a, ol w (octs out)⟩] ∧ out.length + n / 6 ≤ 2 * i + 2 ∧ n ≤ 13 ∧ emit lc1 n n out = emit lc1 (st.lb + 8) (st.lb + 8) st.out) (st.lb + 8)
      ⟨st.out, rfl, rfl, by omega, by omega, rfl⟩ fun n V M hI => ?_
    obtain ⟨out, rfl, rfl, ho, hn, hem⟩ := hI
    refine ⟨decide ((6 : Int) ≤ (n : Int)), et_cmp (ev_var 4 rfl rfl) ev_int p2_ge tru_bool, fun h6 => ?_, fun h6 => ?_⟩
    · have h6' : 6 ≤ n := by have := of_decide_eq_true h6; omega
      have hdig : lc1 / 2 ^ (n - 6) % 64 < 64 := Nat.mod_lt _ (by decide)
      refine xs_append (d := .int ((sx (lc1 / 2 ^ (n - 6) % 64)).toNat : Int)) 3 1 rfl rfl rfl rfl ?_ (by rw [List.length_map, sizeLine_eq]; omega) ?_
      · refine (ev_sub ((ev_glob rfl (g_B64 w)).as as_bytes) ((ev_binop (ev_binop (ev_var 5 rfl rfl) (ev_binop (ev_var 4 rfl rfl) ev_int p2_sub) (p2_shr (by omega))) ev_int p2_and).eq (by rw [sx_arith _ _ h6'])) rfl FB.slot_bytes_getitem.lookup (p2_getbytes (by omega) ?_ (by decide))).eq ?_
        · show ((lc1 / 2 ^ (n - 6) % 64 : Nat) : Int) < ((B64.length : Nat) : Int)
          show _ < ((64 : Nat) : Int)
          omega
        · rfl
      · refine xs_assign 4 rfl (d := .int ((n - 6 : Nat) : Int)) ((ev_binop (ev_var 4 rfl rfl) ev_int p2_sub).eq (by congr 1; omega)) ?_
        refine xs_nil ⟨n - 6, by omega, out ++ [sx (lc1 / 2 ^ (n - 6) % 64)], rfl, ?_, by simp; omega, by omega, ?_⟩
        · simp [octs]
        · rw [← hem, emit_step _ _ _ h6']
    · have h6' : ¬ 6 ≤ n := by have := of_decide_eq_false h6; omega
      rw [emit_stop _ _ _ h6'] at hem
      refine xs_nil ⟨[⟨a, ol w (octs out)⟩], rfl, some (.int (l[i].toNat : Int)), ?_, ?_⟩
      · rw [etake, run64_snoc, hst, hstep, ← hem]
      · rw [etake, run64_snoc, hst, hstep, ← hem]
  · obtain ⟨x, rfl, rfl⟩ := hI
    have hlt : (octs l).length = l.length := by simp
    rw [hlt, List.take_length]
    obtain ⟨hlb, hlc⟩ := run64_lt l
    have hlen := run64_len l
    have hfl : (enc64 l).length ≤ 2 * l.length + 3 := by
      unfold enc64 fin64
      split
      · simp; omega
      · split
        · simp; omega
        · omega
    unfold enc64 at *
    generalize run64 l = st at *
    refine xs_if (Φ₁ := fun V M => V = V64 l a st.lb st.lc x ∧ M = [⟨a, ol w (octs (fin64 st))⟩]) (et_cmp (ev_var 4 rfl rfl) ev_int p2_eq tru_bool) (fun h => ?_) (fun h => ?_) fun V M hI => ?_
    · have h2 : st.lb = 2 := by have := eq_of_beq h; omega
      have hd3 : st.lc % 4 * 16 < 64 := by omega
      refine xs_append (d := .int ((sx (st.lc % 4 * 16)).toNat : Int)) 3 0 rfl rfl rfl rfl ((ev_sub ((ev_glob rfl (g_B64 w)).as as_bytes) ((ev_binop (ev_binop (ev_var 5 rfl rfl) ev_int p2_and) ev_int (p2_shl (by decide) (by decide) (by rw [bitAnd_m2]; omega))).eq (d' := .int ((st.lc % 4 * 16 : Nat) : Int)) (by
        congr 1; rw [bitAnd_m2]; show ((st.lc : Int) % 4) * 16 = _; omega)) rfl FB.slot_bytes_getitem.lookup (p2_getbytes (by omega) (by show ((st.lc % 4 * 16 : Nat) : Int) < ((64 : Nat) : Int); omega) (by decide))).eq rfl) (by rw [List.length_map, sizeLine_eq]; omega) ?_
      refine xs_append 3 0 rfl rfl rfl rfl ev_int (by simp [sizeLine_eq]; omega) ?_
      refine xs_append 3 0 rfl rfl rfl rfl ev_int (by simp [sizeLine_eq]; omega) ?_
      refine xs_nil ⟨rfl, ?_⟩
      simp [fin64, h2, octs]
    · have h2 : st.lb ≠ 2 := fun q => by rw [q] at h; exact absurd h (by decide)
      refine xs_if (Φ₁ := fun V M => V = V64 l a st.lb st.lc x ∧ M = [⟨a, ol w (octs (fin64 st))⟩]) (et_cmp (ev_var 4 rfl rfl) ev_int p2_eq tru_bool) (fun h => ?_) (fun h => ?_) fun V M hI => xs_nil hI
      · have h4 : st.lb = 4 := by have := eq_of_beq h; omega
        have hd3 : st.lc % 16 * 4 < 64 := by omega
        refine xs_append (d := .int ((sx (st.lc % 16 * 4)).toNat : Int)) 3 0 rfl rfl rfl rfl ((ev_sub ((ev_glob rfl (g_B64 w)).as as_bytes) ((ev_binop (ev_binop (ev_var 5 rfl rfl) ev_int p2_and) ev_int (p2_shl (by decide) (by decide) (by rw [bitAnd_m4]; omega))).eq (d' := .int ((st.lc % 16 * 4 : Nat) : Int)) (by
          congr 1; rw [bitAnd_m4]; show ((st.lc : Int) % 16) * 4 = _; omega)) rfl FB.slot_bytes_getitem.lookup (p2_getbytes (by omega) (by show ((st.lc % 16 * 4 : Nat) : Int) < ((64 : Nat) : Int); omega) (by decide))).eq rfl) (by rw [List.length_map, sizeLine_eq]; omega) ?_
        refine xs_append 3 0 rfl rfl rfl rfl ev_int (by simp [sizeLine_eq]; omega) ?_
        refine xs_nil ⟨rfl, ?_⟩
        simp [fin64, h4, octs]
      · have h4 : st.lb ≠ 4 := fun q => by rw [q] at h; exact absurd h (by decide)
        refine xs_nil ⟨rfl, ?_⟩
        simp [fin64, h2, h4]
    · obtain ⟨rfl, rfl⟩ := hI
      refine xs_if_f (et_val (ev_var 1 rfl rfl) tru_bool) ?_
      refine xs_freeze_list 3 0 rfl rfl ?_
      exact xs_ret (ev_call (ev_blt rfl (g_bytes w) b_bytes) .typ (.cons rfl (ev_var 3 rfl rfl) .nil) (fun_bytes (by omega)) (Nat.zero_le _)) fun _ _ r => r

theorem c_b64encode {w : World} {N : Nat} {l : List UInt8} (hl : l.length ≤ 100000) : Fun (KK w) w N 3 (.ref 81) [.bytes l] (.bytes (enc64 l)) := by
  refine fun_dflt (ns := ["s", "altchars", "encoded"]) (dds := [.none]) (dvs := [.none]) rfl rfl rfl rfl rfl rfl (by kernel_rfl) rfl rfl rfl (by kernel_rfl) (Nat.le_of_ble_eq_true rfl) (fun σ => .cons .val .nil) (fun A s vs Q' E' hX h hq => ?_) fun A L s₀ σ₀ => ?_
  · match vs, h with
    | [v], _ =>
      refine wpAny_bind (m := seqItems? _) (wpAny_seqItems (hX _ _ rfl) rfl ?_)
      exact wpAny_pure hq
  refine xs_assign 2 rfl (ev_callkw (ev_glob rfl (g_b2a_base64 w)) rfl rfl rfl (ev_var 0 rfl rfl) ev_bool (c_base64 hl) (Nat.le_refl _)) ?_
  refine xs_if_f (et_cmp (ev_var 1 rfl rfl) ev_none (p2_isnot (r := true)) tru_bool) ?_
  exact xs_ret (ev_var 2 rfl rfl) fun _ _ r => r
theorem c_std {w : World} {N : Nat} {l : List UInt8} (hl : l.length ≤ 100000) : Fun (KK w) w N 4 (.ref 88) [.bytes l] (.bytes (enc64 l)) := by
  refine fun_plain (ns := ["s"]) rfl rfl rfl rfl rfl rfl (by kernel_rfl) rfl rfl rfl (by kernel_rfl) (Nat.le_of_ble_eq_true rfl) (of_len1 fun v => rfl) fun A L s₀ σ₀ => ?_
  exact xs_ret (ev_call (ev_glob rfl (g_b64encode w)) (.fn rfl rfl) (.cons rfl (ev_var 0 rfl rfl) .nil) (c_b64encode hl) (Nat.le_refl _)) fun _ _ r => r
noncomputable def urlTab : List UInt8 := (List.range 256).map fun i => urlT i.toUInt8
theorem g_urlTab (w : World) : Glo (KK w) "_urlsafe_encode_translation" (some (.bytes urlTab.toArray 302)) := glo_of (glo_ok w) (by kernel_rfl)
theorem urlTab_get (c : UInt8) : urlTab.getD c.toNat c = urlT c := by
  have h := c.toNat_lt
  unfold urlTab
  simp [List.getElem?_range, h]
theorem c_url {w : World} {N : Nat} {l : List UInt8} (hl : l.length ≤ 100000) (hl2 : (enc64 l).length ≤ 1000000) : Fun (KK w) w N 4 (.ref 95) [.bytes l] (.bytes (url64 l)) := by
  refine fun_plain (ns := ["s"]) rfl rfl rfl rfl rfl rfl (by kernel_rfl) rfl rfl rfl (by kernel_rfl) (Nat.le_of_ble_eq_true rfl) (of_len1 fun v => rfl) fun A L s₀ σ₀ => ?_
  refine xs_ret ((ev_method (ev_call (ev_glob rfl (g_b64encode w)) (.fn rfl rfl) (.cons rfl (ev_var 0 rfl rfl) .nil) (c_b64encode hl) (Nat.le_refl _)) rfl rfl FB.plainAttrs_bytes slot_translate type_translate
    (.cons rfl ((ev_glob rfl (g_urlTab w)).as as_bytes) .nil) (fun_translate (k := 0) (by omega) (by simp [urlTab])) (Nat.zero_le _)).eq ?_) fun _ _ r => r
  unfold url64
  simp only [urlTab_get]

theorem g_NO_SEP (w : World) : Glo (KK w) "_NO_SEP" (some (.ref 65)) := glo_of (glo_ok w) (by kernel_rfl)
theorem p2_isref {K : Frag} {w : World} {N : Nat} {a : Addr} : P2 K w N (compareOp .Is) (.val (.ref a)) (.val (.ref a)) (.bool true) := fun A σ s v1 v2 Q E g rm r1 r2 q => by
  cases r1; cases r2
  exact wpAny_is_ref_self (q _ _ _ (.refl g) .val)
theorem ev_neg {c : Cx} {V : List (Option D)} {M : List Own} {e : Expr} {pos : Pos} {i : Int} (h : Ev c V M e (.int i)) : Ev c V M (.UnaryOp .USub e pos) (.int (-i)) := fun σ s Q E f q =>
  wpAny_UnaryOp (h.use f fun σ1 s1 v x1 f1 r1 => by cases r1; exact PyProof.Rows.neg_int (q _ _ _ (x1.trans (.tok f1.step.g _)) .int))
theorem hexOut_len : ∀ l : List UInt8, (hexOut l).length = 2 * l.length
  | [] => rfl
  | c :: l => by
    have := hexOut_len l
    show ([_, _] ++ hexOut l).length = _
    simp; omega
theorem c_hex {w : World} {N : Nat} {l : List UInt8} (hl : l.length ≤ 100000) : Fun (KK w) w N 2 (.ref 73) [.bytes l] (.bytes ((hexOut l).map Nat.toUInt8)) := by
  have hlen := hexOut_len l
  have hasc : ∀ c ∈ hexOut l, c < 128 := by
    intro c hc
    unfold hexOut at hc
    obtain ⟨b, _, hb⟩ := List.mem_flatMap.mp hc
    have h1 : ∀ n, n < 16 → Builtin.Bytes.hexDigit n < 128 := fun n hn => by unfold Builtin.Bytes.hexDigit; split <;> omega
    have h2 := b.toNat_lt
    simp at hb
    rcases hb with rfl | rfl
    · exact h1 _ (by omega)
    · exact h1 _ (by omega)
  refine fun_dflt (ns := ["data", "sep", "bytes_per_sep", "t"]) (dds := [.val (.ref 65), .int 1]) (dvs := [.ref 65, .int 1 269]) rfl rfl rfl rfl rfl rfl (by kernel_rfl) rfl rfl rfl (by kernel_rfl) (Nat.le_of_ble_eq_true rfl) (fun σ => .cons .val (.cons .int .nil)) (fun A s vs Q' E' hX h hq => ?_) fun A L s₀ σ₀ => ?_
  · match vs, h with
    | [v], _ =>
      refine wpAny_bind (m := seqItems? _) (wpAny_seqItems (hX _ _ rfl) rfl ?_)
      exact wpAny_pure hq
  refine xs_assign 0 rfl (ev_call (ev_glob rfl (g_buffer w)) (.fn rfl rfl) (.cons rfl (ev_var 0 rfl rfl) .nil) c_buffer (Nat.le_refl _)) ?_
  refine xs_if_f (et_chain (.orF (et_cmp (ev_call (ev_blt rfl (g_type w) b_type) .typ (.cons rfl (ev_var 2 rfl rfl) .nil) (fun_type rfl) (Nat.zero_le _)) (ev_blt rfl (g_int w) b_int) (p2_isnot (r := true)) tru_bool)
    (.orF (et_cmp (ev_var 2 rfl rfl) (ev_neg ev_int) p2_lt tru_bool) (.orF (et_cmp (ev_var 2 rfl rfl) ev_int p2_gt tru_bool) .nil)))) ?_
  refine xs_if_t (Φ₁ := fun _ _ => False) (et_cmp (ev_var 1 rfl rfl) (ev_glob rfl (g_NO_SEP w)) p2_isref tru_bool) ?_ (fun _ _ h => h.elim)
  refine xs_ret ((ev_method (ev_method (ev_var 0 rfl rfl) rfl rfl FB.plainAttrs_bytes FB.slot_bytes_hex FB.type_bytes_hex .nil (fun_hex (k := 0) (by omega)) (Nat.zero_le _)) rfl rfl PySem.F.plainAttrs_str PySem.F.slot_str_encode PySem.F.type_str_encode
    (.cons rfl ev_str .nil) (fun_encode (k := 0) (by simpa using hasc) (by show (hexOut l).toArray.size ≤ _; rw [List.size_toArray]; omega)) (Nat.zero_le _)).eq ?_) fun _ _ r => r
  rfl
theorem c_b16 {w : World} {N : Nat} {l : List UInt8} (hl : l.length ≤ 100000) : Fun (KK w) w N 3 (.ref 102) [.bytes l] (.bytes (enc16 l)) := by
  have hlen : ((hexOut l).map Nat.toUInt8).length = 2 * l.length := by
    rw [List.length_map]; exact hexOut_len l
  refine fun_plain (ns := ["s"]) rfl rfl rfl rfl rfl rfl (by kernel_rfl) rfl rfl rfl (by kernel_rfl) (Nat.le_of_ble_eq_true rfl) (of_len1 fun v => rfl) fun A L s₀ σ₀ => ?_
  refine xs_ret ((ev_method (ev_call (ev_glob rfl (g_hexlify w)) (.fn rfl rfl) (.cons rfl (ev_var 0 rfl rfl) .nil) (c_hex hl) (Nat.le_refl _)) rfl rfl FB.plainAttrs_bytes slot_upper type_upper .nil (fun_upper (k := 0) (by omega)) (Nat.zero_le _)).eq ?_) fun _ _ r => r
  congr 1
  unfold hexOut enc16
  rw [List.map_flatMap, List.map_flatMap]
  congr 1
  funext c
  have h := c.toNat_lt
  have key : ∀ n, n < 16 → Builtin.Bytes.toUpper (Builtin.Bytes.hexDigit n).toUInt8 = (hexD n).toUInt8 := by decide
  simp only [List.map_cons, List.map_nil]
  rw [key _ (by omega), key _ (by omega)]
end Mine
end
section
open PySem PySem.W PyProof.Rows PySem.Calls
set_option Elab.async false
set_option maxRecDepth 100000
set_option autoImplicit false
set_option linter.unusedVariables false
namespace Mine
theorem pyl_small {a : Int} {b : Nat} (h : b < 2 ^ 60) : Builtin.divisionGoesByPylong a (b : Int) = false := by
  unfold Builtin.divisionGoesByPylong
  simp only [Bool.and_eq_false_iff]
  left
  rw [decide_eq_false_iff_not]
  split
  · omega
  · rename_i h0
    have hb : b ≠ 0 := by simpa using h0
    have : b.log2 < 60 := (Nat.log2_lt hb).mpr h
    show ¬ ((b : Int).natAbs.log2 / 30 + 1 > 300)
    simp only [Int.natAbs_natCast]
    omega
theorem c_pieces {w : World} {N : Nat} {ns : List Int} (hn : ns.length ≤ 1000) : Fun (KK w) w N 1 (.ref 109) [.list (nums ns)] (.list ((pieces ns).map .bytes)) := by
  refine fun_plain (ns := ["numbers", "pieces", "piece", "n"]) rfl rfl rfl rfl rfl rfl (by kernel_rfl) rfl rfl rfl (by kernel_rfl) (Nat.le_of_ble_eq_true rfl) (of_len1 fun v => rfl) fun A L s₀ σ₀ => ?_
  refine xs_newlist 1 rfl fun a => ?_
  refine xs_assign 2 rfl (ev_list .nil) ?_
  refine xs_for (fun i V M => ∃ x, V = [some (.list (nums ns)), some (.val (.ref a)), some (.list (octs (prun (ns.take i)).2)), x] ∧ M = [⟨a, ol w ((prun (ns.take i)).1.map .bytes)⟩]) (ev_var 0 rfl rfl) iters_list ⟨none, rfl, rfl⟩ (fun i dd V M o hd hI => ?_) fun V M hI => ?_
  · obtain ⟨x, rfl, rfl⟩ := hI
    obtain ⟨hi, hd'⟩ := List.getElem?_eq_some_iff.mp hd
    have hi' : i < ns.length := by simpa using hi
    have hb : dd = .int ns[i] := by rw [← hd']; simp
    subst hb
    have etake : ns.take (i + 1) = ns.take i ++ [ns[i]] := by rw [List.take_add_one, List.getElem?_eq_getElem hi']; rfl
    obtain ⟨hl1, hl2, _⟩ := prun_len (ns.take i)
    rw [List.length_take] at hl1 hl2
    have hnext : prun (ns.take (i + 1)) = pstep (prun (ns.take i)) ns[i] := by rw [etake, prun_snoc]
    generalize hst : prun (ns.take i) = st at *
    generalize hnn : ns[i] = n at *
    refine ⟨_, asg_name 3 rfl, ?_⟩
    refine xs_assign 2 rfl (d := .list (octs (st.2 ++ [oct (n.fdiv 3)]))) ((ev_binop (ev_var 2 rfl rfl) (ev_list (.cons rfl (ev_binop (ev_binop (ev_var 3 rfl rfl) ev_int (p2_div (by decide) (pyl_small (b := 3) (by decide)))) ev_int (p2_mod (by decide))) .nil)) (p2_addlist (by simp; omega))).eq (by
      rw [oct_int]; simp [octs])) ?_
    refine xs_if (Φ₁ := fun V M => V = [some (.list (nums ns)), some (.val (.ref a)), some (.list (octs (st.2 ++ laid n))), some (.int n)] ∧ M = [o, ⟨a, ol w (st.1.map .bytes)⟩]) (et_cmp (ev_binop (ev_var 3 rfl rfl) ev_int (p2_mod (by decide))) ev_int p2_eq tru_bool) (fun h => ?_) (fun h => ?_) fun V M hI => ?_
    · have h2 : n.fmod 3 = 2 := eq_of_beq h
      refine xs_assign 2 rfl (d := .list (octs (st.2 ++ laid n))) ((ev_binop (ev_var 2 rfl rfl) (ev_list (.cons rfl (ev_binop (ev_binop (ev_var 3 rfl rfl) ev_int (p2_div (by decide) (pyl_small (b := 768) (by decide)))) ev_int (p2_mod (by decide))) .nil)) (p2_addlist (by simp; omega))).eq (by
        rw [oct_int]; unfold laid; rw [if_pos h2]; simp [octs])) ?_
      exact xs_nil ⟨rfl, rfl⟩
    · have h2 : n.fmod 3 ≠ 2 := fun q => by rw [q] at h; exact absurd h (by decide)
      refine xs_nil ⟨?_, rfl⟩
      unfold laid; rw [if_neg h2]; rfl
    · obtain ⟨rfl, rfl⟩ := hI
      obtain ⟨q1, q2⟩ := laid_len n
      refine xs_if (Φ₁ := fun V M => ∃ M'', M = o :: M'' ∧ ∃ x, V = [some (.list (nums ns)), some (.val (.ref a)), some (.list (octs (pstep st n).2)), x] ∧ M'' = [⟨a, ol w ((pstep st n).1.map .bytes)⟩]) (et_cmp (ev_binop (ev_var 3 rfl rfl) ev_int (p2_mod (by decide))) ev_int p2_eq tru_bool) (fun h => ?_) (fun h => ?_) fun V M hI => ?_
      · have h2 : n.fmod 3 = 1 := eq_of_beq h
        refine xs_append (d := .bytes (st.2 ++ laid n)) 1 1 rfl rfl rfl rfl (ev_call (ev_blt rfl (g_bytes w) b_bytes) .typ (.cons rfl (ev_var 2 rfl rfl) .nil) (fun_bytes (by simp; omega)) (Nat.zero_le _)) (by rw [List.length_map, sizeLine_eq]; omega) ?_
        refine xs_assign 2 rfl (ev_list .nil) ?_
        refine xs_nil ⟨_, rfl, some (.int n), ?_, ?_⟩
        · unfold pstep; rw [if_pos h2]; rfl
        · unfold pstep; rw [if_pos h2]; simp
      · have h2 : n.fmod 3 ≠ 1 := fun q => by rw [q] at h; exact absurd h (by decide)
        refine xs_nil ⟨_, rfl, some (.int n), ?_, ?_⟩
        · unfold pstep; rw [if_neg h2]
        · unfold pstep; rw [if_neg h2]
      · rw [hnext]; exact xs_nil hI
  · obtain ⟨x, rfl, rfl⟩ := hI
    have hlt : (nums ns).length = ns.length := by simp
    rw [hlt, List.take_length]
    obtain ⟨hl1, hl2, _⟩ := prun_len ns
    unfold pieces
    generalize prun ns = st at *
    refine xs_append (d := .bytes st.2) 1 0 rfl rfl rfl rfl (ev_call (ev_blt rfl (g_bytes w) b_bytes) .typ (.cons rfl (ev_var 2 rfl rfl) .nil) (fun_bytes (by omega)) (Nat.zero_le _)) (by rw [List.length_map, sizeLine_eq]; omega) ?_
    refine xs_freeze_list 1 0 rfl rfl ?_
    exact xs_ret ((ev_var 1 rfl rfl).eq (by simp)) fun _ _ r => r
end Mine
end
section
open PySem PySem.W PyProof.Rows PySem.Calls
set_option Elab.async false
set_option maxRecDepth 100000
set_option autoImplicit false
set_option linter.unusedVariables false
namespace Mine
noncomputable abbrev txt (l : List Nat) : Str := ⟨l.toArray⟩
theorem txt_len (l : List Nat) : (txt l).length = l.length := by show l.toArray.size = _; simp
theorem txt_app (a b : List Nat) : txt a ++ txt b = txt (a ++ b) := by
  show (⟨a.toArray ++ b.toArray⟩ : Str) = ⟨(a ++ b).toArray⟩
  simp
theorem bits_le {n : Nat} (h : n < 2 ^ 64) : Builtin.Int.intBits (n : Int) ≤ 64 := intBits_le_64 (by omega) (by omega)
noncomputable abbrev VS (l : List UInt8) (b : Nat) (al : List Nat) (v : Nat) (x1 x2 : Option D) (sp : Nat) (sg : List Nat) : List (Option D) := [some (.bytes l), some (.int b), some (.str (txt al)), some (.int v), x1, some (.int sp), some (.str (txt sg)), x2]

theorem fmod_nat (a b : Nat) : Int.fmod (a : Int) (b : Int) = ((a % b : Nat) : Int) := by
  rw [Int.fmod_eq_emod_of_nonneg _ (by omega)]; push_cast; rfl
theorem fdiv_nat (a b : Nat) : Int.fdiv (a : Int) (b : Int) = ((a / b : Nat) : Int) := by
  rw [Int.fdiv_eq_ediv_of_nonneg _ (by omega)]; push_cast; rfl
theorem sp_arith (b n : Nat) (hb : 0 < b) : Int.fmod ((b : Int) - Int.fmod (8 * (n : Int)) b) b = ((spare b n : Nat) : Int) := by
  have e : (8 * (n : Int)) = ((8 * n : Nat) : Int) := by push_cast; rfl
  rw [e, fmod_nat]
  have h := Nat.mod_lt (8 * n) hb
  have e2 : (b : Int) - ((8 * n % b : Nat) : Int) = ((b - 8 * n % b : Nat) : Int) := by omega
  rw [e2, fmod_nat]
  rfl
theorem two_pow_nat (n : Nat) : ((2 : Int) ^ ((n : Int)).toNat) = ((2 ^ n : Nat) : Int) := by simp
theorem mulok8 {b : Int} : IntMulOk 8 b := .of_left (bits_le (n := 8) (by decide))
theorem mulok256 {b : Int} : IntMulOk b 256 := .of_right (bits_le (n := 256) (by decide))
theorem bits_two : Builtin.Int.intBits 2 = 2 := by decide
theorem rsmall (n : Nat) (h : n < 2 ^ 62) : Builtin.Range.small 0 n 1 = true ∧ Builtin.Range.rangeSize 0 n 1 = (n : Int) := by
  have e : Builtin.Range.rangeSize 0 n 1 = (n : Int) := by
    unfold Builtin.Range.rangeSize
    rw [if_pos (by decide)]
    split
    · simp
    · omega
  refine ⟨?_, e⟩
  unfold Builtin.Range.small
  rw [e]
  have f : ∀ i : Int, -(2 ^ 63) ≤ i → i < 2 ^ 63 → Builtin.Range.rangeFitsLong i = true := fun i h1 h2 => by
    unfold Builtin.Range.rangeFitsLong; simp only [Bool.and_eq_true, decide_eq_true_eq]; exact ⟨h1, h2⟩
  rw [f 0 (by decide) (by decide), f n (by omega) (by omega), f 1 (by decide) (by decide)]
  simp only [Bool.and_true, Bool.true_and, Bool.or_eq_true]
  right
  rw [if_pos (by decide)]
  exact f _ (by omega) (by omega)

theorem all_and1 {c : Cx} {V : List (Option D)} {M : List Own} {x : Expr} {b : Bool} (h : Et c V M x b) : All2 c V M .And [x] b := by
  cases b with
  | true => exact .andT h .nil
  | false => exact .andF h
theorem all_or1 {c : Cx} {V : List (Option D)} {M : List Own} {x : Expr} {b : Bool} (h : Et c V M x b) : All2 c V M .Or [x] b := by
  cases b with
  | true => exact .orT h
  | false => exact .orF h .nil
theorem c_signs {w : World} {N : Nat} {l : List UInt8} {bits : Nat} {al : List Nat} (hl : l.length ≤ 1000) (hb : bits = 4 ∨ bits = 6) (hal : al.length = 2 ^ bits) : Fun (KK w) w N 1 (.ref 116) [.bytes l, .int bits, .str (txt al)] (.str (txt (signs bits al l))) := by
  have hb0 : 0 < bits := by omega
  have hb8 : bits ≤ 6 := by omega
  have hpw : 2 ^ bits ≤ 64 := by rcases hb with rfl | rfl <;> decide
  have hpw1 : 0 < 2 ^ bits := Nat.two_pow_pos bits
  refine fun_plain (ns := ["octets", "bits", "alphabet", "value", "octet", "spare", "signs", "k"]) rfl rfl rfl rfl rfl rfl (by kernel_rfl) rfl rfl rfl (by kernel_rfl) (Nat.le_of_ble_eq_true rfl) (of_len3 fun v1 v2 v3 => rfl) fun A L s₀ σ₀ => ?_
  refine xs_assign 3 rfl ev_int ?_
  refine xs_for (fun i V M => ∃ x, V = [some (.bytes l), some (.int bits), some (.str (txt al)), some (.int (num (l.take i) : Nat)), x, none, none, none] ∧ M = []) (ev_var 0 rfl rfl) iters_bytes ⟨none, rfl, rfl⟩ (fun i dd V M o hd hI => ?_) fun V M hI => ?_
  · obtain ⟨x, rfl, rfl⟩ := hI
    obtain ⟨hi, hd'⟩ := List.getElem?_eq_some_iff.mp hd
    have hi' : i < l.length := by simpa using hi
    have hbb : dd = .int (l[i].toNat : Int) := by rw [← hd']; simp
    subst hbb
    have etake : l.take (i + 1) = l.take i ++ [l[i]] := by rw [List.take_add_one, List.getElem?_eq_getElem hi']; rfl
    refine ⟨_, asg_name 4 rfl, ?_⟩
    refine xs_assign 3 rfl (d := .int (num (l.take (i + 1)) : Nat)) ((ev_binop (ev_binop (ev_var 3 rfl rfl) ev_int (p2_mul mulok256)) (ev_var 4 rfl rfl) p2_add).eq (by rw [etake, num_snoc]; congr 1)) ?_
    exact xs_nil ⟨_, rfl, _, rfl, rfl⟩
  · obtain ⟨x, rfl, rfl⟩ := hI
    have hlt : (octs l).length = l.length := by simp
    rw [hlt, List.take_length]
    have hsp : spare bits l.length < bits := Nat.mod_lt _ hb0
    refine xs_assign 5 rfl (d := .int (spare bits l.length : Nat)) ((ev_binop (ev_binop (ev_var 1 rfl rfl) (ev_binop (ev_binop ev_int (ev_call (ev_blt rfl (g_len w) b_len) .blt (.cons rfl (ev_var 0 rfl rfl) .nil) (fun_len_bytes (by omega)) (Nat.zero_le _)) (p2_mul mulok8)) (ev_var 1 rfl rfl) (p2_mod (by omega))) p2_sub) (ev_var 1 rfl rfl) (p2_mod (by omega))).eq ?_) ?_
    · rw [sp_arith _ _ hb0]
    generalize hspd : spare bits l.length = sp at *
    refine xs_assign 3 rfl (d := .int (num l * 2 ^ sp : Nat)) ((ev_binop (ev_var 3 rfl rfl) (ev_binop ev_int (ev_var 5 rfl rfl) (p2_pow (by omega) (by rw [bits_two]; omega))) (p2_mul (.of_right (by
      rw [two_pow_nat]; exact bits_le (Nat.lt_of_le_of_lt (Nat.pow_le_pow_right (by decide) (show sp ≤ 6 by omega)) (by decide)))))).eq (by rw [two_pow_nat]; congr 1)) ?_
    refine xs_assign 6 rfl (d := .str (txt [])) (ev_str.eq (by congr 1)) ?_
    generalize hv0 : num l * 2 ^ sp = v0
    have hnn : ((8 * l.length + sp) / bits) ≤ 8100 := Nat.le_trans (Nat.div_le_self _ _) (by omega)
    generalize hnd : (8 * l.length + sp) / bits = nn at *
    obtain ⟨hs1, hs2⟩ := rsmall nn (by omega)
    refine xs_for (fun i V M => ∃ y z, V = VS l bits al (v0 / (2 ^ bits) ^ i) y z sp (digs al (2 ^ bits) i v0) ∧ M = []) (d := .range 0 nn 1)
      (ev_call (ev_blt rfl (g_range w) b_range) .typ (.cons rfl ((ev_binop (ev_binop (ev_binop ev_int (ev_call (ev_blt rfl (g_len w) b_len) .blt (.cons rfl (ev_var 0 rfl rfl) .nil) (fun_len_bytes (by omega)) (Nat.zero_le _)) (p2_mul mulok8)) (ev_var 5 rfl rfl) p2_add) (ev_var 1 rfl rfl) (p2_div (by omega) (pyl_small (b := bits) (by omega)))).eq (d' := .int nn) (by
        refine congrArg D.int ?_
        have e : (8 * (l.length : Int) + (sp : Int)) = ((8 * l.length + sp : Nat) : Int) := by push_cast; rfl
        rw [e, fdiv_nat, hnd])) .nil) fun_range1 (Nat.zero_le _)) (iters_range nn hs1 hs2) ⟨x, none, by simp [digs], rfl⟩ (fun i dd V M o hd hI => ?_) fun V M hI => ?_
    · obtain ⟨y, z, rfl, rfl⟩ := hI
      obtain ⟨hi, hd'⟩ := List.getElem?_eq_some_iff.mp hd
      have hi' : i < nn := by simpa using hi
      have hdl := digs_len al (2 ^ bits) v0 i
      refine ⟨_, asg_name 7 rfl, ?_⟩
      have hdg : v0 / (2 ^ bits) ^ i % 2 ^ bits < al.length := by rw [hal]; exact Nat.mod_lt _ hpw1
      refine xs_assign 6 rfl (d := .str (txt (digs al (2 ^ bits) (i + 1) v0))) ((ev_binop (ev_sub (d2 := .int (v0 / (2 ^ bits) ^ i % 2 ^ bits : Nat)) (ev_var 2 rfl rfl) ((ev_binop (ev_var 3 rfl rfl) (ev_binop ev_int (ev_var 1 rfl rfl) (p2_pow (by omega) (by rw [bits_two]; omega))) (p2_mod (by rw [two_pow_nat]; omega))).eq (by rw [two_pow_nat, fmod_nat])) rfl PySem.F.slot_str_getitem.lookup
        (p2_getstr (c := al.getD (v0 / (2 ^ bits) ^ i % 2 ^ bits) 0) (by omega) (by rw [Int.toNat_natCast]; show al.toArray[_]? = _; simp [List.getElem?_eq_getElem hdg]) (by rw [txt_len, hal]; omega))) (ev_var 6 rfl rfl) (p2_addstr (by rw [txt_len, txt_len, hdl]; show 1 + i ≤ _; omega))).eq (by
          exact congrArg D.str (txt_app [_] _))) ?_
      refine xs_assign 3 rfl (d := .int (v0 / (2 ^ bits) ^ (i + 1) : Nat)) ((ev_binop (ev_var 3 rfl rfl) (ev_binop ev_int (ev_var 1 rfl rfl) (p2_pow (by omega) (by rw [bits_two]; omega))) (p2_div (by rw [two_pow_nat]; omega) (by rw [two_pow_nat]; exact pyl_small (by omega)))).eq (by
        rw [two_pow_nat, fdiv_nat, Nat.div_div_eq_div_mul, Nat.pow_succ])) ?_
      exact xs_nil ⟨_, rfl, _, _, rfl, rfl⟩
    · obtain ⟨y, z, rfl, rfl⟩ := hI
      have hlt2 : (rng 0 1 nn).length = nn := by simp
      rw [hlt2]
      have hdl := digs_len al (2 ^ bits) v0 nn
      have hres : signs bits al l = if bits = 6 then pad4 (digs al (2 ^ bits) nn v0) else digs al (2 ^ bits) nn v0 := by
        unfold signs; simp only [hspd, hv0, hnd]
      generalize digs al (2 ^ bits) nn v0 = s0 at *
      refine xs_while (fun n V M => ∃ sg, V = VS l bits al (v0 / (2 ^ bits) ^ nn) y z sp sg ∧ M = [] ∧ sg.length ≤ 9000 + 4 - n ∧ n ≤ 3 ∧ (bits = 6 → n = (4 - sg.length % 4) % 4) ∧ (if bits = 6 then sg ++ List.replicate n 61 else sg) = signs bits al l) ((4 - s0.length % 4) % 4)
        ⟨s0, rfl, rfl, by omega, by omega, fun _ => rfl, by rw [hres]; rfl⟩ fun n V M hI => ?_
      obtain ⟨sg, rfl, rfl, hsl, hn3, hn6, hfin⟩ := hI
      rcases hb with rfl | rfl
      · refine ⟨false, et_chain (.andF (et_cmp (ev_var 1 rfl rfl) ev_int p2_eq tru_bool)), fun h => Bool.noConfusion h, fun _ => ?_⟩
        exact xs_ret ((ev_var 6 rfl rfl).eq (by rw [← hfin]; rfl)) fun _ _ r => r
      · have hn := hn6 rfl
        rw [if_pos rfl] at hfin
        have lsg : (txt sg).length = sg.length := txt_len sg
        have hfm : Int.fmod ((txt sg).length : Int) 4 = ((sg.length % 4 : Nat) : Int) := by rw [lsg]; exact fmod_nat _ 4
        refine ⟨decide ((0 : Int) < Int.fmod ((txt sg).length : Int) 4), et_chain (.andT (et_cmp (ev_var 1 rfl rfl) ev_int p2_eq tru_bool) (all_and1 (et_cmp (ev_binop (ev_call (ev_blt rfl (g_len w) b_len) .blt (.cons rfl (ev_var 6 rfl rfl) .nil) (fun_len_str (by rw [lsg]; omega)) (Nat.zero_le _)) ev_int (p2_mod (by decide))) ev_int p2_gt tru_bool))), fun h => ?_, fun h => ?_⟩
        · have h4 := of_decide_eq_true h
          rw [hfm] at h4
          refine xs_assign 6 rfl (d := .str (txt (sg ++ [61]))) ((ev_binop (ev_var 6 rfl rfl) ev_str (p2_addstr (by rw [lsg]; show _ + 1 ≤ _; omega))).eq (congrArg D.str (txt_app sg [61]))) ?_
          obtain ⟨m, rfl⟩ : ∃ m, n = m + 1 := ⟨n - 1, by omega⟩
          refine xs_nil ⟨m, by omega, sg ++ [61], rfl, rfl, by simp; omega, by omega, fun _ => by simp; omega, ?_⟩
          rw [if_pos rfl, ← hfin, List.append_assoc, List.replicate_succ]; rfl
        · have h4 := of_decide_eq_false h
          rw [hfm] at h4
          have : n = 0 := by omega
          subst this
          exact xs_ret ((ev_var 6 rfl rfl).eq (by rw [← hfin]; simp)) fun _ _ r => r
end Mine
end
section
open PySem PySem.W PyProof.Rows PySem.Calls
set_option Elab.async false
set_option maxRecDepth 100000
set_option autoImplicit false
set_option linter.unusedVariables false
namespace Mine
noncomputable abbrev one (c : Nat) : Str := ⟨#[c]⟩
theorem one_inj {a b : Nat} (h : one a = one b) : a = b := by injection h with h; simpa using h
noncomputable abbrev tabI (t : List (Nat × Int)) : List (Str × D) := t.map fun kv => (one kv.1, .int kv.2)
noncomputable abbrev vD (wide : Bool) (xs : List Int) : D := if wide then .tup (nums xs) else .int (xs.headD 0)
noncomputable abbrev tabD (wide : Bool) (t : Tab) : List (Str × D) := t.map fun kv => (one kv.1, vD wide kv.2)
theorem one_dec (a b : Nat) : decide (one a = one b) = decide (a = b) := by
  by_cases h : a = b
  · subst h; simp
  · rw [decide_eq_false h, decide_eq_false fun e => h (one_inj e)]
theorem look_tabI (t : List (Nat × Int)) (c : Nat) : look (tabI t) (one c) = (tget t c).map .int := by
  induction t with
  | nil => rfl
  | cons kv t ih =>
    unfold look tget at ih ⊢
    simp only [List.map_cons, List.find?_cons, one_dec]
    cases decide (kv.1 = c) with
    | true => rfl
    | false => exact ih
theorem lay_tabI (t : List (Nat × Int)) (c : Nat) (v : Int) (hn : (t.map (·.1)).Nodup) : lay (tabI t) (one c) (.int ((tget t c).getD 0 + v)) = tabI (tadd t c v) := by
  unfold lay tadd
  have e : ((tabI t).any fun kv => decide (kv.1 = one c)) = t.any fun kv => decide (kv.1 = c) := by
    rw [List.any_map]
    congr 1
    funext kv
    exact one_dec _ _
  rw [e]
  by_cases h : (t.any fun kv => decide (kv.1 = c)) = true
  · rw [if_pos h, if_pos h]
    unfold tabI
    rw [List.map_map, List.map_map]
    refine List.map_congr_left fun kv hkv => ?_
    simp only [Function.comp]
    by_cases hk : kv.1 = c
    · have hg := tget_nodup hn hkv
      rw [hk] at hg
      rw [if_pos (by rw [hk]), if_pos hk, hg]
      rfl
    · rw [if_neg fun e => hk (one_inj e), if_neg hk]
  · rw [if_neg h, if_neg h]
    have : tget t c = none := by
      unfold tget
      rw [Option.map_eq_none_iff, List.find?_eq_none]
      intro x hx
      exact fun q => h (List.any_eq_true.mpr ⟨x, hx, q⟩)
    rw [this]
    simp

theorem Iters.eq {c : Cx} {t : Expr} {d : D} {ds ds' : List D} (h : Iters c t d ds) (e : ds = ds') : Iters c t d ds' := e ▸ h
theorem c_callers {w : World} {N : Nat} {tx : List Nat} {size : Int} {wide : Bool} (hl : tx.length ≤ 100000) : Fun (KK w) w N 1 (.ref 121) [.str (txt tx), .int size, .bool wide] (.dict (tabD wide (callersT wide tx size))) := by
  refine fun_plain (ns := ["text", "size", "wide", "often", "places", "k"]) rfl rfl rfl rfl rfl rfl (by kernel_rfl) rfl rfl rfl (by kernel_rfl) (Nat.le_of_ble_eq_true rfl) (of_len3 fun v1 v2 v3 => rfl) fun A L s₀ σ₀ => ?_
  refine xs_newdict 3 rfl fun a => ?_
  refine xs_newdict 4 rfl fun b => ?_
  have lt := txt_len tx
  obtain ⟨hs1, hs2⟩ := rsmall tx.length (by omega)
  refine xs_for (fun i V M => ∃ x, V = [some (.str (txt tx)), some (.int size), some (.bool wide), some (.val (.ref a)), some (.val (.ref b)), x] ∧ M = [⟨b, od w (tabI (placesT (tx.take i)))⟩, ⟨a, od w (tabI (oftenT (tx.take i)))⟩])
    (ev_call (ev_blt rfl (g_range w) b_range) .typ (.cons rfl ((ev_call (ev_blt rfl (g_len w) b_len) .blt (.cons rfl (ev_var 0 rfl rfl) .nil) (fun_len_str (by omega)) (Nat.zero_le _)).eq (d' := .int (tx.length : Nat)) (by rw [lt])) .nil) fun_range1 (Nat.zero_le _)) (iters_range tx.length hs1 hs2) ⟨none, rfl, rfl⟩ (fun i dd V M o hd hI => ?_) fun V M hI => ?_
  · obtain ⟨x, rfl, rfl⟩ := hI
    obtain ⟨hi, hd'⟩ := List.getElem?_eq_some_iff.mp hd
    have hi' : i < tx.length := by simpa using hi
    have hbb : dd = .int (i : Nat) := by rw [← hd']; simp
    subst hbb
    have etake : tx.take (i + 1) = tx.take i ++ [tx[i]] := by rw [List.take_add_one, List.getElem?_eq_getElem hi']; rfl
    have hn1 := often_nodup (tx.take i)
    have hn2 : ((placesT (tx.take i)).map (·.1)).Nodup := often_places_keys (tx.take i) ▸ hn1
    have hl1 := often_len (tx.take i)
    have hl2 : (placesT (tx.take i)).length = (oftenT (tx.take i)).length := by have := congrArg List.length (often_places_keys (tx.take i)); simpa using this.symm
    have hlt : (tx.take i).length = i := by rw [List.length_take]; omega
    rw [hlt] at hl1
    have hc : (txt tx).cps[((i : Nat) : Int).toNat]? = some tx[i] := by rw [Int.toNat_natCast]; show tx.toArray[i]? = _; simp [hi']
    refine ⟨_, asg_name 5 rfl, ?_⟩
    refine xs_setown (kvs := tabI (oftenT (tx.take i))) (d := .int ((tget (oftenT (tx.take i)) tx[i]).getD 0 + 1)) (y := one tx[i]) 3 2 rfl rfl rfl
      (ev_binop (ev_getdown (kvs := tabI (oftenT (tx.take i))) (y := one tx[i]) 3 2 rfl rfl rfl (ev_sub (ev_var 0 rfl rfl) (ev_var 5 rfl rfl) rfl PySem.F.slot_str_getitem.lookup (p2_getstr (by omega) hc (by omega))) rfl ev_int rfl (by rw [look_tabI]; cases tget (oftenT (tx.take i)) tx[i] <;> rfl)) ev_int p2_add)
      (ev_sub (ev_var 0 rfl rfl) (ev_var 5 rfl rfl) rfl PySem.F.slot_str_getitem.lookup (p2_getstr (by omega) hc (by omega))) (by rw [List.length_map]; omega) ?_
    rw [lay_tabI _ _ _ hn1]
    refine xs_setown (kvs := tabI (placesT (tx.take i))) (d := .int ((tget (placesT (tx.take i)) tx[i]).getD 0 + (i : Nat))) (y := one tx[i]) 4 1 rfl rfl rfl
      (ev_binop (ev_getdown (kvs := tabI (placesT (tx.take i))) (y := one tx[i]) 4 1 rfl rfl rfl (ev_sub (ev_var 0 rfl rfl) (ev_var 5 rfl rfl) rfl PySem.F.slot_str_getitem.lookup (p2_getstr (by omega) hc (by omega))) rfl ev_int rfl (by rw [look_tabI]; cases tget (placesT (tx.take i)) tx[i] <;> rfl)) (ev_var 5 rfl rfl) p2_add)
      (ev_sub (ev_var 0 rfl rfl) (ev_var 5 rfl rfl) rfl PySem.F.slot_str_getitem.lookup (p2_getstr (by omega) hc (by omega))) (by rw [List.length_map]; omega) ?_
    rw [lay_tabI _ _ _ hn2]
    refine xs_nil ⟨_, rfl, _, rfl, ?_⟩
    rw [etake, oftenT_snoc, placesT_snoc, hlt]
    rfl
  · obtain ⟨x, rfl, rfl⟩ := hI
    have hlt : (rng 0 1 tx.length).length = tx.length := by simp
    rw [hlt, List.take_length]
    have hn1 := often_nodup tx
    have hl1 := often_len tx
    have hkeys := often_places_keys tx
    refine xs_freeze_dict 4 0 rfl rfl ?_
    refine xs_freeze_dict 3 0 rfl rfl ?_
    refine xs_if (Φ₁ := fun V M => wide = false ∧ V = [some (.str (txt tx)), some (.int size), some (.bool wide), some (.dict (tabI (oftenT tx))), some (.dict (tabI (placesT tx))), x] ∧ M = []) (et_val (ev_var 2 rfl rfl) tru_bool) (fun h => ?_) (fun h => xs_nil ⟨h, rfl, rfl⟩) fun V M hI => ?_
    · subst h
      refine xs_ret ((ev_dc (fns := ["often", "places", "size"]) (oftenT tx) (fun kv => .str (one kv.1)) (fun kv => one kv.1) (fun kv => .tup [.int kv.2, .int ((tget (placesT tx) kv.1).getD 0), .int size, .int 1]) rfl (by kernel_rfl) (.cons rfl (.cons rfl (.cons rfl .nil)))
        (.cons 3 rfl rfl rfl rfl (.inl rfl) (.cons 4 rfl rfl rfl rfl (.inl rfl) (.cons 1 rfl rfl rfl rfl (.inl rfl) .nil))) (ev_var 3 rfl rfl) (fun C s₀ σ₀ => ?_) ?_ (fun C s₀ σ₀ M' kv hk => ?_) (fun C s₀ σ₀ M' kv hk => ?_) (by omega)).eq ?_) fun _ _ r => r
      · exact iters_keys.eq (by rw [List.map_map]; rfl)
      · rw [show ((oftenT tx).map fun kv => one kv.1) = ((oftenT tx).map (·.1)).map one by rw [List.map_map]; rfl]
        exact List.Pairwise.map _ (fun a b h e => h (one_inj e)) hn1
      · exact ev_var 0 rfl rfl
      · have hk1 : look (tabI (oftenT tx)) (one kv.1) = some (.int kv.2) := by rw [look_tabI, tget_nodup hn1 hk]; rfl
        have hk2 : look (tabI (placesT tx)) (one kv.1) = some (.int ((tget (placesT tx) kv.1).getD 0)) := by
          obtain ⟨v, hv⟩ := tget_some (t := placesT tx) (k := kv.1) (hkeys ▸ List.mem_map_of_mem hk)
          rw [look_tabI, hv]; rfl
        exact ev_tuple (.cons rfl (ev_sub (ev_var 1 rfl rfl) (ev_var 0 rfl rfl) rfl slot_dict_getitem.lookup (p2_getdict hk1)) (.cons rfl (ev_sub (ev_var 2 rfl rfl) (ev_var 0 rfl rfl) rfl slot_dict_getitem.lookup (p2_getdict hk2)) (.cons rfl (ev_var 3 rfl rfl) (.cons rfl ev_int .nil))))
      · unfold callersT tabD
        rw [List.map_map]
        rfl
    · obtain ⟨rfl, rfl, rfl⟩ := hI
      refine xs_ret ((ev_var 3 rfl rfl).eq ?_) fun _ _ r => r
      unfold callersT tabD
      rw [List.map_map]
      rfl
end Mine
end
section
open PySem PySem.W PyProof.Rows PySem.Calls
set_option Elab.async false
set_option maxRecDepth 100000
set_option autoImplicit false
set_option linter.unusedVariables false
namespace Mine
theorem sub_one (tx : List Nat) (c i : Nat) : Builtin.Str.subAt (txt tx) (one c) i = decide (tx[i]? = some c) := by
  unfold Builtin.Str.subAt
  show (tx.toArray.extract i (i + 1) == #[c]) = _
  have e : tx.toArray.extract i (i + 1) = (tx[i]?).toList.toArray := by
    apply Array.toList_inj.mp
    rw [Array.toList_extract]
    simp [List.extract_eq_take_drop]
    rw [List.take_one, List.head?_drop]
  rw [e]
  cases h : tx[i]? with
  | none => simp
  | some x => by_cases hx : x = c <;> simp [hx]
theorem occ_loop (tx : List Nat) (c lim hi : Nat) : ∀ (k j : Nat) (found : Array Nat) (free : Nat), free ≤ j →
    (forIn (List.range' j k) (found, free) (StrLaws.occBody (txt tx) (one c) hi lim)).run.fst.toList = found.toList ++ ((List.range' j k).filter fun i => decide (i + 1 ≤ hi) && decide (tx[i]? = some c)).take (lim - found.size)
  | 0, j, found, free, h => by simp
  | k + 1, j, found, free, h => by
    have hb : StrLaws.occBody (txt tx) (one c) hi lim j (found, free) = if ((found.size < lim ∧ free ≤ j) ∧ j + 1 ≤ hi) ∧ decide (tx[j]? = some c) = true then pure (.yield (found.push j, j + 1)) else pure (.yield (found, free)) := by
      unfold StrLaws.occBody; rw [sub_one]; rfl
    rw [List.range'_succ, List.forIn_cons, hb]
    by_cases hp : j + 1 ≤ hi ∧ tx[j]? = some c
    · have hp' : (decide (j + 1 ≤ hi) && decide (tx[j]? = some c)) = true := by simp [hp]
      by_cases hs : found.size < lim
      · rw [if_pos ⟨⟨⟨hs, h⟩, hp.1⟩, by simpa using hp.2⟩]
        show (forIn (List.range' (j + 1) k) (found.push j, j + 1) (StrLaws.occBody (txt tx) (one c) hi lim)).run.fst.toList = _
        rw [occ_loop tx c lim hi k (j + 1) (found.push j) (j + 1) (Nat.le_refl _), List.filter_cons, if_pos hp']
        obtain ⟨m, hm⟩ : ∃ m, lim - found.size = m + 1 := ⟨lim - found.size - 1, by omega⟩
        rw [hm, List.take_succ_cons, Array.size_push, show lim - (found.size + 1) = m by omega]
        simp
      · rw [if_neg fun q => hs q.1.1.1]
        show (forIn (List.range' (j + 1) k) (found, free) (StrLaws.occBody (txt tx) (one c) hi lim)).run.fst.toList = _
        rw [occ_loop tx c lim hi k (j + 1) found free (by omega), show lim - found.size = 0 by omega]
        simp
    · have hp' : ¬ (decide (j + 1 ≤ hi) && decide (tx[j]? = some c)) = true := by simpa using hp
      rw [if_neg fun q => hp ⟨q.1.2, by simpa using q.2⟩]
      show (forIn (List.range' (j + 1) k) (found, free) (StrLaws.occBody (txt tx) (one c) hi lim)).run.fst.toList = _
      rw [occ_loop tx c lim hi k (j + 1) found free (by omega), List.filter_cons, if_neg hp']
theorem occ_one (tx : List Nat) (c lim : Nat) : Builtin.Str.occurrences (txt tx) (one c) 0 (txt tx).length lim = ((List.range tx.length).filter fun i => tx[i]? = some c).take lim := by
  rw [StrLaws.occ_eq, occ_loop tx c lim _ _ 0 #[] 0 (Nat.le_refl _), txt_len]
  simp only [List.nil_append, Nat.sub_zero, List.size_toArray, List.length_nil, Array.toList_empty, Array.size_empty]
  congr 1
  rw [List.range'_eq_map_range, show (0 + ·) = (fun x => x : Nat → Nat) by funext x; omega, List.map_id', List.range_succ, List.filter_append]
  have e1 : (List.filter (fun i => decide (i + 1 ≤ tx.length) && decide (tx[i]? = some c)) [tx.length]) = [] := by simp
  rw [e1, List.append_nil]
  refine List.filter_congr fun i hi => ?_
  have := List.mem_range.mp hi
  simp; omega
theorem count_filter (tx : List Nat) (c : Nat) : ((List.range tx.length).filter fun i => decide (tx[i]? = some c)).length = tx.count c := by
  induction tx with
  | nil => rfl
  | cons x tx ih =>
    rw [List.length_cons, List.range_succ_eq_map, List.filter_cons, List.filter_map, List.count_cons, ← ih]
    have e : ((fun i => decide ((x :: tx)[i]? = some c)) ∘ Nat.succ) = fun i => decide (tx[i]? = some c) := by funext i; simp
    rw [e]
    by_cases h : x = c
    · simp [h]
    · simp [h]
theorem in_one (tx : List Nat) (c : Nat) : (!(Builtin.Str.occurrences (txt tx) (one c) 0 (txt tx).length 1).isEmpty) = decide (c ∈ tx) := by
  rw [occ_one]
  have hc := count_filter tx c
  by_cases h : c ∈ tx
  · have : 0 < tx.count c := List.count_pos_iff.mpr h
    cases hf : (List.range tx.length).filter fun i => decide (tx[i]? = some c) with
    | nil => rw [hf] at hc; simp at hc; omega
    | cons a l => simp [h]
  · have : tx.count c = 0 := List.count_eq_zero.mpr h
    rw [this] at hc
    rw [List.length_eq_zero_iff.mp hc]
    simp [h]
theorem nin_one (tx : List Nat) (c : Nat) : (Builtin.Str.occurrences (txt tx) (one c) 0 (txt tx).length 1).isEmpty = decide (c ∉ tx) := by
  have h := in_one tx c
  cases q : (Builtin.Str.occurrences (txt tx) (one c) 0 (txt tx).length 1).isEmpty <;> rw [q] at h <;> simp at h ⊢ <;> exact h
theorem count_one (tx : List Nat) (c : Nat) : (Builtin.Str.occurrences (txt tx) (one c) 0 (txt tx).length ((txt tx).length + 1)).length = tx.count c := by
  rw [occ_one, List.take_of_length_le (by rw [count_filter, txt_len]; exact Nat.le_succ_of_le List.count_le_length), count_filter]
end Mine
end
section
open PySem PySem.W PyProof.Rows PySem.Calls
set_option Elab.async false
set_option maxRecDepth 100000
set_option autoImplicit false
set_option linter.unusedVariables false
namespace Mine
theorem Et.eq {c : Cx} {V : List (Option D)} {M : List Own} {e : Expr} {b b' : Bool} (h : Et c V M e b) (q : b = b') : Et c V M e b' := q ▸ h
noncomputable abbrev dW (W : List (List Nat)) : D := .list (W.map fun t => .str (txt t))
noncomputable abbrev dP (P : List (List UInt8)) : D := .list (P.map .bytes)
theorem getW {W : List (List Nat)} {k : Nat} (h : k < W.length) : (W.map fun t => D.str (txt t))[((k : Nat) : Int).toNat]? = some (.str (txt (W.getD k []))) := by
  rw [Int.toNat_natCast]; simp [h]
theorem getP {P : List (List UInt8)} {k : Nat} (h : k < P.length) : (P.map D.bytes)[((k : Nat) : Int).toNat]? = some (.bytes (P.getD k [])) := by
  rw [Int.toNat_natCast]; simp [h]
theorem rng_nat (n : Nat) : rng 0 1 n = (List.range n).map fun k => D.int (k : Nat) := by
  unfold rng; refine List.map_congr_left fun i _ => ?_; simp

theorem c_line {w : World} {N : Nat} {c : Nat} {W : List (List Nat)} {P : List (List UInt8)} {wide : Bool} (hW : W.length ≤ 100000) (hP : P.length = W.length) (ht : ∀ t ∈ W, t.length ≤ 100000) (hp : ∀ p ∈ P, p.length ≤ 100000) :
    Fun (KK w) w N 1 (.ref 133) [.str (one c), dW W, dP P, .bool wide] (vD wide (lineT wide c W P)) := by
  have htk : ∀ k, (W.getD k []).length ≤ 100000 := fun k => by
    by_cases h : k < W.length
    · rw [show W.getD k [] = W[k] by simp [h]]; exact ht _ (List.getElem_mem _)
    · rw [show W.getD k [] = [] by simp [List.getElem?_eq_none (Nat.not_lt.mp h)]]; simp
  have hpk : ∀ k, (P.getD k []).length ≤ 100000 := fun k => by
    by_cases h : k < P.length
    · rw [show P.getD k [] = P[k] by simp [h]]; exact hp _ (List.getElem_mem _)
    · rw [show P.getD k [] = [] by simp [List.getElem?_eq_none (Nat.not_lt.mp h)]]; simp
  have hmem : ∀ k ∈ hav c W, k < W.length := fun k hk => List.mem_range.mp (List.mem_filter.mp hk).1
  have hlen : (hav c W).length ≤ W.length := by unfold hav; have := List.length_filter_le (fun k => decide (c ∈ W.getD k [])) (List.range W.length); simpa using this
  refine fun_plain (ns := ["sign", "writings", "pieces", "wide", "having", "often", "places", "k", "place"]) rfl rfl rfl rfl rfl rfl (by kernel_rfl) rfl rfl rfl (by kernel_rfl) (Nat.le_of_ble_eq_true rfl) (of_len4 fun v1 v2 v3 v4 => rfl) fun A L s₀ σ₀ => ?_
  obtain ⟨hs1, hs2⟩ := rsmall W.length (by omega)
  refine xs_lc (outs := (hav c W).map fun k => .int (k : Nat)) 4 rfl (lc_name (fns := ["sign", "writings"]) (List.range W.length) (fun k => .int (k : Nat)) (fun k => decide (c ∈ W.getD k [])) (fun k => .int (k : Nat)) rfl (by kernel_rfl) (.cons rfl (.cons rfl .nil))
    (.cons 0 rfl rfl rfl rfl (.inl rfl) (.cons 1 rfl rfl rfl rfl (.inl rfl) .nil))
    (ev_call (ev_blt rfl (g_range w) b_range) .typ (.cons rfl ((ev_call (ev_blt rfl (g_len w) b_len) .blt (.cons rfl (ev_var 1 rfl rfl) .nil) (fun_len_list (by rw [List.length_map]; omega)) (Nat.zero_le _)).eq (d' := .int (W.length : Nat)) (by rw [List.length_map])) .nil) fun_range1 (Nat.zero_le _))
    (fun C s₀ σ₀ => (iters_range W.length hs1 hs2).eq (rng_nat _)) (fun C s₀ σ₀ M' k hk => ets_one ((et_cmp (ev_var 1 rfl rfl) (ev_sub (ev_var 2 rfl rfl) (ev_var 0 rfl rfl) rfl slot_list_getitem.lookup (p2_getlist (by omega) (getW (List.mem_range.mp hk)) (by rw [List.length_map]; omega))) p2_instr tru_bool).eq (in_one _ _)))
    (fun C s₀ σ₀ M' k hk _ => ev_var 0 rfl rfl) (by simp; omega)) ?_
  refine xs_assign 5 rfl (d := .int ((hav c W).map fun k => ((W.getD k []).count c : Int)).sum) (ev_call (ev_blt rfl (g_sum w) b_sum) .blt (.cons rfl ((ev_lc (lc_name (fns := ["writings", "sign"]) (hav c W) (fun k => .int (k : Nat)) (fun _ => true) (fun k => .int ((W.getD k []).count c : Nat)) rfl (by kernel_rfl) (.cons rfl (.cons rfl .nil))
    (.cons 1 rfl rfl rfl rfl (.inl rfl) (.cons 0 rfl rfl rfl rfl (.inl rfl) .nil)) (ev_var 4 rfl rfl) (fun C s₀ σ₀ => iters_list) (fun C s₀ σ₀ M' k hk => ets_nil) (fun C s₀ σ₀ M' k hk _ => ?_) (by omega))).eq (d' := .list (nums ((hav c W).map fun k => ((W.getD k []).count c : Int)))) ?_) .nil) fun_sum_list (Nat.zero_le _)) ?_
  · exact (ev_method (ev_sub (ev_var 1 rfl rfl) (ev_var 0 rfl rfl) rfl slot_list_getitem.lookup (p2_getlist (by omega) (getW (hmem k hk)) (by rw [List.length_map]; omega))) rfl rfl PySem.F.plainAttrs_str PySem.F.slot_str_count PySem.F.type_str_count (.cons rfl (ev_var 2 rfl rfl) .nil) (fun_count (k := 0)) (Nat.zero_le _)).eq (by rw [count_one])
  · rw [List.filter_eq_self.mpr (by simp)]; unfold nums; rw [List.map_map]; rfl
  generalize hoft : ((hav c W).map fun k => ((W.getD k []).count c : Int)).sum = oft
  refine xs_if (Φ₁ := fun V M => wide = true ∧ V = [some (.str (one c)), some (dW W), some (dP P), some (.bool wide), some (.list ((hav c W).map fun k => .int (k : Nat))), some (.int oft), none, none, none] ∧ M = []) (et_not (et_val (ev_var 3 rfl rfl) tru_bool)) (fun h => ?_) (fun h => xs_nil ⟨by simpa using h, rfl, rfl⟩) fun V M hI => ?_
  · have hw : wide = false := by simpa using h
    subst hw
    exact xs_ret ((ev_var 5 rfl rfl).eq (by rw [← hoft]; rfl)) fun _ _ r => r
  obtain ⟨rfl, rfl, rfl⟩ := hI
  refine xs_assign 6 rfl ev_int ?_
  refine xs_for (fun i V M => ∃ x y, V = [some (.str (one c)), some (dW W), some (dP P), some (.bool true), some (.list ((hav c W).map fun k => .int (k : Nat))), some (.int oft), some (.int (((hav c W).take i).map fun k => plc c (W.getD k [])).sum), x, y] ∧ M = []) (ev_var 4 rfl rfl) iters_list ⟨none, none, rfl, rfl⟩ (fun i dd V M o hd hI => ?_) fun V M hI => ?_
  · obtain ⟨x, y, rfl, rfl⟩ := hI
    obtain ⟨hi, hd'⟩ := List.getElem?_eq_some_iff.mp hd
    have hi' : i < (hav c W).length := by simpa using hi
    have hdd : dd = .int ((hav c W)[i] : Nat) := by rw [← hd']; simp
    subst hdd
    have hk := hmem _ (List.getElem_mem hi')
    have etake : (hav c W).take (i + 1) = (hav c W).take i ++ [(hav c W)[i]] := by rw [List.take_add_one, List.getElem?_eq_getElem hi']; rfl
    rw [etake, List.map_append, List.sum_append]
    generalize (hav c W)[i] = k at *
    generalize (((hav c W).take i).map fun k => plc c (W.getD k [])).sum = base
    have htl := htk k
    have lt := txt_len (W.getD k [])
    obtain ⟨hr1, hr2⟩ := rsmall (W.getD k []).length (by omega)
    refine ⟨_, asg_name 7 rfl, ?_⟩
    refine xs_for (fun j V M => ∃ y, V = [some (.str (one c)), some (dW W), some (dP P), some (.bool true), some (.list ((hav c W).map fun k => .int (k : Nat))), some (.int oft), some (.int (base + plcN c (W.getD k []) j)), some (.int (k : Nat)), y] ∧ M = [o])
      (ev_call (ev_blt rfl (g_range w) b_range) .typ (.cons rfl ((ev_call (ev_blt rfl (g_len w) b_len) .blt (.cons rfl (ev_sub (ev_var 1 rfl rfl) (ev_var 7 rfl rfl) rfl slot_list_getitem.lookup (p2_getlist (by omega) (getW hk) (by rw [List.length_map]; omega))) .nil) (fun_len_str (by omega)) (Nat.zero_le _)).eq (d' := .int ((W.getD k []).length : Nat)) (by rw [lt])) .nil) fun_range1 (Nat.zero_le _))
      ((iters_range (W.getD k []).length hr1 hr2).eq (rng_nat _)) ⟨y, by simp [plcN], rfl⟩ (fun j dd V M o' hd hI => ?_) fun V M hI => ?_
    · obtain ⟨y, rfl, rfl⟩ := hI
      obtain ⟨hj, hd''⟩ := List.getElem?_eq_some_iff.mp hd
      have hj' : j < (W.getD k []).length := by simpa using hj
      have hdd : dd = .int (j : Nat) := by rw [← hd'']; simp
      subst hdd
      have hc : (txt (W.getD k [])).cps[((j : Nat) : Int).toNat]? = some ((W.getD k [])[j]) := by rw [Int.toNat_natCast]; show (W.getD k []).toArray[j]? = _; simp [hj']
      have hstep : plcN c (W.getD k []) (j + 1) = plcN c (W.getD k []) j + if (W.getD k [])[j] = c then (j : Int) else 0 := by
        show _ + (if (W.getD k [])[j]? = some c then (j : Int) else 0) = _
        rw [List.getElem?_eq_getElem hj']; simp
      have hgw := getW hk
      generalize W.getD k [] = t at *
      refine ⟨_, asg_name 8 rfl, ?_⟩
      refine xs_if (Φ₁ := fun V M => ∃ M'', M = o' :: M'' ∧ ∃ y, V = [some (.str (one c)), some (dW W), some (dP P), some (.bool true), some (.list ((hav c W).map fun k => .int (k : Nat))), some (.int oft), some (.int (base + plcN c t (j + 1))), some (.int (k : Nat)), y] ∧ M'' = [o])
        (et_cmp (ev_sub (ev_sub (ev_var 1 rfl rfl) (ev_var 7 rfl rfl) rfl slot_list_getitem.lookup (p2_getlist (d := .str (txt t)) (by omega) hgw (by rw [List.length_map]; omega))) (ev_var 8 rfl rfl) rfl PySem.F.slot_str_getitem.lookup (p2_getstr (by omega) hc (by omega))) (ev_var 0 rfl rfl) p2_eqstr tru_bool) (fun h => ?_) (fun h => ?_) fun V M hI => xs_nil hI
      · have he : t[j] = c := one_inj (eq_of_beq h)
        refine xs_assign 6 rfl (d := .int (base + plcN c t (j + 1))) ((ev_binop (ev_var 6 rfl rfl) (ev_var 8 rfl rfl) p2_add).eq (by rw [hstep, if_pos he, Int.add_assoc])) ?_
        exact xs_nil ⟨_, rfl, _, rfl, rfl⟩
      · have he : t[j] ≠ c := fun q => by rw [q] at h; simp at h
        refine xs_nil ⟨_, rfl, some (.int (j : Nat)), ?_, rfl⟩
        rw [hstep, if_neg he, Int.add_zero]; rfl
    · obtain ⟨y, rfl, rfl⟩ := hI
      refine xs_nil ⟨_, rfl, some (.int (k : Nat)), y, ?_, rfl⟩
      simp [plc]
  · obtain ⟨x, y, rfl, rfl⟩ := hI
    have hl2 : ((hav c W).map fun k => D.int (k : Nat)).length = (hav c W).length := by simp
    rw [hl2, List.take_length]
    refine xs_ret ((ev_tuple (.cons rfl (ev_var 5 rfl rfl) (.cons rfl (ev_var 6 rfl rfl) (.cons rfl (ev_call (ev_blt rfl (g_sum w) b_sum) .blt (.cons rfl ((ev_lc (lc_name (fns := ["pieces"]) (hav c W) (fun k => .int (k : Nat)) (fun _ => true) (fun k => .int ((P.getD k []).length : Nat)) rfl (by kernel_rfl) (.cons rfl .nil)
      (.cons 2 rfl rfl rfl rfl (.inl rfl) .nil) (ev_var 4 rfl rfl) (fun C s₀ σ₀ => iters_list) (fun C s₀ σ₀ M' k hk => ets_nil) (fun C s₀ σ₀ M' k hk _ => ?_) (by omega))).eq (d' := .list (nums ((hav c W).map fun k => ((P.getD k []).length : Int)))) ?_) .nil) fun_sum_list (Nat.zero_le _))
      (.cons rfl (ev_call (ev_blt rfl (g_len w) b_len) .blt (.cons rfl (ev_var 4 rfl rfl) .nil) (fun_len_list (by rw [hl2]; omega)) (Nat.zero_le _)) .nil))))).eq ?_) fun _ _ r => r
    · exact ev_call (ev_blt rfl (g_len w) b_len) .blt (.cons rfl (ev_sub (ev_var 1 rfl rfl) (ev_var 0 rfl rfl) rfl slot_list_getitem.lookup (p2_getlist (by omega) (getP (hP ▸ hmem k hk)) (by rw [List.length_map]; omega))) .nil) (fun_len_bytes (by have := hpk k; omega)) (Nat.zero_le _)
    · rw [List.filter_eq_self.mpr (by simp)]; unfold nums; rw [List.map_map]; rfl
    · rw [hl2, ← hoft]; rfl
end Mine
end
section
open PySem PySem.W PyProof.Rows PySem.Calls
set_option Elab.async false
set_option maxRecDepth 100000
set_option autoImplicit false
set_option linter.unusedVariables false
namespace Mine
theorem join_txt (W : List (List Nat)) : Txt.join "" (W.map txt) = txt W.flatten := by
  unfold Txt.join Builtin.Str.glued
  have gen : ∀ (W : List (List Nat)) (acc : Array Nat), (W.map txt).foldl (fun acc (p : Str) => acc ++ (Str.ofString "").cps ++ p.cps) acc = acc ++ W.flatten.toArray := by
    intro W
    induction W with
    | nil => intro acc; simp
    | cons t W ih =>
      intro acc
      rw [List.map_cons, List.foldl_cons, ih]
      apply Array.toList_inj.mp
      have : (Str.ofString "").cps = #[] := by decide
      simp [this]
  cases W with
  | nil => rfl
  | cons t W =>
    show (⟨(W.map txt).foldl _ t.toArray⟩ : Str) = _
    rw [gen]
    show (⟨_⟩ : Str) = ⟨_⟩
    congr 1
    simp
noncomputable abbrev dL (wide : Bool) (t : Tab) : D := .list (t.map fun kv => .tup [.str (one kv.1), vD wide kv.2])
theorem sum_len (W : List (List Nat)) : ((W.map txt).map (·.length)).sum = W.flatten.length := by
  rw [List.map_map, List.length_flatten]
  congr 1
theorem c_ledger {w : World} {N : Nat} {W : List (List Nat)} {P : List (List UInt8)} {wide : Bool} (hW : W.length ≤ 10000) (hP : P.length = W.length) (hf : W.flatten.length ≤ 100000) (ht : ∀ t ∈ W, t.length ≤ 100000) (hp : ∀ p ∈ P, p.length ≤ 100000) :
    Fun (KK w) w N 2 (.ref 140) [dW W, dP P, .bool wide] (dL wide (ledgerT wide W P)) := by
  refine fun_plain (ns := ["writings", "pieces", "wide", "ledger", "seen", "sign"]) rfl rfl rfl rfl rfl rfl (by kernel_rfl) rfl rfl rfl (by kernel_rfl) (Nat.le_of_ble_eq_true rfl) (of_len3 fun v1 v2 v3 => rfl) fun A L s₀ σ₀ => ?_
  refine xs_newlist 3 rfl fun a => ?_
  refine xs_assign 4 rfl (d := .str (txt [])) (ev_str.eq (congrArg D.str rfl)) ?_
  refine xs_for (fun i V M => ∃ x, V = [some (dW W), some (dP P), some (.bool wide), some (.val (.ref a)), some (.str (txt (firsts (W.flatten.take i)))), x] ∧ M = [⟨a, ol w ((firsts (W.flatten.take i)).map fun c => .tup [.str (one c), vD wide (lineT wide c W P)])⟩])
    (d := .str (txt W.flatten)) (ds := W.flatten.map fun c => .str (one c)) ((ev_method ev_str rfl rfl PySem.F.plainAttrs_str PySem.F.slot_str_join PySem.F.type_str_join (.cons rfl ((ev_var 0 rfl rfl).eq (d' := .list ((W.map txt).map .str)) (by rw [List.map_map]; rfl)) .nil) (fun_sjoin (k := 0) (by rw [sum_len, List.length_map]; omega)) (Nat.zero_le _)).eq (by rw [join_txt])) iters_str ⟨none, rfl, rfl⟩ (fun i dd V M o hd hI => ?_) fun V M hI => ?_
  · obtain ⟨x, rfl, rfl⟩ := hI
    obtain ⟨hi, hd'⟩ := List.getElem?_eq_some_iff.mp hd
    have hi' : i < W.flatten.length := by rw [List.length_map] at hi; exact hi
    have hdd : dd = .str (one (W.flatten[i])) := by rw [← hd', List.getElem_map]
    subst hdd
    have etake : W.flatten.take (i + 1) = W.flatten.take i ++ [W.flatten[i]] := by rw [List.take_add_one, List.getElem?_eq_getElem hi']; rfl
    have hfl := firsts_len (W.flatten.take i)
    rw [List.length_take] at hfl
    rw [etake, firsts_snoc]
    generalize W.flatten[i] = c at *
    generalize firsts (W.flatten.take i) = sn at *
    have lsn := txt_len sn
    refine ⟨_, asg_name 5 rfl, ?_⟩
    refine xs_if (Φ₁ := fun V M => ∃ M'', M = o :: M'' ∧ ∃ x, V = [some (dW W), some (dP P), some (.bool wide), some (.val (.ref a)), some (.str (txt (seenStep sn c))), x] ∧ M'' = [⟨a, ol w ((seenStep sn c).map fun c => .tup [.str (one c), vD wide (lineT wide c W P)])⟩])
      ((et_cmp (ev_var 5 rfl rfl) (ev_var 4 rfl rfl) p2_ninstr tru_bool).eq (nin_one sn c)) (fun h => ?_) (fun h => ?_) fun V M hI => xs_nil hI
    · have hn : c ∉ sn := of_decide_eq_true h
      unfold seenStep
      rw [if_neg hn]
      refine xs_assign 4 rfl (d := .str (txt (sn ++ [c]))) ((ev_binop (ev_var 4 rfl rfl) (ev_var 5 rfl rfl) (p2_addstr (by rw [lsn]; show _ + 1 ≤ _; omega))).eq (congrArg D.str (txt_app sn [c]))) ?_
      refine xs_append (d := .tup [.str (one c), vD wide (lineT wide c W P)]) 3 1 rfl rfl rfl rfl (ev_tuple (.cons rfl (ev_var 5 rfl rfl) (.cons rfl (ev_call (ev_glob rfl (g_law_line w)) (.fn rfl rfl) (.cons rfl (ev_var 5 rfl rfl) (.cons rfl (ev_var 0 rfl rfl) (.cons rfl (ev_var 1 rfl rfl) (.cons rfl (ev_var 2 rfl rfl) .nil)))) (c_line (by omega) hP ht hp) (Nat.le_refl _)) .nil))) (by rw [List.length_map, sizeLine_eq]; omega) ?_
      refine xs_nil ⟨_, rfl, _, rfl, ?_⟩
      rw [List.map_append]; rfl
    · have hn : c ∈ sn := by simpa using h
      unfold seenStep
      rw [if_pos hn]
      exact xs_nil ⟨_, rfl, _, rfl, rfl⟩
  · obtain ⟨x, rfl, rfl⟩ := hI
    have hl2 : (W.flatten.map fun c => D.str (one c)).length = W.flatten.length := List.length_map _
    rw [hl2, List.take_length]
    refine xs_freeze_list 3 0 rfl rfl ?_
    refine xs_ret ((ev_var 3 rfl rfl).eq ?_) fun _ _ r => r
    unfold dL ledgerT
    rw [List.map_map]
    rfl

theorem c_often {w : World} {N : Nat} {n1 n2 n3 n4 : Int} {t : Tab} {wide : Bool} (hl : t.length ≤ 100000) (hne : wide = true → ∀ kv ∈ t, kv.2.length = 4) :
    Fun (KK w) w N 1 (.ref 159) [.tup [.int n1, .int n2, .int n3, .int n4, .dict (tabD wide t)], .bool wide] (.list (t.map fun kv => .tup [.str (one kv.1), .int (kv.2.headD 0)])) := by
  refine fun_plain (ns := ["total", "wide"]) rfl rfl rfl rfl rfl rfl (by kernel_rfl) rfl rfl rfl (by kernel_rfl) (Nat.le_of_ble_eq_true rfl) (of_len2 fun v1 v2 => rfl) fun A L s₀ σ₀ => ?_
  refine xs_ret ((ev_lc (lc_pair (fns := ["wide"]) t (fun kv => .str (one kv.1)) (fun kv => vD wide kv.2) (fun _ => true) (fun kv => .tup [.str (one kv.1), .int (kv.2.headD 0)]) rfl (by kernel_rfl) (.cons rfl .nil) (.cons 1 rfl rfl rfl rfl (.inl rfl) .nil)
    (ev_method (ev_sub (ev_var 0 rfl rfl) ev_int rfl slot_tuple_getitem.lookup (p2_gettup (i := 4) rfl (Nat.le_of_ble_eq_true rfl))) rfl rfl PySem.F.plainAttrs_dict PySem.F.slot_dict_items PySem.F.type_dict_items .nil (fun_items (k := 0)) (Nat.zero_le _))
    (fun C s₀ σ₀ => iters_items.eq (by rw [List.map_map]; rfl)) (fun C s₀ σ₀ M' kv hk => ets_nil) (fun C s₀ σ₀ M' kv hk _ => ?_) (by omega))).eq (by rw [List.filter_eq_self.mpr (by simp)])) fun _ _ r => r
  refine ev_tuple (.cons rfl (ev_var 0 rfl rfl) (.cons rfl (ev_ifexp (et_val (ev_var 2 rfl rfl) tru_bool) (fun h => ?_) (fun h => ?_)) .nil))
  · subst h
    have h4 := hne rfl kv hk
    exact ev_sub (ev_var 1 rfl rfl) ev_int rfl slot_tuple_getitem.lookup (p2_gettup (ds := nums kv.2) (i := 0) (by cases h : kv.2 with | nil => rw [h] at h4; cases h4 | cons x xs => rfl) (by rw [List.length_map, h4]; decide))
  · subst h
    exact ev_var 1 rfl rfl

theorem c_count {w : World} {N : Nat} {t : Tab} : Fun (KK w) w N 1 (.ref 42) [.dict (tabD false t)] (.int (t.map fun kv => kv.2.headD 0).sum) := by
  refine fun_plain (ns := ["callers", "nc", "calls"]) rfl rfl rfl rfl rfl rfl (by kernel_rfl) rfl rfl rfl (by kernel_rfl) (Nat.le_of_ble_eq_true rfl) (of_len1 fun v1 => rfl) fun A L s₀ σ₀ => ?_
  refine xs_assign 1 rfl ev_int ?_
  refine xs_for (fun i V M => ∃ x, V = [some (.dict (tabD false t)), some (.int ((t.take i).map fun kv => kv.2.headD 0).sum), x] ∧ M = []) (ds := t.map fun kv => .int (kv.2.headD 0))
    (ev_method (ev_var 0 rfl rfl) rfl rfl PySem.F.plainAttrs_dict PySem.F.slot_dict_values PySem.F.type_dict_values .nil (fun_values (k := 0)) (Nat.zero_le _)) (iters_values.eq (by rw [List.map_map]; rfl)) ⟨none, rfl, rfl⟩ (fun i dd V M o hd hI => ?_) fun V M hI => ?_
  · obtain ⟨x, rfl, rfl⟩ := hI
    obtain ⟨hi, hd'⟩ := List.getElem?_eq_some_iff.mp hd
    have hi' : i < t.length := by simpa using hi
    have hdd : dd = .int (t[i].2.headD 0) := by rw [← hd']; simp
    subst hdd
    have etake : t.take (i + 1) = t.take i ++ [t[i]] := by rw [List.take_add_one, List.getElem?_eq_getElem hi']; rfl
    refine ⟨_, asg_name 2 rfl, ?_⟩
    refine xs_aug 1 rfl rfl (ev_var 2 rfl rfl) p2_iadd ?_
    refine xs_nil ⟨_, rfl, some (.int (t[i].2.headD 0)), ?_, rfl⟩
    rw [etake, List.map_append, List.sum_append]
    simp
  · obtain ⟨x, rfl, rfl⟩ := hI
    refine xs_ret ((ev_var 1 rfl rfl).eq ?_) fun _ _ r => r
    simp
end Mine
end
section
open PySem PySem.W PyProof.Rows PySem.Calls
set_option Elab.async false
set_option maxRecDepth 100000
set_option autoImplicit false
set_option linter.unusedVariables false
namespace Mine
theorem g_builtins (w : World) : Glo (KK w) "__builtins__" (some (.ref 4)) := glo_of (glo_ok w) (by kernel_rfl)
theorem look_tab (wide : Bool) (t : Tab) (c : Nat) : look (tabD wide t) (one c) = (gget t c).map (vD wide) := by
  induction t with
  | nil => rfl
  | cons kv t ih =>
    unfold look gget at ih ⊢
    simp only [List.map_cons, List.find?_cons, one_dec]
    cases decide (kv.1 = c) with
    | true => rfl
    | false => exact ih
theorem lay_tab (wide : Bool) (t : Tab) (c : Nat) (v : List Int) : lay (tabD wide t) (one c) (vD wide v) = tabD wide (gput t c v) := by
  unfold lay gput
  have e : ((tabD wide t).any fun kv => decide (kv.1 = one c)) = t.any fun kv => decide (kv.1 = c) := by
    rw [List.any_map]
    congr 1
    funext kv
    exact one_dec _ _
  rw [e]
  by_cases h : (t.any fun kv => decide (kv.1 = c)) = true
  · rw [if_pos h, if_pos h]
    unfold tabD
    rw [List.map_map, List.map_map]
    refine List.map_congr_left fun kv hkv => ?_
    simp only [Function.comp]
    by_cases hk : kv.1 = c
    · rw [if_pos (by rw [hk]), if_pos hk]
    · rw [if_neg fun e => hk (one_inj e), if_neg hk]
  · rw [if_neg h, if_neg h]
    unfold tabD
    rw [List.map_append]
    rfl
noncomputable abbrev wid (wide : Bool) : Nat := if wide then 4 else 1
theorem c_addc {w : World} {N : Nat} {t s : Tab} {wide : Bool} (hn : (t.map (·.1)).Nodup) (ht : ∀ kv ∈ t, kv.2.length = wid wide) (hs : ∀ kv ∈ s, kv.2.length = wid wide) (hl : t.length + s.length ≤ 1000000) :
    Fun (KK w) w N 1 (.ref 35) [.dict (tabD wide t), .dict (tabD wide s)] (.dict (tabD wide (merge t s))) := by
  refine fun_plain (ns := ["target", "source", "new_callers", "func", "caller"]) rfl rfl rfl rfl rfl rfl (by kernel_rfl) rfl rfl rfl (by kernel_rfl) (Nat.le_of_ble_eq_true rfl) (of_len2 fun v1 v2 => rfl) fun A L s₀ σ₀ => ?_
  refine xs_newdict 2 rfl fun a => ?_
  refine xs_for (fun i V M => ∃ x y, V = [some (.dict (tabD wide t)), some (.dict (tabD wide s)), some (.val (.ref a)), x, y] ∧ M = [⟨a, od w (tabD wide (t.take i))⟩]) (ds := t.map fun kv => .tup [.str (one kv.1), vD wide kv.2])
    (ev_method (ev_var 0 rfl rfl) rfl rfl PySem.F.plainAttrs_dict PySem.F.slot_dict_items PySem.F.type_dict_items .nil (fun_items (k := 0)) (Nat.zero_le _)) (iters_items.eq (by rw [List.map_map]; rfl)) ⟨none, none, rfl, rfl⟩ (fun i dd V M o hd hI => ?_) fun V M hI => ?_
  · obtain ⟨x, y, rfl, rfl⟩ := hI
    obtain ⟨hi, hd'⟩ := List.getElem?_eq_some_iff.mp hd
    have hi' : i < t.length := by simpa using hi
    have hdd : dd = .tup [.str (one t[i].1), vD wide t[i].2] := by rw [← hd']; simp
    subst hdd
    have hlt : (t.take i).length ≤ t.length := by rw [List.length_take]; omega
    refine ⟨_, asg_tup (.cons 3 rfl (.inl rfl) (.cons 4 rfl (.inl rfl) .nil)), ?_⟩
    refine xs_setown (kvs := tabD wide (t.take i)) (d := vD wide t[i].2) (y := one t[i].1) 2 1 rfl rfl rfl (ev_var 4 rfl rfl) (ev_var 3 rfl rfl) (by rw [List.length_map]; omega) ?_
    rw [lay_tab, gput_take hn hi']
    exact xs_nil ⟨_, rfl, _, _, rfl, rfl⟩
  · obtain ⟨x, y, rfl, rfl⟩ := hI
    rw [List.length_map, List.take_length]
    refine xs_for (fun i V M => ∃ x y, V = [some (.dict (tabD wide t)), some (.dict (tabD wide s)), some (.val (.ref a)), x, y] ∧ M = [⟨a, od w (tabD wide (merge t (s.take i)))⟩]) (ds := s.map fun kv => .tup [.str (one kv.1), vD wide kv.2])
      (ev_method (ev_var 1 rfl rfl) rfl rfl PySem.F.plainAttrs_dict PySem.F.slot_dict_items PySem.F.type_dict_items .nil (fun_items (k := 0)) (Nat.zero_le _)) (iters_items.eq (by rw [List.map_map]; rfl)) ⟨x, y, rfl, rfl⟩ (fun i dd V M o hd hI => ?_) fun V M hI => ?_
    · obtain ⟨x, y, rfl, rfl⟩ := hI
      obtain ⟨hi, hd'⟩ := List.getElem?_eq_some_iff.mp hd
      have hi' : i < s.length := by simpa using hi
      have hdd : dd = .tup [.str (one s[i].1), vD wide s[i].2] := by rw [← hd']; simp
      subst hdd
      have etake : s.take (i + 1) = s.take i ++ [s[i]] := by rw [List.take_add_one, List.getElem?_eq_getElem hi']; rfl
      have hlen := merge_len t (s.take i)
      have hlt : (s.take i).length ≤ s.length := by rw [List.length_take]; omega
      have hrow := merge_rows (wid wide) t (s.take i) ht fun kv hkv => hs kv (List.mem_of_mem_take hkv)
      have hsi := hs s[i] (List.getElem_mem hi')
      rw [etake, merge_snoc]
      generalize merge t (s.take i) = acc at hlen hrow ⊢
      generalize s[i] = kv at hsi ⊢
      obtain ⟨k, v⟩ := kv
      have hk : look (tabD wide acc) (one k) = (gget acc k).map (vD wide) := look_tab wide acc k
      refine ⟨_, asg_tup (.cons 3 rfl (.inl rfl) (.cons 4 rfl (.inl rfl) .nil)), ?_⟩
      unfold mstep
      cases hg : gget acc k with
      | none =>
        rw [hg] at hk
        refine xs_if_e (Φ₁ := _) (et_inown (kvs := tabD wide acc) (y := one k) 2 1 rfl rfl rfl (ev_var 3 rfl rfl) (by rw [hk]; rfl)) (xs_setown (kvs := tabD wide acc) (d := vD wide v) (y := one k) 2 1 rfl rfl rfl (ev_var 4 rfl rfl) (ev_var 3 rfl rfl) (by rw [List.length_map]; omega) (xs_nil ?_)) fun V' M' h => xs_nil h
        rw [lay_tab]
        refine ⟨_, rfl, _, _, rfl, ?_⟩
        simp only [hg]
        rfl
      | some old =>
        rw [hg] at hk
        have hold := hrow _ (gget_mem hg)
        refine xs_if_t (Φ₁ := _) (et_inown (kvs := tabD wide acc) (y := one k) 2 1 rfl rfl rfl (ev_var 3 rfl rfl) (by rw [hk]; rfl)) ?_ fun V' M' h => xs_nil h
        cases wide with
        | true =>
          refine xs_if_t (Φ₁ := _) (et_val (ev_call (ev_blt rfl (g_isinstance w) b_isinstance) .blt (.cons rfl (ev_var 4 rfl rfl) (.cons rfl (ev_blt rfl (g_tuple w) b_tuple) .nil)) (fun_isi_tup (k := 0) (ds := nums v)) (Nat.zero_le _)) tru_bool) ?_ fun V' M' h => xs_nil h
          refine xs_setown (kvs := tabD true acc) (d := vD true (List.zipWith (· + ·) v old)) (y := one k) 2 1 rfl rfl rfl ?_ (ev_var 3 rfl rfl) (by rw [List.length_map]; omega) (xs_nil ?_)
          · refine ev_tzip (as := v) (bs := old) rfl (g_builtins w) (ev_blt rfl (g_tuple w) b_tuple) (ev_blt rfl (g_zip w) b_zip) (ev_var 4 rfl rfl) (ev_getown (kvs := tabD true acc) (y := one k) 2 1 rfl rfl rfl (ev_var 3 rfl rfl) hk) rfl rfl (hsi.trans hold.symm) ?_ rfl rfl ?_ rfl rfl rfl (by decide) rfl (by decide +kernel) (by decide +kernel)
            · have h4 : v.length = 4 := hsi
              omega
            · intro y hy
              simp only [List.mem_cons, List.not_mem_nil, or_false] at hy
              rcases hy with rfl | rfl | rfl <;> (intro e; cases e)
          · rw [lay_tab]
            refine ⟨_, rfl, _, _, rfl, ?_⟩
            simp only [hg]
            rfl
        | false =>
          refine xs_if_e (Φ₁ := _) (et_val (ev_call (ev_blt rfl (g_isinstance w) b_isinstance) .blt (.cons rfl (ev_var 4 rfl rfl) (.cons rfl (ev_blt rfl (g_tuple w) b_tuple) .nil)) (fun_isi_int (k := 0) (a := v.headD 0)) (Nat.zero_le _)) tru_bool) ?_ fun V' M' h => xs_nil h
          refine xs_augown (kvs := tabD false acc) (d0 := .int (old.headD 0)) (d1 := .int (v.headD 0)) (d := vD false (List.zipWith (· + ·) v old)) (y := one k) 2 1 rfl rfl rfl (ev_var 3 rfl rfl) hk (ev_var 4 rfl rfl) ?_ (by rw [List.length_map]; omega) (xs_nil ?_)
          · have h1 : v.length = 1 := hsi
            have h2 : old.length = 1 := hold
            match v, old, h1, h2 with
            | [p], [q], _, _ =>
              have e : vD false (List.zipWith (· + ·) [p] [q]) = .int (q + p) := congrArg D.int (Int.add_comm p q)
              rw [e]
              exact p2_iadd
          · rw [lay_tab]
            refine ⟨_, rfl, _, _, rfl, ?_⟩
            simp only [hg]
            rfl
    · obtain ⟨x, y, rfl, rfl⟩ := hI
      rw [List.length_map, List.take_length]
      refine xs_freeze_dict 2 0 rfl rfl ?_
      exact xs_ret (ev_var 2 rfl rfl) fun _ _ r => r

noncomputable abbrev entD (wide : Bool) (a b c d : Int) (t : Tab) : D := .tup [.int a, .int b, .int c, .int d, .dict (tabD wide t)]
theorem c_addf {w : World} {N : Nat} {t s : Tab} {wide : Bool} {a b c d a' b' c' d' : Int} (hn : (t.map (·.1)).Nodup) (ht : ∀ kv ∈ t, kv.2.length = wid wide) (hs : ∀ kv ∈ s, kv.2.length = wid wide) (hl : t.length + s.length ≤ 1000000) :
    Fun (KK w) w N 2 (.ref 28) [entD wide a b c d t, entD wide a' b' c' d' s] (entD wide (a' + a) (b' + b) (c' + c) (d' + d) (merge t s)) := by
  refine fun_plain (ns := ["target", "source", "cc", "nc", "tt", "ct", "callers", "t_cc", "t_nc", "t_tt", "t_ct", "t_callers"]) rfl rfl rfl rfl rfl rfl (by kernel_rfl) rfl rfl rfl (by kernel_rfl) (Nat.le_of_ble_eq_true rfl) (of_len2 fun v1 v2 => rfl) fun A L s₀ σ₀ => ?_
  refine xs_untup (ev_var 1 rfl rfl) (.cons 2 rfl (.inl rfl) (.cons 3 rfl (.inl rfl) (.cons 4 rfl (.inl rfl) (.cons 5 rfl (.inl rfl) (.cons 6 rfl (.inl rfl) .nil))))) ?_
  refine xs_untup (ev_var 0 rfl rfl) (.cons 7 rfl (.inl rfl) (.cons 8 rfl (.inl rfl) (.cons 9 rfl (.inl rfl) (.cons 10 rfl (.inl rfl) (.cons 11 rfl (.inl rfl) .nil))))) ?_
  have hc : Fun (KK w) w N 1 (.ref 35) [.dict (tabD wide t), .dict (tabD wide s)] (.dict (tabD wide (merge t s))) := c_addc hn ht hs hl
  show Xs _ [some (entD wide a b c d t), some (entD wide a' b' c' d' s), some (.int a'), some (.int b'), some (.int c'), some (.int d'), some (.dict (tabD wide s)), some (.int a), some (.int b), some (.int c), some (.int d), some (.dict (tabD wide t))] _ _ _ _
  refine xs_ret (ev_tuple (.cons rfl (ev_binop (ev_var 2 rfl rfl) (ev_var 7 rfl rfl) p2_add) (.cons rfl (ev_binop (ev_var 3 rfl rfl) (ev_var 8 rfl rfl) p2_add) (.cons rfl (ev_binop (ev_var 4 rfl rfl) (ev_var 9 rfl rfl) p2_add)
    (.cons rfl (ev_binop (ev_var 5 rfl rfl) (ev_var 10 rfl rfl) p2_add) (.cons rfl ?_ .nil)))))) fun _ _ r => r
  exact ev_call (k := 1) (ds := [.dict (tabD wide t), .dict (tabD wide s)]) (ev_glob rfl (g_add_callers w)) (.fn rfl rfl) (.cons rfl (ev_var 11 rfl rfl) (.cons rfl (ev_var 6 rfl rfl) .nil)) hc (Nat.le_refl _)
end Mine
end
section
open PySem PySem.W PyProof.Rows PySem.Calls
set_option Elab.async false
set_option maxRecDepth 100000
set_option autoImplicit false
set_option linter.unusedVariables false
namespace Mine
section
variable {c : Cx} {V : List (Option D)} {M : List Own}
theorem ev_nodict {pos : Pos} : Ev c V M (.Dict [] [] pos) (.dict []) := fun σ s Q E f q =>
  wpAny_Dict_empty (q _ _ _ (Step.push f.step.g (o := { cls := .type "dict", data := .dict #[] }) rfl cls_ne) (.dict put_self ⟨#[], 0, ⟨rfl, rfl, rfl⟩, rfl, fun _ he => by simp at he, .nil, .nil⟩ .nil))
end
theorem take_map_sum_le (ps : List (List UInt8)) (g : List UInt8 → Nat) (i : Nat) : ((ps.take i).map g).sum ≤ (ps.map g).sum := by
  conv => rhs; rw [← List.take_append_drop i ps, List.map_append, List.sum_append]
  omega
theorem c_total {w : World} {N : Nat} {ps : List (List UInt8)} {wide : Bool} {fa : Addr} {enc : List UInt8 → List UInt8} (hc : Callee (KK w) (.ref fa)) (hf : ∀ p ∈ ps, Fun (KK w) w N 4 (.ref fa) [.bytes p] (.bytes (enc p)))
    (ha : ∀ p ∈ ps, ∀ c ∈ enc p, c.toNat < 128) (hp : ∀ p ∈ ps, p.length ≤ 100000) (hl : (ps.map fun p => (enc p).length).sum ≤ 100000) :
    Fun (KK w) w N 5 (.ref 128) [.val (.ref fa), dP ps, .bool wide] (entD wide ps.length (lens enc ps) (octN ps) (tots ps) (tabs wide enc ps)) := by
  refine fun_plain (ns := ["write", "pieces", "wide", "total", "piece", "writing", "text", "entry"]) rfl rfl rfl rfl rfl rfl (by kernel_rfl) rfl rfl rfl (by kernel_rfl) (Nat.le_of_ble_eq_true rfl) (of_len3 fun v1 v2 v3 => rfl) fun A L s₀ σ₀ => ?_
  refine xs_assign 3 rfl (ev_tuple (.cons rfl ev_int (.cons rfl ev_int (.cons rfl ev_int (.cons rfl ev_int (.cons rfl ev_nodict .nil)))))) ?_
  refine xs_for (fun i V M => ∃ x1 x2 x3 x4, V = [some (.val (.ref fa)), some (dP ps), some (.bool wide), some (entD wide i (lens enc (ps.take i)) (octN (ps.take i)) (tots (ps.take i)) (tabs wide enc (ps.take i))), x1, x2, x3, x4] ∧ M = []) (ds := ps.map .bytes)
    (ev_var 1 rfl rfl) iters_list ⟨none, none, none, none, rfl, rfl⟩ (fun i dd V M o hd hI => ?_) fun V M hI => ?_
  · obtain ⟨x1, x2, x3, x4, rfl, rfl⟩ := hI
    obtain ⟨hi, hd'⟩ := List.getElem?_eq_some_iff.mp hd
    have hi' : i < ps.length := by simpa using hi
    have hdd : dd = .bytes ps[i] := by rw [← hd']; simp
    subst hdd
    have etake : ps.take (i + 1) = ps.take i ++ [ps[i]] := by rw [List.take_add_one, List.getElem?_eq_getElem hi']; rfl
    have hm : ps[i] ∈ ps := List.getElem_mem hi'
    have hfi := hf _ hm
    have hai := ha _ hm
    have hpi := hp _ hm
    obtain ⟨ok1, ok2⟩ := tabs_ok wide enc (ps.take i)
    have lt1 := tabs_len wide enc (ps.take i)
    have lt2 := take_map_sum_le ps (fun p => (enc p).length) (i + 1)
    rw [etake, List.map_append, List.sum_append] at lt2
    simp only [List.map_cons, List.map_nil, List.sum_cons, List.sum_nil] at lt2
    have lt3 := callers_len wide (nat8 (enc ps[i])) (ps[i].length : Int)
    rw [List.length_map] at lt3
    have hlw : (nat8 (enc ps[i])).length ≤ 100000 := by rw [List.length_map]; omega
    rw [etake, tabs_snoc, lens_snoc, octN_snoc, tots_snoc]
    generalize ps[i] = p at *
    refine ⟨_, asg_name 4 rfl, ?_⟩
    refine xs_assign 5 rfl (ev_call (ev_var 0 rfl rfl) hc (.cons rfl (ev_var 4 rfl rfl) .nil) hfi (Nat.le_refl _)) ?_
    refine xs_if_f (et_cmp (ev_call (ev_blt rfl (g_type w) b_type) .typ (.cons rfl (ev_var 5 rfl rfl) .nil) (fun_type rfl) (Nat.zero_le _)) (ev_blt rfl (g_bytes w) b_bytes) (p2_isnot (r := true)) tru_bool) ?_
    refine xs_assign 6 rfl (ev_method (ev_var 5 rfl rfl) rfl rfl FB.plainAttrs_bytes FB.slot_bytes_decode FB.type_bytes_decode (.cons rfl ev_str .nil) (fun_decode (k := 0) hai (by omega)) (Nat.zero_le _)) ?_
    refine xs_assign 7 rfl (ev_tuple (.cons rfl ev_int (.cons rfl ((ev_call (ev_blt rfl (g_len w) b_len) .blt (.cons rfl (ev_var 6 rfl rfl) .nil) (fun_len_str (x := txt (nat8 (enc p))) (by rw [txt_len]; omega)) (Nat.zero_le _)).eq (d' := .int ((enc p).length : Nat)) (by rw [txt_len, List.length_map]))
      (.cons rfl (ev_call (ev_blt rfl (g_len w) b_len) .blt (.cons rfl (ev_var 4 rfl rfl) .nil) (fun_len_bytes (by omega)) (Nat.zero_le _)) (.cons rfl (ev_call (ev_blt rfl (g_sum w) b_sum) .blt (.cons rfl (ev_var 4 rfl rfl) .nil) fun_sum_bytes (Nat.zero_le _))
        (.cons rfl (ev_call (ev_glob rfl (g_law_callers w)) (.fn rfl rfl) (.cons rfl (ev_var 6 rfl rfl) (.cons rfl (ev_call (ev_blt rfl (g_len w) b_len) .blt (.cons rfl (ev_var 4 rfl rfl) .nil) (fun_len_bytes (by omega)) (Nat.zero_le _)) (.cons rfl (ev_var 2 rfl rfl) .nil)))
          (c_callers (wide := wide) hlw) (Nat.le_of_ble_eq_true rfl)) .nil)))))) ?_
    refine xs_assign 3 rfl (ev_call (ev_glob rfl (g_add_func_stats w)) (.fn rfl rfl) (.cons rfl (ev_var 3 rfl rfl) (.cons rfl (ev_var 7 rfl rfl) .nil)) (c_addf (wide := wide) ok1 ok2 (callers_rows wide _ _) (show (tabs wide enc (ps.take i)).length + (callersT wide (nat8 (enc p)) (p.length : Int)).length ≤ 1000000 by omega)) (Nat.le_of_ble_eq_true rfl)) ?_
    refine xs_nil ⟨_, rfl, some (.bytes p), some (.bytes (enc p)), some (.str (txt (nat8 (enc p)))), some (entD wide 1 ((enc p).length : Nat) (p.length : Nat) (p.map fun c => (c.toNat : Int)).sum (callersT wide (nat8 (enc p)) (p.length : Int))), ?_, rfl⟩
    show [_, _, _, some (D.tup [_, _, _, _, _]), _, _, _, _] = [_, _, _, some (D.tup [_, _, _, _, _]), _, _, _, _]
    rw [Int.add_comm 1 (i : Int), Int.add_comm ((enc p).length : Int), Int.add_comm (p.length : Int), Int.add_comm _ (tots _)]
    rfl
  · obtain ⟨x1, x2, x3, x4, rfl, rfl⟩ := hI
    rw [List.length_map, List.take_length]
    exact xs_ret (ev_var 3 rfl rfl) fun _ _ r => r
end Mine
end
section
open PySem PySem.W PyProof.Rows PySem.Calls
set_option Elab.async false
set_option maxRecDepth 100000
set_option autoImplicit false
set_option linter.unusedVariables false
namespace Mine
/-- a call of a def, its exceptions looked at -/
theorem fun_genE {K : Frag} {w : World} {N k : Nat} {a : Addr} {o : Obj} {fd : FuncData} {body : List Stmt} {ns : List Str} {ds : List D} {σ : Sto} {s : Shared} {A : Around} {args : Args} {vs : List Value} {Q : Value → Shared → Prop} {E : Value → Shared → Prop}
    (ho : K.lookup a = some o) (hd : o.data = .func fd) (hb : fd.body = .stmts body) (hcl : fd.closure = []) (hgl : fd.globals = mainGlobals) (hbi : fd.builtins = builtinsNs) (hcode : codeIn K fd.code fd.qualname = true)
    (hco : fd.scope.isCoroutine = false) (hgen : fd.scope.isGenerator = false) (hk : fd.scope.kind = .function) (hlay : layOK fd.scope ns = true) (hlen : ds.length ≤ ns.length)
    (g : G K N σ s) (rm : Rm N A (k + 1) s.heap) (r : RepL w σ ds vs)
    (hbind : ∀ (Q' : List (Str × Value) → Shared → Prop) (E' : Value → Shared → Prop), Q' ((ns.take ds.length).zip vs) s → wpAny (model PR w) A.in1 (bindArgs fd args) Q' E' s)
    (h : ∀ L : Addr, s.heap.objs.size ≤ L → ∀ (Q' : Flow → Shared → Prop) (s₁ : Shared), F ⟨K, w, N, k, A.deeper (callEnvC fd L a), callEnvC fd L a, ns, true, s, σ⟩ (ds.map some ++ List.replicate (ns.length - ds.length) none) [] σ s₁ →
      (∀ v s', Q v s' → Q' (.ret v) s') →
      wpAny (model PR w) (A.deeper (callEnvC fd L a)) (execs body (callEnvC fd L a)) Q' (fun e s' => wpAny (model PR w) (A.deeper (callEnvC fd L a)) (leaving (callEnvC fd L a) e) (fun _ s'' => E e s'') (fun e' s'' => E e' s'') s') s₁) : wpAny (model PR w) A (call (.ref a) args.pos args.kw) Q E s := by
  obtain ⟨hnd, hns⟩ := lay_spec hlay
  have hX : K.In s.heap := fun b x e => (g.base.frag b x e).1
  have big := g.base.big
  have size := g.base.size
  refine wpAny_call (codeAny_call_function (by have := rm.depth; show A.depth < 1000; omega) (hX _ _ ho) hd hco hgen hb (codeRec_of hX hcode) ?_)
  refine hbind _ _ ?_
  rw [hcl]
  simp only [newFunctionEnv, Option.isSome_none, Bool.false_eq_true, if_false]
  refine wpAny_bind (wpAny_alloc ?_)
  refine wpAny_bind (wpAny_layCells _ (fun name kind cells => by cases hkc : kind == NameKind.cell <;> simp [hkc]) _ _ _ _ ?_)
  have ok := cellsFrom_ok fd.scope.names (s.heap.push { cls := .type "frame", data := .dict #[] }) (s.heap.objs.size + 1) [] ⟨fun _ _ hm => (nomatch hm), List.Pairwise.nil⟩ (by rw [Heap.size_push]; exact Nat.le_refl _)
  have ez : ({ s with heap := s.heap.push { cls := .type "frame", data := .dict #[] } } : Shared).heap.objs.size = s.heap.objs.size + 1 := Heap.size_push ..
  rw [Heap.size_push] at ok
  rw [ez]
  generalize hh : pushCells (s.heap.push { cls := .type "frame", data := .dict #[] }) fd.scope.names = h2 at ok
  have keep : ∀ b x, s.heap.get? b = some x → h2.get? b = some x := fun b x e => hh ▸ pushCells_keeps _ _ b x (Heap.get?_push_of_some _ e)
  have frame : h2.get? s.heap.objs.size = some { cls := .type "frame", data := .dict #[] } := hh ▸ pushCells_keeps _ _ _ _ (Heap.get?_push_size _ rfl)
  have fr : h2.Ns s.heap.objs.size fun _ => none := ⟨_, #[], 0, frame, rfl, fun _ he => by simp at he, fun _ => rfl⟩
  have hsz : s.heap.objs.size ≤ h2.objs.size := Nat.le_of_lt (Heap.lt_size frame)
  have g2 : Step K N σ s σ { s with heap := h2 } := ⟨⟨g.base.keep (.of_keep keep) (fun o e => keep _ _ e) hsz, fun x y e => ⟨keep _ _ (g.sto x y e).1, (g.sto x y e).2⟩, g.gens⟩, .of_keep keep, fun _ _ e => e, fun _ _ e => .inl e, hsz, rfl⟩
  have none' : ∀ b, s.heap.objs.size ≤ b → σ b = none := fun b hb' => by
    cases e : σ b with
    | none => rfl
    | some x => exact absurd (Heap.lt_size (g.sto b x e).1) (Nat.not_lt.mpr hb')
  have F0 : F ⟨K, w, N, k, A.deeper (callEnvC fd s.heap.objs.size a), callEnvC fd s.heap.objs.size a, ns, true, s, σ⟩ (List.replicate ns.length none) [] σ { s with heap := h2 } := by
    refine ⟨g2, ⟨?_, ?_, ?_, ?_⟩, hk, size, ⟨_, fr, fun i x d _ h2 _ => (lookupNone h2).elim⟩, ?_, hnd, fun x hx => ⟨(hns x hx).1, (hns x hx).2.1⟩, ?_, ⟨hgl, hbi⟩, ?_, fun x hx => (nomatch hx), ?_, fun x hx => (nomatch hx), ?_, ?_, .nil, fun x hx => (nomatch hx), fun x hx => (nomatch hx)⟩
    · have := rm.depth; show A.depth + 1 + k ≤ 900; omega
    · have := rm.units; show A.units + 3 + 100 * k ≤ 9000; omega
    · exact rm.handled
    · obtain ⟨l, hl, hf⟩ := rm.frames
      refine ⟨callEnvC fd s.heap.objs.size a :: l, by show A.frames.map _ = _; rw [hl]; rfl, fun env he => ?_⟩
      rcases List.mem_cons.mp he with rfl | he
      · exact ⟨hk, s.heap.objs.size, _, rfl, size, (fun q => by have : s.heap.objs.size = 30 := q; omega), frame, rfl, #[], 0, rfl⟩
      · obtain ⟨q1, L, o', q2, q3, q4, q5, q6, q7⟩ := hf env he
        exact ⟨q1, L, o', q2, q3, q4, keep _ _ q5, q6, q7⟩
    · intro i x hx hnl
      have hc : fd.scope.names.lookup x = some .cell := (hns x (List.mem_of_getElem? hx)).2.2.resolve_left hnl
      obtain ⟨b, hb'⟩ := Option.isSome_iff_exists.mp (cellsFrom_some (x := x) fd.scope.names (s.heap.objs.size + 1) [] (.inl hc))
      have hm := ok.empty x b (mem_of_lookup hb')
      exact ⟨.inl hc, b, none, hb', (fun q => by have q' : @Eq Nat b 30 := q; have q2 : s.heap.objs.size + 1 ≤ b := hm.2; omega), hm.1, fun d hd => (lookupNone hd).elim⟩
    · intro _ x hx hfr
      rcases (hns x hx).2.2 with q | q
      · have : (some NameKind.local) = some .free := q.symm.trans hfr; cases this
      · have : (some NameKind.cell) = some .free := q.symm.trans hfr; cases this
    · rintro b (rfl | ⟨_, x, _, hb'⟩ | ⟨p, hp⟩)
      · exact ⟨Nat.le_refl _, Heap.lt_size frame, none' _ (Nat.le_refl _), fun q => by have : s.heap.objs.size = 30 := q; omega⟩
      · have hm := ok.empty x b (mem_of_lookup hb')
        exact ⟨by show s.heap.objs.size ≤ b; omega, hm.1.lt, none' _ (by omega), fun q => by have q' : @Eq Nat b 30 := q; have q2 : s.heap.objs.size + 1 ≤ b := hm.2; omega⟩
      · cases hp
    · intro y b hb'; exact (ok.empty y b (mem_of_lookup hb')).1.lt
    · intro y b hb' q; have q2 : s.heap.objs.size + 1 ≤ b := (ok.empty y b (mem_of_lookup hb')).2; have q' : @Eq Nat b s.heap.objs.size := q; omega
    · intro x y b h1 h2; exact name_of_addr ok.apart (mem_of_lookup h1) (mem_of_lookup h2)
  refine wpAny_bind (bind_walk (c := ⟨K, w, N, k, A.deeper (callEnvC fd s.heap.objs.size a), callEnvC fd s.heap.objs.size a, ns, true, s, σ⟩) _ (fun _ _ _ => rfl) rfl ds (ns.take ds.length) vs _ 0 _ _ F0 r (by rw [List.length_take]; omega) (fun j x hx => ?_) (fun j _ h2 => ?_) ?_ fun s' f' => wpAny_pure ⟨f'.step.g.base.lim, codeAny_func ?_⟩)
  · rw [List.getElem?_take] at hx
    split at hx
    · rw [Nat.zero_add]; exact hx
    · cases hx
  · rw [List.length_replicate] at h2
    rw [List.getElem?_replicate, if_pos h2]
  · rw [List.length_replicate]; omega
  · simp only [List.take_zero, List.nil_append, Nat.zero_add, List.drop_replicate] at f'
    exact h s.heap.objs.size (Nat.le_refl _) _ s' f' fun v s'' q => q


theorem fills_tuple_no : fillsNumberSlot (.type "tuple") "add" = pure false := noFill_tuple_add
theorem seq_int_iadd : seqSlot? (.type "int") (dunderI "add") = pure none := by
  unfold seqSlot?
  rw [no_int_iadd]; rfl
theorem seq_int_add : seqSlot? (.type "int") "__add__" = pure none := by
  unfold seqSlot?
  rw [show typeLookup (.type "int") "__add__" = pure (some (.builtin "int.__add__")) from slot_int_add.lookup]
  with_unfolding_all rfl
theorem sub_tuple_int : isSubtype (.type "tuple") (.type "int") = pure false := by rw [isSubtype_type]; kernel_rfl
section
variable {w : World} {A : Around} {E : Value → Shared → Prop} {s : Shared}
theorem asInt_seq {x : Addr} {o : Obj} {items : Array Value} {n : Nat} {Q : Option Int → Shared → Prop} (ho : s.heap.get? x = some o) (hd : o.data = .seq items n) (h : Q none s) : wpAny (model PR w) A (asInt? (.ref x)) Q E s := by
  unfold asInt?
  refine wpAny_bind (wpAny_load ho ?_)
  rw [hd]
  exact wpAny_pure h
theorem call_add_tuple {a : Int} {t : Tok} {x : Addr} {o : Obj} {items : Array Value} {n : Nat} {Q : Value → Shared → Prop} (ho : s.heap.get? x = some o) (hd : o.data = .seq items n) (h : Q .notImplemented s) :
    wpAny (model PR w) A (call (.builtin "int.__add__") [.int a t, .ref x]) Q E s := by
  refine wpAny_call_entry PySem.slot_int_add (typeIs_int s a t) PySem.entry_int_add ?_ (PySem.args_int_add _ _)
  show wpAny (model PR w) A.in1 (asInt? (.ref x) >>= _) _ _ s
  refine wpAny_bind (asInt_seq ho hd ?_)
  show wpAny _ _ (do rule "int.binary.not-an-int"; ret .notImplemented) _ _ s
  exact wpAny_bind (wpAny_rule (wpAny_pure ⟨_, rfl, h⟩))
theorem add1_none {a : Int} {t : Tok} {x : Addr} {o : Obj} {items : Array Value} {n : Nat} {Q : Option Value → Shared → Prop} (hx : s.TypeIs (.ref x) "tuple") (ho : s.heap.get? x = some o) (hd : o.data = .seq items n) (h : Q none s) : wpAny (model PR w) A (binaryOp1 "add" (.int a t) (.ref x)) Q E s := by
  simp only [binaryOp1]
  refine wpAny_bind (wpAny_typeOf (typeIs_int s a t) (wpAny_bind (wpAny_typeOf hx (wpAny_bind (wpAny_of_eq fills_int_add ?_)))))
  have hne : (Value.type "int" == Value.type "tuple") = false := by decide +kernel
  simp only [hne, Bool.false_eq_true, if_false]
  refine wpAny_bind (wpAny_of_eq fills_tuple_no ?_)
  simp only [Bool.and_false, Bool.false_eq_true, if_false, Bool.false_and, pure_bind, if_true]
  refine wpAny_bind (m := tryMethod (.int a t) (dunder "add") (.ref x)) ?_
  refine wpAny_tryMethod_declines (self := .int a t) (other := .ref x) (T := "int") (name := dunder "add") (id := "int.__add__") ?_ ?_ ?_
  · exact typeIs_int s a t
  · exact PySem.slot_int_add
  refine call_add_tuple ho hd ⟨rfl, ?_⟩
  exact wpAny_pure h
theorem iadd_raises {a : Int} {t : Tok} {x : Addr} {o : Obj} {items : Array Value} {n : Nat} {Q : Value → Shared → Prop} (hx : s.TypeIs (.ref x) "tuple") (ho : s.heap.get? x = some o) (hd : o.data = .seq items n) (hh : A.handled = none)
    (h : ∀ h' tk e, Heap.NewExc s.heap h' e "TypeError" → E (.ref e) { s with heap := h', toks := tk }) : wpAny (model PR w) A (inplaceOp .Add (.int a t) (.ref x)) Q E s := by
  unfold inplaceOp
  refine wpAny_holding ?_
  have hfi : fillsInplaceSlot (.type "int") "add" (Operator.Add == .Add) = pure false := by
    unfold fillsInplaceSlot
    show (typeLookup (.type "int") (dunderI "add") >>= fun fi => pure (fi.isSome && !isSeqSlot fi)) = pure false
    rw [no_int_iadd]; rfl
  refine wpAny_bind (wpAny_typeOf (typeIs_int s a t) (wpAny_bind (wpAny_of_eq hfi ?_)))
  show wpAny _ A (if false = true then _ else _) Q E s
  rw [if_neg Bool.false_ne_true]
  refine wpAny_bind (add1_none hx ho hd ?_)
  refine wpAny_bind (wpAny_of_eq seq_int_iadd ?_)
  refine wpAny_bind (wpAny_of_eq seq_int_add ?_)
  show wpAny _ A (binopTypeError "+=" (.int a t) (.ref x)) Q E s
  unfold binopTypeError
  refine wpAny_bind (wpAny_rule (wpAny_bind (wpAny_typeNameOf' (typeIs_int s a t) (by decide) (wpAny_bind (wpAny_typeNameOf' hx (by decide) (wpAny_raiseTypeError hh h (by
    show (Str.ofString _).length ≤ sizeLine
    rw [PySem.ofString_length, sizeLine_eq]
    decide +kernel)))))))
end
end Mine
end
section
open PySem PySem.W PyProof.Rows PySem.Calls
set_option Elab.async false
set_option maxRecDepth 100000
set_option autoImplicit false
set_option linter.unusedVariables false
namespace Mine

/-- the frames that stand: made by the call, each a frame's dict -/
noncomputable def FrOK (N : Nat) (h : Heap) (Fs : List Addr) : Prop := ∀ b ∈ Fs, N ≤ b ∧ ∃ o, h.get? b = some o ∧ o.cls = .type "frame" ∧ ∃ es n, o.data = .dict es n
noncomputable def StkOK (N : Nat) (h : Heap) (l : List Env) : Prop := ∀ env ∈ l, env.scope.kind = .function ∧ ∃ L o, env.frame = some L ∧ N ≤ L ∧ L ≠ TP ∧ h.get? L = some o ∧ o.cls = .type "frame" ∧ ∃ es n, o.data = .dict es n

theorem stk_frames {N : Nat} {h : Heap} {l : List Env} (x : StkOK N h l) : FrOK N h (l.filterMap (·.frame)) := fun b hb => by
  obtain ⟨env, he, hf⟩ := List.mem_filterMap.mp hb
  obtain ⟨_, L, o, h1, h2, _, h4, h5⟩ := x env he
  rw [h1] at hf
  cases hf
  exact ⟨h2, o, h4, h5⟩
theorem stk_fun {N : Nat} {h : Heap} {Fs : List Addr} : ∀ {l : List Env}, StkOK N h l → (∀ env ∈ l, ∀ b, env.frame = some b → b ∈ Fs) → h.FunFrames (hideAll h Fs) l
  | [], _, _ => trivial
  | env :: l, x, hin => by
    obtain ⟨hk, L, o, h1, h2, _, h4, h5, es, n, h6⟩ := x env (.head _)
    refine ⟨by rw [hk]; decide, ⟨L, o, h1, hideAll_none _ (hin env (.head _) L h1), h4, fun vs q => by rw [h6] at q; cases q⟩, stk_fun (fun e he => x e (.tail _ he)) fun e he => hin e (.tail _ he)⟩

/-- a TypeError has come out of a call made at s; l: the frames that still stand -/
noncomputable def RaisedT (N : Nat) (l : List Env) (s : Shared) (e : Addr) (s' : Shared) : Prop :=
  ∃ (h : Heap) (Fs : List Addr) (a0 : Value), KP N s.heap h ∧ (∃ ps, h.IsCode TC TP ps ∧ h.TableAt TC TP ps) ∧ FrOK N h Fs ∧ Heap.FlyingW (hideAll h Fs) l e (.type "TypeError") a0 s'.heap ∧ h.UpToSlots s'.heap ∧ AllBare s'.gens ∧ s'.os = s.os

theorem RaisedT.back {N : Nat} {l : List Env} {s s1 s' : Shared} {e : Addr} (R : RaisedT N l s1 e s') (k : KP N s.heap s1.heap) (ho : s1.os = s.os) : RaisedT N l s e s' := by
  obtain ⟨h, Fs, a0, k', t, fr, fl, up, hg, ho'⟩ := R
  exact ⟨h, Fs, a0, k.trans k', t, fr, fl, up, hg, ho'.trans ho⟩

theorem kp_raised {N : Nat} {h0 h h' : Heap} {Fs : List Addr} (k : KP N h0 h) (fr : FrOK N h Fs) (st : (hideAll h Fs).StaysIn h') (up : h.UpToSlots h') : KP N h0 h' := fun b o e ne => by
  obtain ⟨o', e', r⟩ := k b o e ne
  by_cases hb : b ∈ Fs
  · obtain ⟨hN, o2, h1, h2, es, n, h3⟩ := fr b hb
    rw [e'] at h1
    cases h1
    obtain ⟨sl, hs⟩ := up b o' e' fun vs q => by rw [h3] at q; cases q
    rcases r with rfl | ⟨_, hc, sl', rfl⟩
    · exact ⟨_, hs, .inr ⟨hN, h2, sl, rfl⟩⟩
    · exact ⟨_, hs, .inr ⟨hN, hc, sl, rfl⟩⟩
  · exact ⟨o', st _ _ (hideAll_get _ e' hb), r⟩

theorem tab_raised {N : Nat} {h h' : Heap} {Fs : List Addr} (hN : 100 ≤ N) (fr : FrOK N h Fs) (st : (hideAll h Fs).StaysIn h') (t : ∃ ps, h.IsCode TC TP ps ∧ h.TableAt TC TP ps) : ∃ ps, h'.IsCode TC TP ps ∧ h'.TableAt TC TP ps := by
  have low : ∀ b o, @LT.lt Nat _ b 100 → h.get? b = some o → h'.get? b = some o := fun b o lt e => st _ _ (hideAll_get _ e fun hb => by
    have q : @LE.le Nat _ N b := (fr b hb).1
    omega)
  obtain ⟨ps', hcd', ⟨⟨o, vs, ho, hcl, hdv, h11⟩, hp⟩⟩ := t
  obtain ⟨o', vs', file, tf, flags, tg, inF, text, tt, op, i1, i2, i3, i4, i5, i6, i7, i8, i9⟩ := hcd'
  have l1 : @LT.lt Nat _ TC 100 := by decide
  have l2 : @LT.lt Nat _ TP 100 := by decide
  exact ⟨ps', ⟨o', vs', file, tf, flags, tg, inF, text, tt, op, low _ _ l1 i1, i2, i3, i4, i5, i6, i7, low _ _ l2 i8, i9⟩, ⟨o, vs, low _ _ l1 ho, hcl, hdv, h11⟩, low _ _ l2 hp⟩

theorem step_raised {K : Frag} {N : Nat} {σ : Sto} {s s' : Shared} (g : G K N σ s) {h : Heap} {Fs : List Addr} (k : KP N s.heap h) (t : ∃ ps, h.IsCode TC TP ps ∧ h.TableAt TC TP ps) (fr : FrOK N h Fs) (st : (hideAll h Fs).StaysIn s'.heap)
    (up : h.UpToSlots s'.heap) (hg : AllBare s'.gens) (ho : s'.os = s.os) (hsz : s.heap.objs.size ≤ s'.heap.objs.size) : Step K N σ s σ s' := by
  have kp := kp_raised k fr st up
  refine ⟨⟨g.base.kp kp (tab_raised g.base.big fr st t) hsz, fun a o e => ?_, hg⟩, kp, fun _ _ e => e, fun _ _ e => .inl e, hsz, ho⟩
  obtain ⟨h1, h2, h3⟩ := g.sto a o e
  exact ⟨kp.nofr h1 h2.1 h3, h2, h3⟩

/-- leaving the frame in which the error was made -/
theorem leave_made {N : Nat} {A : Around} {env : Env} {outer : List Env} {L e : Addr} {h : Heap} {s₀ s' : Shared} {Q : Unit → Shared → Prop} {E : Value → Shared → Prop} {M : Model}
    (hfr : A.frames = some (env :: outer)) (hf : env.frame = some L) (stk : StkOK N h (env :: outer)) (hx : Heap.NewExc h s'.heap e "TypeError") (k : KP N s₀.heap h) (t : ∃ ps, h.IsCode TC TP ps ∧ h.TableAt TC TP ps) (hg : AllBare s'.gens) (ho : s'.os = s₀.os)
    (hQ : ∀ s'', RaisedT N outer s₀ e s'' → Q () s'') : wpAny M A (leaving env (.ref e)) Q E s' := by
  obtain ⟨ob, tp, he, hcls, hd⟩ := hx.there
  have hin : ∀ x ∈ (env :: outer), ∀ b, x.frame = some b → b ∈ (env :: outer).filterMap (·.frame) := fun x he b hb => List.mem_filterMap.mpr ⟨x, he, hb⟩
  have hen : (hideAll h ((env :: outer).filterMap (·.frame))).get? e = none := by
    cases q : (hideAll h ((env :: outer).filterMap (·.frame))).get? e with
    | none => rfl
    | some o => have := of_hideAll _ q; rw [hx.new] at this; cases this
  refine wpAny_leaving_firstW (a0 := tp) hfr ((stk_fun stk hin).of_keeps fun b o hb _ => ⟨o, hx.keeps b o hb, rfl⟩) hf he (fun b o hb => hx.keeps b o (of_hideAll _ hb)) hen hd rfl rfl fun h' hL => ?_
  obtain ⟨k1, ⟨_, _, k2⟩, k3, k4⟩ := hL
  exact hQ _ ⟨h, _, tp, k, t, stk_frames stk, ⟨k1, hen, k2, by rw [← hcls]; exact k3⟩, (Heap.UpToSlots.of_keeps hx.keeps).trans k4, hg, ho⟩

/-- a for loop whose first turn raises -/
theorem for_first {c : Cx} {V V₁ : List (Option D)} {M : List Own} {target iter : Expr} {body : List Stmt} {pos : Pos} {d dd : D} {ds : List D} (hi : Ev c V M iter d) (hit : Iters c target d ds) (hd : ds[0]? = some dd) (ha : Asg c target dd V V₁)
    {σ : Sto} {s : Shared} {Q : Flow → Shared → Prop} {E : Value → Shared → Prop} (f : F c V M σ s)
    (hb : ∀ σ' s' o (Q' : Flow → Shared → Prop), F c V₁ (o :: M) σ' s' → wpAny (model PR c.w) c.A (execs body c.env) Q' (notedBy (model PR c.w) c.A c.env (cameBackBy (model PR c.w) c.A c.env E)) s')
    (hs : ∀ x, foldedSetIterable iter c.env x = pure x := by intro _; rfl) : wpAny (model PR c.w) c.A (exec (.For target iter body [] pos) c.env) Q E s := by
  refine wpAny_For ?_ hs
  refine hi.use f fun σ1 s1 v x1 f1 r1 => ?_
  refine hit c.A σ1 s1 v _ _ f1.step.g (f1.rm.mono (Nat.zero_le _)) r1 fun o tk p p' nx hp hf hc hm => ?_
  have f2 := (f1.alloc hf hc hp hm).tok tk
  generalize s1.heap.objs.size = it at nx f2 ⊢
  refine codeAny_forLoop_any (fun _ s => F c V (⟨it, p 0⟩ :: M) σ1 s) (fun n s3 f3 => ?_) 0 f2
  refine nx.next V M σ1 s3 0 _ _ f3 (fun d' hd' σ4 s4 v4 ext f4 r4 => ?_) fun hd' => ?_
  · rw [hd] at hd'
    cases hd'
    refine nx.go V M σ4 s4 0 v4 _ _ f4 fun s5 f5 => ?_
    exact ha _ σ4 s5 v4 _ _ f5 r4 fun s6 f6 => hb σ4 s6 _ _ f6
  · rw [hd] at hd'; cases hd'

theorem count_raises {w : World} {N : Nat} {t : Tab} (hne : t ≠ []) {A : Around} {σ : Sto} {s : Shared} {v : Value} {Q : Value → Shared → Prop} {E : Value → Shared → Prop} {l : List Env} (g : G (KK w) N σ s) (rm : Rm N A 1 s.heap) (hl : A.frames = some l)
    (r : Rep w σ (.dict (tabD true t)) v) (hE : ∀ e s', RaisedT N l s e s' → E (.ref e) s') : wpAny (model PR w) A (call (.ref 42) [v]) Q E s := by
  refine fun_genE (k := 0) (ns := ["callers", "nc", "calls"]) (ds := [.dict (tabD true t)]) (vs := [v]) (args := ⟨[v], []⟩) rfl rfl rfl rfl rfl rfl (by kernel_rfl) rfl rfl rfl (by kernel_rfl) (Nat.le_of_ble_eq_true rfl) g rm (.cons r .nil) (fun Q' E' h' => wpAny_pure h') fun L hL Q' s1 f1 hq => ?_
  refine wpAny_execs_cons (wpAny_Assign_Name (ev_int.use f1 fun σ2 s2 v2 x2 f2 r2 => f2.store (i := 1) rfl r2 (.inl rfl) fun s3 f3 => ?_) rfl)
  cases t with
  | nil => exact absurd rfl hne
  | cons kv t =>
  refine wpAny_execs_cons (for_first (d := .view "dict_values" (tabD true (kv :: t))) (dd := .tup (nums kv.2)) (ev_method (ev_var 0 rfl rfl) rfl rfl PySem.F.plainAttrs_dict PySem.F.slot_dict_values PySem.F.type_dict_values .nil (fun_values (k := 0)) (Nat.zero_le _)) iters_values rfl (asg_name 2 rfl) f3 fun σ9 s9 ow Q9 f9 => ?_)
  refine wpAny_execs_cons (wpAny_AugAssign_Name ?_)
  obtain ⟨m, hn, hr⟩ := f9.loc
  obtain ⟨u, e1, r1⟩ := hr 1 "nc" (.int 0) rfl rfl rfl
  refine wpAny_loadName_local f9.kind rfl hn e1 ?_
  refine (ev_var (d := .tup (nums kv.2)) 2 rfl rfl).use f9 fun σ10 s10 v10 x10 f10 r10 => ?_
  cases r1
  cases r10 with
  | @tup a o items n2 _ ho hc2 hd2 rl =>
  have hso := (f10.step.g.sto _ _ ho).1
  refine iadd_raises ⟨o, hso, hc2⟩ hso hd2 f10.rm.handled fun h' tk2 e hx => ?_
  refine PassesOwn.leaving _ _ ?_
  obtain ⟨l', hl', hfr⟩ := f10.rm.frames
  have el := Option.some.inj (hl'.symm.trans (Around.frames_deeper hl))
  subst el
  exact leave_made (s₀ := s) (Around.frames_deeper hl) rfl hfr hx f10.step.kp f10.step.g.base.tab f10.step.g.gens f10.step.os fun s'' R => hE e s'' R

theorem exc_TE : isSubtype (.type "TypeError") (.type "BaseException") = pure true := by rw [isSubtype_type]; kernel_rfl
theorem ntup_TE : isSubtype (.type ((Manifest.find? "TypeError").elim "type" fun x => x.metatype)) (.type "tuple") = pure false := by
  rw [show ((Manifest.find? "TypeError").elim "type" fun x => x.metatype) = "type" from by kernel_rfl, isSubtype_type]; kernel_rfl
theorem self_TE : isSubtype (.type "TypeError") (.type "TypeError") = pure true := by rw [isSubtype_type]; kernel_rfl
/-- the handler: except TypeError: return None -/
theorem caught_none {c : Cx} {V : List (Option D)} {M : List Own} {σ : Sto} {s s' : Shared} {outer : List Env} {L e : Addr} {np pos rp : Pos} {kn : Nat} {kp : Pos} {Q : Flow → Shared → Prop} {E : Value → Shared → Prop} (f : F c V M σ s)
    (hfr : c.A.frames = some (c.env :: outer)) (hf : c.env.frame = some L) (R : RaisedT c.N (c.env :: outer) s e s') (gt : Glo c.K "TypeError" none) (hk : c.env.kindOf "TypeError" = some .globalImplicit)
    (hQ : ∀ s'', (s.heap.objs.size ≤ s''.heap.objs.size → Step c.K c.N σ s σ s'') → Q (.ret .none) s'') :
    wpAny (model PR c.w) c.A (noteFrame (.ref e) c.env) (fun _ s₂ => wpAny (model PR c.w) c.A (setFlight (.ref e) none) (fun _ s₃ =>
      wpAny (model PR c.w) c.A (handleBy (.ref e) c.env [.ExceptHandler (some (.Name "TypeError" np)) none [.Return (some (.Constant .none kn kp)) rp] pos]) Q E s₃) E s₂) E s' := by
  obtain ⟨h, Fs, a0, k, t, fr, fl, up, hg, ho⟩ := R
  refine wpAny_looks_onW hfr hf fl fun h₄ held₄ up₄ => ?_
  refine wpAny_landsW held₄ fun h₅ fl₅ up₅ => ?_
  have up5 := (up.trans up₄).trans up₅
  have kp5 := kp_raised k fr fl₅.1 up5
  obtain ⟨ob, hob, hobc⟩ := fl₅.there
  refine wpAny_handleBy_builtin (X := "TypeError") (T := "TypeError") (b := true) exc_TE ntup_TE self_TE ?_
  have g0 := f.step.g
  obtain ⟨o, es, ep, hog, hdd, hss, hff⟩ := gt
  obtain ⟨mb, hmb, hbt⟩ := g0.base.blt
  refine Name_function_global f.kind hk (loadGlobal_builtin (mg := fun y => nsFind es y) (mb := mb) ?_ hff ?_ ((hbt "TypeError" (by decide +kernel)).trans b_TypeError) ⟨rfl, ⟨ob, hob, hobc⟩, ?_⟩) (by decide +kernel)
  · rw [f.tops.1]; exact ⟨o, es, ep, kp5.low (g0.base.frag _ _ hog).1 (g0.base.frag _ _ hog).2.2 (g0.base.frag _ _ hog).2.1, hdd, hss, fun _ => rfl⟩
  · rw [f.tops.2]; exact ns_kp kp5 hmb (by decide)
  refine lands_againW fl₅ fun h₆ fl₆ up₆ => ?_
  refine wpAny_execs_cons (wpAny_Return_some (wpAny_Constant_none ?_))
  exact hQ _ fun hsz => step_raised g0 k t fr fl₆.1 (up5.trans up₆) hg ho hsz

theorem c_counted1 {w : World} {N : Nat} {t : Tab} (hne : t ≠ []) : Fun (KK w) w N 2 (.ref 147) [.dict (tabD true t)] .none := fun A σ s vs Q E g rm r q => by
  cases r with | @cons _ v _ _ r1 r2 =>
  cases r2
  obtain ⟨l, hl, _⟩ := rm.frames
  refine fun_genE (k := 1) (ns := ["table"]) (ds := [.dict (tabD true t)]) (vs := [v]) (args := ⟨[v], []⟩) rfl rfl rfl rfl rfl rfl (by kernel_rfl) rfl rfl rfl (by kernel_rfl) (Nat.le_of_ble_eq_true rfl) g rm (.cons r1 .nil) (fun Q' E' h' => wpAny_pure h') fun L hL Q' s1 f1 hq => ?_
  refine wpAny_execs_cons (wpAny_size (wpAny_Try_except ?_))
  refine wpAny_execs_cons (wpAny_Return_some (wpAny_Call_ofName ((ev_glob rfl (g_count_calls w)).use f1 fun σ2 s2 v2 x2 f2 r2 => ?_)))
  cases r2
  refine callWith_function (EvL.args (ds := [.dict (tabD true t)]) ?hA f2 fun σ3 s3 vs3 x3 f3 r3 => ⟨⟨(f3.step.g.base.frag 42 _ rfl).1, rfl⟩, ?_⟩)
  case hA => exact .cons rfl (ev_var 0 rfl rfl) .nil
  cases r3 with | @cons _ v3 _ _ r3 r4 =>
  cases r4
  refine count_raises hne f3.step.g f3.rm (Around.frames_deeper hl) r3 fun e s4 R => ?_
  exact caught_none f1 (Around.frames_deeper hl) rfl (R.back (x2.trans x3).kp (x2.trans x3).os) (g_TypeError w) rfl fun s5 h5 hsz => hq _ _ (q _ s5 .none (f1.step.trans (h5 hsz)) .val)

theorem c_counted0 {w : World} {N : Nat} {t : Tab} : Fun (KK w) w N 2 (.ref 147) [.dict (tabD false t)] (.int (t.map fun kv => kv.2.headD 0).sum) := fun A σ s vs Q E g rm r q => by
  cases r with | @cons _ v _ _ r1 r2 =>
  cases r2
  refine fun_genE (k := 1) (ns := ["table"]) (ds := [.dict (tabD false t)]) (vs := [v]) (args := ⟨[v], []⟩) rfl rfl rfl rfl rfl rfl (by kernel_rfl) rfl rfl rfl (by kernel_rfl) (Nat.le_of_ble_eq_true rfl) g rm (.cons r1 .nil) (fun Q' E' h' => wpAny_pure h') fun L hL Q' s1 f1 hq => ?_
  refine wpAny_execs_cons (wpAny_Try_except ?_)
  refine wpAny_execs_cons (wpAny_Return_some ((ev_call (ev_glob rfl (g_count_calls w)) (.fn rfl rfl) (.cons rfl (ev_var 0 rfl rfl) .nil) (c_count (t := t)) (Nat.le_refl _)).use f1 fun σ2 s2 v2 x2 f2 r2 => ?_))
  exact hq _ _ (q _ _ _ f2.step r2)
end Mine
end
section
open PySem PySem.W PyProof.Rows PySem.Calls
set_option Elab.async false
set_option maxRecDepth 100000
set_option autoImplicit false
set_option linter.unusedVariables false
namespace Mine
theorem one_ok : ∀ c, c < 128 → PyData.strOk (one c) = true := by decide +kernel
theorem okL_all {ds : List D} {n : Nat} (h : ∀ d ∈ ds, d.ok n = true) : okL ds n = true := by
  induction ds with
  | nil => rfl
  | cons d ds ih =>
    show (d.ok n && okL ds n) = true
    rw [h d (List.mem_cons_self ..), ih fun d' h' => h d' (List.mem_cons_of_mem _ h')]
    rfl
theorem nums_ok (xs : List Int) (n : Nat) : okL (nums xs) n = true := okL_all fun d h => by
  obtain ⟨x, _, rfl⟩ := List.mem_map.mp h
  rfl
theorem dL_ok {wide : Bool} {t : Tab} (h : ∀ kv ∈ t, kv.1 < 128) : (dL wide t).ok 9 = true := by
  show okL _ 8 = true
  refine okL_all fun d hd => ?_
  obtain ⟨kv, hk, rfl⟩ := List.mem_map.mp hd
  show ((D.str (one kv.1)).ok 7 && ((vD wide kv.2).ok 7 && true)) = true
  rw [show (D.str (one kv.1)).ok 7 = true from one_ok _ (h kv hk)]
  cases wide with
  | false => rfl
  | true =>
    show (true && (okL (nums kv.2) 6 && true)) = true
    rw [nums_ok]; rfl
theorem firsts_mem {l : List Nat} {c : Nat} (h : c ∈ firsts l) : c ∈ l := by
  suffices g : ∀ (l s : List Nat), c ∈ l.foldl seenStep s → c ∈ s ∨ c ∈ l from (g l [] h).resolve_left (by simp)
  intro l
  induction l with
  | nil => intro s h; exact .inl h
  | cons x l ih =>
    intro s h
    rcases ih _ h with q | q
    · unfold seenStep at q
      split at q
      · exact .inl q
      · rcases List.mem_append.mp q with q | q
        · exact .inl q
        · exact .inr (by simp at q; simp [q])
    · exact .inr (List.mem_cons_of_mem _ q)
theorem ledger_keys {wide : Bool} {W : List (List Nat)} {P : List (List UInt8)} (h : ∀ t ∈ W, ∀ c ∈ t, c < 128) : ∀ kv ∈ ledgerT wide W P, kv.1 < 128 := fun kv hk => by
  obtain ⟨c, hc, rfl⟩ := List.mem_map.mp hk
  obtain ⟨t, h1, h2⟩ := List.mem_flatten.mp (firsts_mem hc)
  exact h t h1 c h2

set_option maxHeartbeats 2000000 in
theorem c_summed {w : World} {N : Nat} {W : List (List Nat)} {P : List (List UInt8)} {wide : Bool} (hW : W.length ≤ 10000) (hP : P.length = W.length) (hf : W.flatten.length ≤ 100000) (ht : ∀ t ∈ W, t.length ≤ 100000) (hp : ∀ p ∈ P, p.length ≤ 100000)
    (hpf : P.flatten.length ≤ 100000) (ha : ∀ t ∈ W, ∀ c ∈ t, c < 128) (hne : wide = true → ledgerT wide W P ≠ []) (hcnt : wide = false → ((ledgerT wide W P).map fun kv => kv.2.headD 0).sum = (W.flatten.length : Nat)) :
    Fun (KK w) w N 3 (.ref 154) [entD wide (P.length : Nat) (W.flatten.length : Nat) (P.flatten.length : Nat) (P.flatten.map fun c => (c.toNat : Int)).sum (ledgerT wide W P), dW W, dP P, .bool wide] (.bool true) := by
  have hok := dL_ok (wide := wide) (ledger_keys (wide := wide) (P := P) ha)
  have hlt : (ledgerT wide W P).length ≤ 100000 := by
    unfold ledgerT; rw [List.length_map]; exact Nat.le_trans (firsts_len _) hf
  refine fun_plain (ns := ["total", "writings", "pieces", "wide", "signs", "octets"]) rfl rfl rfl rfl rfl rfl (by kernel_rfl) rfl rfl rfl (by kernel_rfl) (Nat.le_of_ble_eq_true rfl) (of_len4 fun v1 v2 v3 v4 => rfl) fun A L s₀ σ₀ => ?_
  have hc2 : Fun (KK w) w N 2 (.ref 140) [dW W, dP P, .bool wide] (dL wide (ledgerT wide W P)) := c_ledger hW hP hf ht hp
  have hc3 : Fun (KK w) w N 2 (.ref 147) [.dict (tabD wide (ledgerT wide W P))] (if wide then .none else .int (W.flatten.length : Nat)) := by
    cases wide with
    | true => exact c_counted1 (hne rfl)
    | false =>
      have := c_counted0 (w := w) (N := N) (t := ledgerT false W P)
      rw [hcnt rfl] at this
      exact this
  generalize ledgerT wide W P = T at hok hlt hc2 hc3 ⊢
  refine xs_if_f (et_cmp (ev_var 0 rfl rfl) ev_none p2_is_none tru_bool) ?_
  refine xs_assign 4 rfl (d := .int (W.flatten.length : Nat)) ((ev_call (ev_blt rfl (g_len w) b_len) .blt (.cons rfl ((ev_method ev_str rfl rfl PySem.F.plainAttrs_str PySem.F.slot_str_join PySem.F.type_str_join (.cons rfl ((ev_var 1 rfl rfl).eq (d' := .list ((W.map txt).map .str)) (by rw [List.map_map]; rfl)) .nil) (fun_sjoin (k := 0) (xs := W.map txt) (by rw [sum_len, List.length_map]; omega)) (Nat.zero_le _)).eq (congrArg D.str (join_txt W))) .nil) (fun_len_str (k := 0) (by rw [txt_len]; omega)) (Nat.zero_le _)).eq (by rw [txt_len])) ?_
  refine xs_assign 5 rfl (d := .bytes P.flatten) (ev_method ev_bytes rfl rfl FB.plainAttrs_bytes slot_bjoin type_bjoin (.cons rfl (ev_var 2 rfl rfl) .nil) (fun_bjoin (k := 0) (bs := P) (by omega)) (Nat.zero_le _)) ?_
  refine xs_if_f (et_cmp (d1 := .tup [.int (P.length : Nat), .int (W.flatten.length : Nat), .int (P.flatten.length : Nat), .int (P.flatten.map fun c => (c.toNat : Int)).sum]) (ev_slice (ev_var 0 rfl rfl) evp_none (evp_some ev_int) rfl slot_tuple_getitem.lookup (psl_tup (hi := 4) (Nat.le_of_ble_eq_true rfl) (Nat.le_of_ble_eq_true rfl)))
    (ev_tuple (.cons rfl ((ev_call (ev_blt rfl (g_len w) b_len) .blt (.cons rfl (ev_var 2 rfl rfl) .nil) (fun_len_list (k := 0) (ds := P.map .bytes) (by simp; omega)) (Nat.zero_le _)).eq (d' := .int (P.length : Nat)) (by simp)) (.cons rfl (ev_var 4 rfl rfl) (.cons rfl (ev_call (ev_blt rfl (g_len w) b_len) .blt (.cons rfl (ev_var 5 rfl rfl) .nil) (fun_len_bytes (k := 0) (by omega)) (Nat.zero_le _))
      (.cons rfl (ev_call (ev_blt rfl (g_sum w) b_sum) .blt (.cons rfl (ev_var 5 rfl rfl) .nil) (fun_sum_bytes (k := 0)) (Nat.zero_le _)) .nil))))) (p2_ne_same rfl) tru_bool) ?_
  refine xs_if_f (et_cmp (d1 := dL wide T) ((ev_call (ev_blt rfl (g_list w) b_list) .typ (.cons rfl (ev_method (ev_sub (ev_var 0 rfl rfl) ev_int rfl slot_tuple_getitem.lookup (p2_gettup (i := 4) rfl (Nat.le_of_ble_eq_true rfl))) rfl rfl PySem.F.plainAttrs_dict PySem.F.slot_dict_items PySem.F.type_dict_items .nil (fun_items (k := 0)) (Nat.zero_le _)) .nil)
      (fun_list_items (k := 0) (kvs := tabD wide T) (by rw [List.length_map]; omega)) (Nat.zero_le _)).eq (by unfold dL tabD; rw [List.map_map]; rfl))
    (ev_call (ev_glob rfl (g_law_ledger w)) (.fn rfl rfl) (.cons rfl (ev_var 1 rfl rfl) (.cons rfl (ev_var 2 rfl rfl) (.cons rfl (ev_var 3 rfl rfl) .nil))) hc2 (Nat.le_refl _)) (p2_ne_same hok) tru_bool) ?_
  refine xs_ret (ev_cmp (ev_call (ev_glob rfl (g_law_counted w)) (.fn rfl rfl) (.cons rfl (ev_sub (ev_var 0 rfl rfl) ev_int rfl slot_tuple_getitem.lookup (p2_gettup (i := 4) rfl (Nat.le_of_ble_eq_true rfl))) .nil) hc3 (Nat.le_refl _))
    (ev_ifexp (et_val (ev_var 3 rfl rfl) tru_bool) (fun h => ?_) (fun h => ?_)) (p2_eq_same ?_)) fun _ _ r => r
  · rw [h]; exact ev_none
  · rw [h]; exact ev_var 4 rfl rfl
  · cases wide <;> rfl
end Mine
end
section
open PySem PySem.W PyProof.Rows PySem.Calls
set_option Elab.async false
set_option maxRecDepth 100000
set_option autoImplicit false
set_option linter.unusedVariables false
namespace Mine
/-- what is known of a row of pieces and a writer -/
structure Row0 (w : World) (N : Nat) (fa : Addr) (enc : List UInt8 → List UInt8) (P : List (List UInt8)) : Prop where
  fn : ∀ p ∈ P, Fun (KK w) w N 4 (.ref fa) [.bytes p] (.bytes (enc p))
  asc : ∀ p ∈ P, ∀ c ∈ enc p, c.toNat < 128
  pl : ∀ p ∈ P, p.length ≤ 1000
  el : (P.map fun p => (enc p).length).sum ≤ 100000
structure Row1 (w : World) (N : Nat) (wide : Bool) (fa : Addr) (enc : List UInt8 → List UInt8) (bits : Nat) (al : List Nat) (P : List (List UInt8)) : Prop extends Row0 w N fa enc P where
  pn : P.length ≤ 10000
  pf : P.flatten.length ≤ 100000
  sg : ∀ p ∈ P, nat8 (enc p) = signs bits al p
  led : tabs wide enc P = ledgerT wide (P.map (signs bits al)) P
  ne : wide = true → ledgerT wide (P.map (signs bits al)) P ≠ []
  cnt : wide = false → ((ledgerT wide (P.map (signs bits al)) P).map fun kv => kv.2.headD 0).sum = ((P.map (signs bits al)).flatten.length : Nat)
theorem octN_eq (P : List (List UInt8)) : octN P = (P.flatten.length : Nat) := by
  unfold octN
  induction P with
  | nil => rfl
  | cons p P ih => simp only [List.map_cons, List.sum_cons, List.flatten_cons, List.length_append, ih]; omega
theorem tots_eq (P : List (List UInt8)) : tots P = (P.flatten.map fun c => (c.toNat : Int)).sum := by
  unfold tots
  induction P with
  | nil => rfl
  | cons p P ih => simp only [List.map_cons, List.sum_cons, List.flatten_cons, List.map_append, List.sum_append, ih]
theorem lens_eq {enc : List UInt8 → List UInt8} {bits : Nat} {al : List Nat} (P : List (List UInt8)) (h : ∀ p ∈ P, nat8 (enc p) = signs bits al p) : lens enc P = ((P.map (signs bits al)).flatten.length : Nat) := by
  unfold lens
  induction P with
  | nil => rfl
  | cons p P ih =>
    have e : (enc p).length = (signs bits al p).length := by rw [← h p (List.mem_cons_self ..), List.length_map]
    simp only [List.map_cons, List.sum_cons, List.flatten_cons, List.length_append, ih fun q hq => h q (List.mem_cons_of_mem _ hq), e]; omega
section
variable {w : World} {N : Nat} {wide : Bool} {fa : Addr} {enc : List UInt8 → List UInt8} {bits : Nat} {al : List Nat} {P : List (List UInt8)}
theorem Row0.total (R : Row0 w N fa enc P) (hc : Callee (KK w) (.ref fa)) : Fun (KK w) w N 5 (.ref 128) [.val (.ref fa), dP P, .bool wide] (entD wide (P.length : Nat) (lens enc P) (octN P) (tots P) (tabs wide enc P)) :=
  c_total hc R.fn R.asc (fun p hp => Nat.le_trans (R.pl p hp) (by decide)) R.el
theorem Row0.len (R : Row0 w N fa enc P) : (tabs wide enc P).length ≤ 100000 := Nat.le_trans (tabs_len wide enc P) R.el
noncomputable abbrev oftD (t : Tab) : D := .list (t.map fun kv => .tup [.str (one kv.1), .int (kv.2.headD 0)])
theorem Row0.often (R : Row0 w N fa enc P) {n1 n2 n3 n4 : Int} : Fun (KK w) w N 1 (.ref 159) [entD wide n1 n2 n3 n4 (tabs wide enc P), .bool wide] (oftD (tabs wide enc P)) :=
  c_often R.len fun h kv hk => by have := (tabs_ok wide enc P).2 kv hk; rw [h] at this; exact this
theorem Row1.asc' (R : Row1 w N wide fa enc bits al P) : ∀ t ∈ P.map (signs bits al), ∀ c ∈ t, c < 128 := fun t ht c hc => by
  obtain ⟨p, hp, rfl⟩ := List.mem_map.mp ht
  rw [← R.sg p hp] at hc
  obtain ⟨u, hu, rfl⟩ := List.mem_map.mp hc
  exact R.asc p hp u hu
theorem Row1.fl (R : Row1 w N wide fa enc bits al P) : (P.map (signs bits al)).flatten.length ≤ 100000 := by
  have h := lens_eq P R.sg
  have h2 : lens enc P = ((P.map fun p => (enc p).length).sum : Nat) := by
    unfold lens
    generalize P = Q
    induction Q with
    | nil => rfl
    | cons p Q ih => simp only [List.map_cons, List.sum_cons, ih]; omega
  have := R.el
  omega
theorem mem_len_flatten {α : Type} {W : List (List α)} {t : List α} (h : t ∈ W) : t.length ≤ W.flatten.length := by
  obtain ⟨a, b, rfl⟩ := List.append_of_mem h
  simp; omega
theorem Row1.summed (R : Row1 w N wide fa enc bits al P) : Fun (KK w) w N 3 (.ref 154) [entD wide (P.length : Nat) (lens enc P) (octN P) (tots P) (tabs wide enc P), dW (P.map (signs bits al)), dP P, .bool wide] (.bool true) := by
  rw [lens_eq P R.sg, octN_eq, tots_eq, R.led]
  exact c_summed (by rw [List.length_map]; exact R.pn) (by rw [List.length_map]) R.fl (fun t ht => Nat.le_trans (mem_len_flatten ht) R.fl) (fun p hp => Nat.le_trans (R.pl p hp) (by decide)) R.pf R.asc' R.ne R.cnt
theorem oft_ok {t : Tab} (h : ∀ kv ∈ t, kv.1 < 128) : (oftD t).ok 9 = true := by
  show okL _ 8 = true
  refine okL_all fun d hd => ?_
  obtain ⟨kv, hk, rfl⟩ := List.mem_map.mp hd
  show ((D.str (one kv.1)).ok 7 && (true && true)) = true
  rw [show (D.str (one kv.1)).ok 7 = true from one_ok _ (h kv hk)]
  rfl
end
set_option maxHeartbeats 4000000 in
theorem c_kind {w : World} {N : Nat} {wide : Bool} {fa : Addr} {enc : List UInt8 → List UInt8} {bits : Nat} {al : List Nat} {P T : List (List UInt8)} (hc : Callee (KK w) (.ref fa)) (hb : bits = 4 ∨ bits = 6) (hal : al.length = 2 ^ bits)
    (RP : Row1 w N wide fa enc bits al P) (RT : Row1 w N wide fa enc bits al T) (R0 : Row0 w N fa enc [P.flatten])
    (h4 : bits = 4 → oftD (tabs wide enc P) = oftD (tabs wide enc [P.flatten])) (h5 : oftD (tabs wide enc T) = oftD (tabs wide enc [P.flatten])) :
    Fun (KK w) w N 6 (.ref 164) [.val (.ref fa), .int bits, .str (txt al), dP P, dP T, .bool wide] (.bool true) := by
  have tP := RP.toRow0.total (wide := wide) hc
  have tT := RT.toRow0.total (wide := wide) hc
  have tO := R0.total (wide := wide) hc
  have sP := RP.summed
  have sT := RT.summed
  have oP := fun n1 n2 n3 n4 => RP.toRow0.often (wide := wide) (n1 := n1) (n2 := n2) (n3 := n3) (n4 := n4)
  have oT := fun n1 n2 n3 n4 => RT.toRow0.often (wide := wide) (n1 := n1) (n2 := n2) (n3 := n3) (n4 := n4)
  have oO := fun n1 n2 n3 n4 => R0.often (wide := wide) (n1 := n1) (n2 := n2) (n3 := n3) (n4 := n4)
  have okT : (oftD (tabs wide enc T)).ok 9 = true := oft_ok (by rw [RT.led]; exact ledger_keys RT.asc')
  have pP := RP.pl
  have pT := RT.pl
  have fP := RP.pf
  have nP := RP.pn
  have nT := RT.pn
  rw [h5] at oT okT
  have oP' : bits = 4 → ∀ n1 n2 n3 n4, Fun (KK w) w N 1 (.ref 159) [entD wide n1 n2 n3 n4 (tabs wide enc P), .bool wide] (oftD (tabs wide enc [P.flatten])) := fun h n1 n2 n3 n4 => by
    rw [← h4 h]; exact oP n1 n2 n3 n4
  generalize oftD (tabs wide enc [P.flatten]) = O at *
  generalize eP : tabs wide enc P = A1 at *
  generalize eT : tabs wide enc T = A2 at *
  generalize eO : tabs wide enc [P.flatten] = A3 at *
  generalize lens enc P = l1 at *
  generalize octN P = l2 at *
  generalize tots P = l3 at *
  generalize lens enc T = l4 at *
  generalize octN T = l5 at *
  generalize tots T = l6 at *
  generalize lens enc [P.flatten] = l7 at *
  generalize octN [P.flatten] = l8 at *
  generalize tots [P.flatten] = l9 at *
  clear RP RT R0 h4 h5
  refine fun_plain (ns := ["write", "bits", "alphabet", "pieces", "threes", "wide", "one", "some", "even"]) rfl rfl rfl rfl rfl rfl (by kernel_rfl) rfl rfl rfl (by kernel_rfl) (Nat.le_of_ble_eq_true rfl) (of_len6 fun v1 v2 v3 v4 v5 v6 => rfl) fun A L s₀ σ₀ => ?_
  refine xs_assign 6 rfl (ev_call (ev_glob rfl (g_law_total w)) (.fn rfl rfl) (.cons rfl (ev_var 0 rfl rfl) (.cons rfl (ev_list (.cons rfl (ev_method ev_bytes rfl rfl FB.plainAttrs_bytes slot_bjoin type_bjoin (.cons rfl (ev_var 3 rfl rfl) .nil) (fun_bjoin (k := 0) (bs := P) (by omega)) (Nat.zero_le _)) .nil)) (.cons rfl (ev_var 5 rfl rfl) .nil))) tO (Nat.le_refl _)) ?_
  refine xs_assign 7 rfl (ev_call (ev_glob rfl (g_law_total w)) (.fn rfl rfl) (.cons rfl (ev_var 0 rfl rfl) (.cons rfl (ev_var 3 rfl rfl) (.cons rfl (ev_var 5 rfl rfl) .nil))) tP (Nat.le_refl _)) ?_
  refine xs_assign 8 rfl (ev_call (ev_glob rfl (g_law_total w)) (.fn rfl rfl) (.cons rfl (ev_var 0 rfl rfl) (.cons rfl (ev_var 4 rfl rfl) (.cons rfl (ev_var 5 rfl rfl) .nil))) tT (Nat.le_refl _)) ?_
  refine xs_if_f (et_chain ?_) ?_
  · refine .orF ?_ (.orF ?_ .nil)
    · exact et_cmp (ev_var 6 rfl rfl) ev_none p2_is_none tru_bool
    refine Et.eq (b := !true) (et_not (et_val (d := .bool true) ?_ tru_bool)) rfl
    refine ev_call (ev_glob rfl (g_law_summed w)) (.fn rfl rfl) (.cons rfl (ev_var 7 rfl rfl) (.cons rfl ?_ (.cons rfl (ev_var 3 rfl rfl) (.cons rfl (ev_var 5 rfl rfl) .nil)))) sP (Nat.le_of_ble_eq_true rfl)
    refine (ev_lc (lc_name (fns := ["alphabet", "bits"]) P (fun p => .bytes p) (fun _ => true) (fun p => .str (txt (signs bits al p))) rfl (by kernel_rfl) (.cons rfl (.cons rfl .nil)) (.cons 2 rfl rfl rfl rfl (.inl rfl) (.cons 1 rfl rfl rfl rfl (.inl rfl) .nil)) (ev_var 3 rfl rfl) (fun C s₀ σ₀ => iters_list) (fun C s₀ σ₀ M' p hp => ets_nil) (fun C s₀ σ₀ M' p hp _ => ?_) (by omega))).eq (by
      rw [List.filter_eq_self.mpr (by simp)]; unfold dW; rw [List.map_map]; rfl)
    exact ev_call (ev_glob rfl (g_law_signs w)) (.fn rfl rfl) (.cons rfl (ev_var 0 rfl rfl) (.cons rfl (ev_var 2 rfl rfl) (.cons rfl (ev_var 1 rfl rfl) .nil))) (c_signs (pP p hp) hb hal) (Nat.le_of_ble_eq_true rfl)
  refine xs_if_f (Et.eq (b := !true) (et_not (et_val (d := .bool true) ?_ tru_bool)) rfl) ?_
  · refine ev_call (ev_glob rfl (g_law_summed w)) (.fn rfl rfl) (.cons rfl (ev_var 8 rfl rfl) (.cons rfl ?_ (.cons rfl (ev_var 4 rfl rfl) (.cons rfl (ev_var 5 rfl rfl) .nil)))) sT (Nat.le_of_ble_eq_true rfl)
    refine (ev_lc (lc_name (fns := ["alphabet", "bits"]) T (fun p => .bytes p) (fun _ => true) (fun p => .str (txt (signs bits al p))) rfl (by kernel_rfl) (.cons rfl (.cons rfl .nil)) (.cons 2 rfl rfl rfl rfl (.inl rfl) (.cons 1 rfl rfl rfl rfl (.inl rfl) .nil)) (ev_var 4 rfl rfl) (fun C s₀ σ₀ => iters_list) (fun C s₀ σ₀ M' p hp => ets_nil) (fun C s₀ σ₀ M' p hp _ => ?_) (by omega))).eq (by
      rw [List.filter_eq_self.mpr (by simp)]; unfold dW; rw [List.map_map]; rfl)
    exact ev_call (ev_glob rfl (g_law_signs w)) (.fn rfl rfl) (.cons rfl (ev_var 0 rfl rfl) (.cons rfl (ev_var 2 rfl rfl) (.cons rfl (ev_var 1 rfl rfl) .nil))) (c_signs (pT p hp) hb hal) (Nat.le_of_ble_eq_true rfl)
  refine xs_if_f (et_chain ?_) ?_
  · rcases hb with rfl | rfl
    · refine .andT ?_ (.andF ?_)
      · exact et_cmp (ev_var 1 rfl rfl) ev_int (p2_eq_same (d := .int 4) rfl) tru_bool
      · exact et_cmp (ev_call (ev_glob rfl (g_law_often w)) (.fn rfl rfl) (.cons rfl (ev_var 7 rfl rfl) (.cons rfl (ev_var 5 rfl rfl) .nil)) (oP' rfl _ _ _ _) (Nat.le_of_ble_eq_true rfl))
          (ev_call (ev_glob rfl (g_law_often w)) (.fn rfl rfl) (.cons rfl (ev_var 6 rfl rfl) (.cons rfl (ev_var 5 rfl rfl) .nil)) (oO _ _ _ _) (Nat.le_of_ble_eq_true rfl)) (p2_ne_same okT) tru_bool
    · refine .andF ?_
      exact (et_cmp (ev_var 1 rfl rfl) ev_int p2_eq tru_bool).eq rfl
  exact xs_ret (ev_cmp (ev_call (ev_glob rfl (g_law_often w)) (.fn rfl rfl) (.cons rfl (ev_var 8 rfl rfl) (.cons rfl (ev_var 5 rfl rfl) .nil)) (oT _ _ _ _) (Nat.le_of_ble_eq_true rfl))
    (ev_call (ev_glob rfl (g_law_often w)) (.fn rfl rfl) (.cons rfl (ev_var 6 rfl rfl) (.cons rfl (ev_var 5 rfl rfl) .nil)) (oO _ _ _ _) (Nat.le_of_ble_eq_true rfl)) (p2_eq_same okT)) fun _ _ r => r
end Mine
end
section
open PySem PySem.W PyProof.Rows PySem.Calls
set_option Elab.async false
set_option maxRecDepth 100000
set_option autoImplicit false
set_option linter.unusedVariables false
namespace Mine
theorem rsmall3 (n k : Nat) (h : n < 2 ^ 60) (hk : 0 < k) (hk2 : k < 100) : Builtin.Range.small 0 n k = true ∧ Builtin.Range.rangeSize 0 n k = (((n + k - 1) / k : Nat) : Int) := by
  have hkp : (k : Int) > 0 := by omega
  have e : Builtin.Range.rangeSize 0 n k = (((n + k - 1) / k : Nat) : Int) := by
    unfold Builtin.Range.rangeSize
    rw [if_pos hkp]
    split
    · rename_i h0
      obtain ⟨m, rfl⟩ : ∃ m, n = m + 1 := ⟨n - 1, by omega⟩
      have e1 : (((m + 1 : Nat) : Int) - 0 - 1) = (m : Int) := by push_cast; omega
      rw [e1, show m + 1 + k - 1 = m + k by omega, Nat.add_div_right m hk]
      push_cast; rfl
    · rename_i h0
      have : n = 0 := by omega
      subst this
      rw [show 0 + k - 1 = k - 1 by omega, Nat.div_eq_of_lt (by omega)]
      rfl
  have hle : (n + k - 1) / k ≤ n + k := Nat.le_trans (Nat.div_le_self _ _) (by omega)
  refine ⟨?_, e⟩
  unfold Builtin.Range.small
  rw [e]
  generalize (n + k - 1) / k = qq at hle
  have f : ∀ i : Int, -(2 ^ 63) ≤ i → i < 2 ^ 63 → Builtin.Range.rangeFitsLong i = true := fun i h1 h2 => by
    unfold Builtin.Range.rangeFitsLong; simp only [Bool.and_eq_true, decide_eq_true_eq]; exact ⟨h1, h2⟩
  rw [f 0 (by decide) (by decide), f n (by omega) (by omega), f k (by omega) (by omega)]
  rw [if_pos hkp, f _ (by omega) (by omega), f (_ + _) (by omega) (by omega)]
  simp

set_option maxHeartbeats 2000000 in
theorem c_all {w : World} {N : Nat} {wide : Bool} {P : List (List UInt8)} {size : Nat} (hpf : P.flatten.length ≤ 100000) (hs0 : 0 < size) (hs1 : size < 100)
    (h1 : Fun (KK w) w N 6 (.ref 164) [.val (.ref 102), .int (4 : Nat), .str (txt al16), dP P, dP (cuts size P.flatten), .bool wide] (.bool true))
    (h2 : Fun (KK w) w N 6 (.ref 164) [.val (.ref 88), .int (6 : Nat), .str (txt al64), dP P, dP (cuts size P.flatten), .bool wide] (.bool true))
    (h3 : Fun (KK w) w N 6 (.ref 164) [.val (.ref 95), .int (6 : Nat), .str (txt alUrl), dP P, dP (cuts size P.flatten), .bool wide] (.bool true)) :
    Fun (KK w) w N 7 (.ref 169) [dP P, .int size, .bool wide] (.bool true) := by
  obtain ⟨r1, r2⟩ := rsmall3 P.flatten.length size (by omega) hs0 hs1
  refine fun_plain (ns := ["pieces", "size", "wide", "row", "threes", "letters"]) rfl rfl rfl rfl rfl rfl (by kernel_rfl) rfl rfl rfl (by kernel_rfl) (Nat.le_of_ble_eq_true rfl) (of_len3 fun v1 v2 v3 => rfl) fun A L s₀ σ₀ => ?_
  refine xs_assign 3 rfl (d := .bytes P.flatten) (ev_method ev_bytes rfl rfl FB.plainAttrs_bytes slot_bjoin type_bjoin (.cons rfl (ev_var 0 rfl rfl) .nil) (fun_bjoin (k := 0) (bs := P) (by omega)) (Nat.zero_le _)) ?_
  have hcut : ((List.range ((P.flatten.length + size - 1) / size)).filter fun _ => true).map (fun k => D.bytes ((P.flatten.drop (k * size)).take size)) = (cuts size P.flatten).map .bytes := by
    rw [List.filter_eq_self.mpr (by simp)]; unfold cuts; rw [List.map_map]; rfl
  refine xs_lc (outs := (cuts size P.flatten).map .bytes) 4 rfl (hcut ▸ lc_name (fns := ["row", "size"]) (List.range ((P.flatten.length + size - 1) / size)) (fun k => .int ((k * size : Nat) : Int)) (fun _ => true) (fun k => .bytes ((P.flatten.drop (k * size)).take size)) rfl (by kernel_rfl) (.cons rfl (.cons rfl .nil))
    (.cons 3 rfl rfl rfl rfl (.inl rfl) (.cons 1 rfl rfl rfl rfl (.inl rfl) .nil))
    (ev_call (ev_blt rfl (g_range w) b_range) .typ (.cons rfl ev_int (.cons rfl (ev_call (ev_blt rfl (g_len w) b_len) .blt (.cons rfl (ev_var 3 rfl rfl) .nil) (fun_len_bytes (k := 0) (by omega)) (Nat.zero_le _)) (.cons rfl (ev_var 1 rfl rfl) .nil))) (fun_range3 (k := 0) (by omega) (pyl_small (by omega))) (Nat.zero_le _))
    (fun C s₀ σ₀ => (iters_range _ r1 r2).eq (by unfold rng; refine List.map_congr_left fun i _ => ?_; simp)) (fun C s₀ σ₀ M' k hk => ets_nil) (fun C s₀ σ₀ M' k hk _ => ?_) (by
      rw [List.length_range]
      have := Nat.div_le_self (P.flatten.length + size - 1) size
      omega)) ?_
  · have hk' : k < (P.flatten.length + size - 1) / size := List.mem_range.mp hk
    have hm : (k + 1) * size ≤ P.flatten.length + size - 1 := by
      have := Nat.mul_le_mul_right size hk'
      exact Nat.le_trans this (Nat.div_mul_le_self _ _)
    rw [Nat.succ_mul] at hm
    have hks : k * size ≤ P.flatten.length := by omega
    refine (ev_slice (ev_var 1 rfl rfl) (evp_some (ev_var 0 rfl rfl)) (evp_some (i := ((k * size + size : Nat) : Int)) ((ev_binop (ev_var 0 rfl rfl) (ev_var 2 rfl rfl) p2_add).eq (congrArg D.int (by push_cast; rfl)))) rfl FB.slot_bytes_getitem.lookup (psl_bytes (a := k * size) (b := k * size + size) hks (by omega) (by omega))).eq (by rw [Nat.add_sub_cancel_left])
  refine xs_assign 5 rfl ev_str ?_
  refine xs_if_f (Et.eq (b := !true) (et_not (et_val (d := .bool true) ?_ tru_bool)) rfl) ?_
  · exact ev_call (ev_glob rfl (g_law_kind w)) (.fn rfl rfl) (.cons rfl (ev_glob rfl (g_b16encode w)) (.cons rfl ev_int (.cons rfl (ev_str.eq (d' := .str (txt al16)) (congrArg D.str (by decide +kernel))) (.cons rfl (ev_var 0 rfl rfl) (.cons rfl (ev_var 4 rfl rfl) (.cons rfl (ev_var 2 rfl rfl) .nil)))))) h1 (Nat.le_refl _)
  refine xs_if_f (Et.eq (b := !true) (et_not (et_val (d := .bool true) ?_ tru_bool)) rfl) ?_
  · exact ev_call (ev_glob rfl (g_law_kind w)) (.fn rfl rfl) (.cons rfl (ev_glob rfl (g_standard_b64encode w)) (.cons rfl ev_int (.cons rfl ((ev_binop (ev_var 5 rfl rfl) ev_str (p2_addstr (by decide +kernel))).eq (d' := .str (txt al64)) (congrArg D.str (by decide +kernel))) (.cons rfl (ev_var 0 rfl rfl) (.cons rfl (ev_var 4 rfl rfl) (.cons rfl (ev_var 2 rfl rfl) .nil)))))) h2 (Nat.le_refl _)
  refine xs_ret ?_ fun _ _ r => r
  exact ev_call (ev_glob rfl (g_law_kind w)) (.fn rfl rfl) (.cons rfl (ev_glob rfl (g_urlsafe_b64encode w)) (.cons rfl ev_int (.cons rfl ((ev_binop (ev_var 5 rfl rfl) ev_str (p2_addstr (by decide +kernel))).eq (d' := .str (txt alUrl)) (congrArg D.str (by decide +kernel))) (.cons rfl (ev_var 0 rfl rfl) (.cons rfl (ev_var 4 rfl rfl) (.cons rfl (ev_var 2 rfl rfl) .nil)))))) h3 (Nat.le_refl _)

theorem c_law {w : World} {N : Nat} {ns : List Int} (hn : ns.length ≤ 63) (h : Fun (KK w) w N 7 (.ref 169) [dP (pieces (nums13 ns)), .int (3 + 3 * (((ns.sum.fmod 6).fdiv 2))), .bool ((ns.sum.fmod 6).fmod 2 == 1)] (.bool true)) :
    Fun (KK w) w N 8 (.ref 176) [.list (nums ns)] (.bool true) := by
  refine fun_plain (ns := ["script", "numbers", "s"]) rfl rfl rfl rfl rfl rfl (by kernel_rfl) rfl rfl rfl (by kernel_rfl) (Nat.le_of_ble_eq_true rfl) (of_len1 fun v1 => rfl) fun A L s₀ σ₀ => ?_
  have hl13 : (nums13 ns).length ≤ 1000 := by unfold nums13; rw [List.length_append, List.length_take]; simp; omega
  refine xs_assign 1 rfl (d := .list (nums (nums13 ns))) ((ev_binop (ev_call (ev_blt rfl (g_list w) b_list) .typ (.cons rfl (ev_slice (ev_var 0 rfl rfl) evp_none (evp_some ev_int) rfl slot_list_getitem.lookup (psl_list (hi := 8) (by rw [List.length_map]; omega))) .nil) (fun_list_list (k := 0) (by rw [List.length_take, List.length_map]; omega)) (Nat.zero_le _))
    (ev_list (.cons rfl ev_int (.cons rfl ev_int (.cons rfl ev_int (.cons rfl ev_int (.cons rfl ev_int .nil)))))) (p2_addlist (by rw [List.length_take, List.length_map]; simp; omega))).eq (by unfold nums nums13; rw [List.map_append, List.map_take]; rfl)) ?_
  refine xs_assign 2 rfl (ev_binop (ev_call (ev_blt rfl (g_sum w) b_sum) .blt (.cons rfl (ev_var 0 rfl rfl) .nil) (fun_sum_list (k := 0)) (Nat.zero_le _)) ev_int (p2_mod (by decide))) ?_
  refine xs_ret (ev_call (ev_glob rfl (g_law_all w)) (.fn rfl rfl) (.cons rfl (ev_call (ev_glob rfl (g_law_pieces w)) (.fn rfl rfl) (.cons rfl (ev_var 1 rfl rfl) .nil) (c_pieces hl13) (Nat.le_of_ble_eq_true rfl)) (.cons rfl (ev_binop ev_int (ev_binop ev_int (ev_binop (ev_var 2 rfl rfl) ev_int (p2_div (by decide) (pyl_small (b := 2) (by decide)))) (p2_mul ?_)) p2_add) (.cons rfl (ev_cmp (ev_binop (ev_var 2 rfl rfl) ev_int (p2_mod (by decide))) ev_int p2_eq) .nil))) h (Nat.le_refl _)) fun _ _ r => r
  have hb1 := Int.fmod_nonneg_of_pos ns.sum (show (0:Int) < 6 by decide)
  have hb2 := Int.fmod_lt_of_pos ns.sum (show (0:Int) < 6 by decide)
  generalize ns.sum.fmod 6 = z at hb1 hb2
  have hz : z = 0 ∨ z = 1 ∨ z = 2 ∨ z = 3 ∨ z = 4 ∨ z = 5 := by omega
  rcases hz with rfl | rfl | rfl | rfl | rfl | rfl <;> mul_fits
end Mine
end
section
open PySem PySem.W PyProof.Rows PySem.Calls
set_option Elab.async false
set_option maxRecDepth 100000
set_option autoImplicit false
set_option linter.unusedVariables false
namespace Mine
theorem Prim.mono {K : Frag} {w : World} {N k k' : Nat} {t : List Value → Sem Value} {ds : List D} {d : D} (h : Prim K w N k t ds d) (hk : k ≤ k') : Prim K w N k' t ds d :=
  fun A σ s vs Q E g rm r q => h A σ s vs Q E g (rm.mono hk) r q
section
variable {w : World} {N : Nat} {wide : Bool} {fa : Addr} {enc : List UInt8 → List UInt8} {bits : Nat} {al : List Nat}
theorem asc_of (ha : ∀ x ∈ al, x < 128) (sg : ∀ l, nat8 (enc l) = signs bits al l) (l : List UInt8) : ∀ c ∈ enc l, c.toNat < 128 := fun c hc =>
  signs_lt bits al ha l c.toNat (by rw [← sg l]; exact List.mem_map_of_mem hc)
theorem row0 (fn : ∀ p : List UInt8, p.length ≤ 1000 → Fun (KK w) w N 4 (.ref fa) [.bytes p] (.bytes (enc p))) (hb : bits = 4 ∨ bits = 6) (ha : ∀ x ∈ al, x < 128) (sg : ∀ l, nat8 (enc l) = signs bits al l)
    (P : List (List UInt8)) (h1 : P.length ≤ 100) (h2 : P.flatten.length ≤ 100) : Row0 w N fa enc P := by
  have hp : ∀ p ∈ P, p.length ≤ 1000 := fun p h => by have := mem_len_flatten h; omega
  refine ⟨fun p h => fn p (hp p h), fun p _ => asc_of ha sg p, hp, ?_⟩
  have := (enc_sum hb sg P).2
  omega
theorem row1 (fn : ∀ p : List UInt8, p.length ≤ 1000 → Fun (KK w) w N 4 (.ref fa) [.bytes p] (.bytes (enc p))) (hb : bits = 4 ∨ bits = 6) (ha : ∀ x ∈ al, x < 128) (sg : ∀ l, nat8 (enc l) = signs bits al l)
    (P : List (List UInt8)) (h1 : P.length ≤ 100) (h2 : P.flatten.length ≤ 100) (h3 : 0 < P.flatten.length) : Row1 w N wide fa enc bits al P := by
  have hle := (enc_sum hb sg P).1
  refine ⟨row0 fn hb ha sg P h1 h2, by omega, by omega, fun p _ => sg p, ?_, fun _ => ledger_ne (by omega), fun h => ?_⟩
  · rw [tabs_ledger, sg_map sg]
  · exact ledger_sum _ _ _
theorem oft_of {t s : Tab} (h : t.map (fun kv => (kv.1, kv.2.headD 0)) = s.map fun kv => (kv.1, kv.2.headD 0)) : oftD t = oftD s := by
  have e : ∀ t : Tab, (t.map fun kv => D.tup [.str (one kv.1), .int (kv.2.headD 0)]) = (t.map fun kv => (kv.1, kv.2.headD 0)).map fun kv => D.tup [.str (one kv.1), .int kv.2] := fun t => by
    rw [List.map_map]; rfl
  show D.list _ = D.list _
  rw [e t, e s, h]
theorem kind_of (hc : Callee (KK w) (.ref fa)) (fn : ∀ p : List UInt8, p.length ≤ 1000 → Fun (KK w) w N 4 (.ref fa) [.bytes p] (.bytes (enc p))) (hb : bits = 4 ∨ bits = 6) (ha : ∀ x ∈ al, x < 128) (hal : al.length = 2 ^ bits) (sg : ∀ l, nat8 (enc l) = signs bits al l)
    (P : List (List UInt8)) (h1 : P.length ≤ 100) (h2 : P.flatten.length ≤ 100) (h3 : 0 < P.flatten.length) (size : Nat) (hs : 0 < size)
    (h4 : bits = 4 → oftD (tabs wide enc P) = oftD (tabs wide enc [P.flatten])) (h5 : oftD (tabs wide enc (cuts size P.flatten)) = oftD (tabs wide enc [P.flatten])) :
    Fun (KK w) w N 6 (.ref 164) [.val (.ref fa), .int bits, .str (txt al), dP P, dP (cuts size P.flatten), .bool wide] (.bool true) := by
  have hf := cuts_flatten size hs P.flatten
  have hl := cuts_len size hs P.flatten
  have h1f : [P.flatten].flatten = P.flatten := by rw [List.flatten_cons, List.flatten_nil, List.append_nil]
  exact c_kind hc hb hal (row1 fn hb ha sg P h1 h2 h3) (row1 fn hb ha sg _ (by omega) (by rw [hf]; exact h2) (by rw [hf]; exact h3)) (row0 fn hb ha sg _ (by simp) (by rw [h1f]; exact h2)) h4 h5
end
theorem c_whole {w : World} {N : Nat} {ns : List Int} (hn : ns.length ≤ 63) : Fun (KK w) w N 8 (.ref 176) [.list (nums ns)] (.bool true) := by
  refine c_law hn ?_
  obtain ⟨n1, n2⟩ := nums13_len ns
  obtain ⟨p1, p2, p3⟩ := pieces_len (nums13 ns)
  generalize pieces (nums13 ns) = P at *
  generalize ((ns.sum.fmod 6).fmod 2 == 1) = wide
  obtain ⟨size, hs, hs1, hs3, he⟩ : ∃ size : Nat, 0 < size ∧ size < 100 ∧ size % 3 = 0 ∧ (3 + 3 * ((ns.sum.fmod 6).fdiv 2) : Int) = (size : Int) := by
    have hb1 := Int.fmod_nonneg_of_pos ns.sum (show (0:Int) < 6 by decide)
    have hb2 := Int.fmod_lt_of_pos ns.sum (show (0:Int) < 6 by decide)
    generalize ns.sum.fmod 6 = z at hb1 hb2
    have hz : z = 0 ∨ z = 1 ∨ z = 2 ∨ z = 3 ∨ z = 4 ∨ z = 5 := by omega
    rcases hz with rfl | rfl | rfl | rfl | rfl | rfl
    · exact ⟨3, by decide, by decide, by decide, rfl⟩
    · exact ⟨3, by decide, by decide, by decide, rfl⟩
    · exact ⟨6, by decide, by decide, by decide, rfl⟩
    · exact ⟨6, by decide, by decide, by decide, rfl⟩
    · exact ⟨9, by decide, by decide, by decide, rfl⟩
    · exact ⟨9, by decide, by decide, by decide, rfl⟩
  rw [he]
  have f64 : ∀ p : List UInt8, p.length ≤ 1000 → (enc64 p).length ≤ 1000000 := fun p hp => by
    have := (enc_len (.inr rfl) sg64 p).2; omega
  refine c_all (by omega) hs hs1 ?_ ?_ ?_
  · exact kind_of (.fn rfl rfl) (fun p hp => (c_b16 (by omega)).mono (by decide)) (.inl rfl) (by decide) (by decide) sg16 P (by omega) (by omega) (by omega) size hs (fun _ => oft_of (heads16 wide P)) (oft_of (heads16c wide size hs _))
  · exact kind_of (.fn rfl rfl) (fun p hp => c_std (by omega)) (.inr rfl) (by decide) (by decide) sg64 P (by omega) (by omega) (by omega) size hs (fun h => absurd h (by decide)) (oft_of (heads64c sg64 wide size hs hs3 _))
  · exact kind_of (.fn rfl rfl) (fun p hp => c_url (by omega) (f64 p hp)) (.inr rfl) (by decide) (by decide) sgUrl P (by omega) (by omega) (by omega) size hs (fun h => absurd h (by decide)) (oft_of (heads64c sgUrl wide size hs hs3 _))
end Mine
end
section
open PySem PySem.W PyProof.Rows PySem.Calls
set_option Elab.async false
set_option maxRecDepth 100000
set_option autoImplicit false
set_option linter.unusedVariables false
namespace Mine
theorem g_law (w : World) : Glo (KK w) "law" (some (.ref 176)) := glo_of (glo_ok w) (by kernel_rfl)
theorem mg_of {K : Frag} {h : Heap} {mg : Str → Option Value} (X : K.In h) (g : h.Ns mainGlobals mg) {x : Str} {r : Option Value} (q : Glo K x r) : mg x = r := by
  obtain ⟨o, es, ep, h1, h2, _, h3⟩ := q
  obtain ⟨o', es', ep', g1, g2, _, g3⟩ := g
  rw [X _ _ h1] at g1
  cases g1
  rw [h2] at g2
  cases g2
  exact (g3 x).symm.trans h3
theorem keys_ok (w : World) : (KK w).all (fun kv => !(kv.1 == TP)) = true := by kernel_rfl
theorem mem_look {α : Type} : ∀ {l : List (Addr × α)} {a : Addr} {o : α}, l.lookup a = some o → (a, o) ∈ l
  | [], a, o, h => by cases h
  | (b, x) :: l, a, o, h => by
    rw [List.lookup_cons] at h
    cases q : a == b with
    | true => rw [q] at h; cases h; rw [eq_of_beq q]; exact List.mem_cons_self ..
    | false => rw [q] at h; exact List.mem_cons_of_mem _ (mem_look h)
theorem fn35 (w : World) : ∃ o fd, (KK w).lookup 35 = some o ∧ o.data = .func fd ∧ fd.code = .ref TC := ⟨_, _, rfl, rfl, rfl⟩
theorem code34 (w : World) : ∃ o vs, (KK w).lookup TC = some o ∧ o.data = .fields vs ∧ vs[11]? = some (.ref TP) := ⟨_, _, rfl, rfl, rfl⟩
theorem in176 (w : World) : ∃ o, (KK w).lookup 176 = some o := ⟨_, rfl⟩
theorem has_addc : ((recsOf vw).any fun e => e.name == "add_callers") = true := by kernel_rfl
/-- the table of add_callers stands empty -/
theorem tab_of {w : World} {loose : List Str} {mean : ExcName → Option Value} {mg mb : Str → Option Value} {h : Heap} (X : (KK w).In h) (T : Top vw loose mean mg mb h) : h.IsCode TC TP #[] ∧ h.TableAt TC TP #[] := by
  obtain ⟨d, hd1, hn⟩ := List.any_eq_true.mp has_addc
  obtain ⟨a, o, fd, c, P, h1, h2, h3, h4, h5, h6⟩ := T.tab d hd1
  rw [eq_of_beq hn, mg_of X T.g (g_add_callers w)] at h1
  cases h1
  obtain ⟨o', fd', k1, k2, k3⟩ := fn35 w
  rw [X _ _ k1] at h2
  cases h2
  rw [k2] at h3
  cases h3
  rw [k3] at h4
  cases h4
  obtain ⟨o2, vs, l1, l2, l3⟩ := code34 w
  have hP : P = TP := by
    obtain ⟨⟨o3, vs3, m1, m2, m3, m4⟩, _⟩ := id h6
    rw [X _ _ l1] at m1
    cases m1
    rw [l2] at m3
    cases m3
    rw [l3] at m4
    cases m4
    rfl
  subst hP
  exact ⟨h5, h6⟩
theorem base_of {w : World} {loose : List Str} {mean : ExcName → Option Value} {mg mb : Str → Option Value} {h : Heap} (X : (KK w).In h) (T : Top vw loose mean mg mb h) : Base (KK w) h.objs.size h := by
  refine ⟨fun a o e => ⟨X a o e, Heap.lt_size (X a o e), fun q => ?_⟩, ⟨mb, T.b, T.builtins⟩, T.nolimit, ?_, ⟨#[], tab_of X T⟩, ?_, Nat.le_refl _⟩
  · have := List.all_eq_true.mp (keys_ok w) _ (mem_look e)
    rw [q] at this
    cases this
  · obtain ⟨bm, ob, b1, _, b2, b3⟩ := T.bmain
    rw [mg_of X T.g (g_builtins w)] at b1
    cases b1
    exact ⟨ob, b2, b3⟩
  · obtain ⟨o, ho⟩ := in176 w
    have := Heap.lt_size (X _ _ ho)
    exact Nat.le_trans (show (100 : Nat) ≤ 176 by decide) (Nat.le_of_lt this)
theorem rep_ints {P : World} {σ : Sto} : ∀ {vs : List Value} {ns : List Int}, IntsAre vs ns → RepL P σ (nums ns) vs
  | _, _, .nil => .nil
  | _, _, .cons n t r => .cons .int (rep_ints r)
theorem low_of {R : WRecords} {cl : Str → Option Addr} {h : Heap} {vals : List Value} {args : List WData} {as : List Addr} (r : ReadsAllW R cl h vals args as) (lo : ∀ a ∈ as, (a == sysModules) = false) :
    ∀ (a : Addr) (o : Obj), vals = [.ref a] → h.get? a = some o → o.cls = .type "list" → (a == sysModules) = false := by
  intro a o e ho hc
  cases r with
  | nil => cases e
  | cons r1 r2 =>
    cases e
    cases r1 with
    | list => exact lo _ (by simp)
    | dict => exact lo _ (by simp)
    | bytearray => exact lo _ (by simp)
    | _ => rename_i h1 h2 _; first | (rw [ho] at h1; cases h1; rw [hc] at h2; exact absurd h2 (by decide +kernel)) | simp_all
theorem old_of {K : Frag} {σ σ' : Sto} {s s' : Shared} (x : Step K s.heap.objs.size σ s σ' s') (t : s.heap.TableAt TC TP #[]) : OldK s.heap s'.heap := by
  obtain ⟨ps, _, t'⟩ := x.g.base.tab
  refine ⟨fun b o e => ?_, fun b o e => ?_⟩
  · by_cases hb : b = TP
    · subst hb
      have e₀ : o = { cls := .none, data := .fields #[] } := Option.some.inj (e.symm.trans t.2)
      subst e₀
      exact .inr (.inl ⟨t.isCodeTable, rfl, #[], ps, rfl, by rw [t'.2, Array.empty_append]⟩)
    · exact .inl (x.kp.low e hb (Heap.lt_size e))
  · obtain ⟨o', h', _⟩ : ∃ o', s'.heap.get? b = some o' ∧ True := by
      by_cases hb : b = TP
      · subst hb; exact ⟨_, t'.2, trivial⟩
      · exact ⟨_, x.kp.low e hb (Heap.lt_size e), trivial⟩
    exact ⟨o', h'⟩
/-- the law's call, from where the head ends -/
theorem law_call {w : World} {loose : List Str} {mean : ExcName → Option Value} {mg mb : Str → Option Value} {s : Shared} (X : (KK w).In s.heap) (T : Top vw loose mean mg mb s.heap) (hg : s.gens = #[])
    {a : Addr} {vs : List Value} {ns : List Int} (hL : s.heap.IsList a vs.toArray) (hI : IntsAre vs ns) (hn : ns.length ≤ 63) (hlow : ∀ o, s.heap.get? a = some o → o.cls = .type "list" → (a == sysModules) = false)
    {Q : Value → Shared → Prop} {E : Value → Shared → Prop} (q : ∀ s', OldK s.heap s'.heap → s'.os = s.os → AllBare s'.gens → Q (.bool true) s') :
    wpAny (model PR w) callerA (call (.ref 176) [.ref a]) Q E s := by
  obtain ⟨o, ho, hc, n, hd'⟩ := hL
  have t := (tab_of X T).2
  have hne : a ≠ TP := fun e => by
    subst e
    rw [t.2] at ho
    cases ho
    cases hc
  have g : G (KK w) s.heap.objs.size (put (fun _ => none) a o) s := by
    refine ⟨base_of X T, fun b x e => ?_, .of_eq hg⟩
    unfold put at e
    split at e
    · rename_i hb
      subst hb
      cases e
      exact ⟨ho, ⟨hne, hlow _ ho hc⟩, by rw [hc]; exact cls_ne⟩
    · cases e
  have rm : Rm s.heap.objs.size callerA 8 s.heap := ⟨by decide, by decide, rfl, [], rfl, fun _ h => nomatch h⟩
  refine c_whole (w := w) (N := s.heap.objs.size) hn callerA _ s [.ref a] Q E g rm (.cons (.list put_self hc hd' (by simpa using rep_ints hI)) .nil) fun σ' s' v x r => ?_
  cases r
  exact q s' (old_of x t) x.os x.g.gens
end Mine
end
open PySem PySem.W PyProof.Rows
set_option Elab.async false
set_option maxRecDepth 100000 in
set_option maxHeartbeats 4000000 in
theorem PySem.Challenge.cw_mj0078_01_holds : PySem.Challenge.rw_mj0078_01.Holds := by
  refine Mine.hd ?_
  intro w s₀ s₁ mg mb G Y fa o pm cd doc dV kV ho hd' hcd hD hmg hg args vals as hpre hlay hrd hwl hlo
  have KX : (Mine.KK w).In s₁.heap := kIn_of Y
  have T := G.T
  have low := Mine.low_of hrd hlo
  have hfa : some (Value.ref 176) = some (Value.ref fa) := (Mine.mg_of KX T.g (Mine.g_law w)).symm.trans hmg
  clear ho hd' hcd hD G hmg Y
  cases hfa
  wrow_args hpre hlay hrd hwl hlo
  rename_i ns hs hlay0 hLy hr1 hl2 w4 w3 a vs w0 hL ra w1 r0 hI hr hc hc'
  refine Mine.law_call KX T hg hL hI (by omega) (fun o h1 h2 => low a o rfl h1 h2) fun s' h1 h2 h3 => ?_
  have hp : PySem.Challenge.rw_mj0078_01.row.claim.post [ofPy (PyData.list (List.map PyData.int ns))] (.bool true) [ofPy (PyData.list (List.map PyData.int ns))] = true := by wrow_post
  exact ⟨.inl ⟨_, .bool true, [], rfl, fun _ => rfl, ReadsW.bool true, hp, fun _ => ⟨List.nodup_nil, fun _ hm => nomatch hm⟩⟩, h1, h2, h3⟩
