import PyProof.Rows.All
import PyProof.ToksMono
import Wide.FinOn
import OpenK.AllK
import Wide.All
import Lean
import PySem.Challenge.RW_wv0036_01
set_option Elab.async false
set_option tactic.hygienic false
set_option linter.all false
open PySem PySem.Calls PyProof.Rows PySem.W
set_option maxRecDepth 100000
set_option genInjectivity false
set_option genSizeOf false
namespace Mine
local macro_rules | `(⋯) => `(by kernel_rfl)
abbrev Ee := Value → Shared → Prop
abbrev Ap := Addr → Prop
abbrev Lw := List (Str × Value)
abbrev Ls := List (Str × Str)
abbrev Wb := @wpAny_bind
abbrev Wq := @wpAny_pure
local macro_rules | `(tactic| rfl') => `(tactic| kernel_rfl)
abbrev A1' := @Nat.le_trans
abbrev A2' := @Nat.lt_of_lt_of_le
abbrev A3' := @Heap.get?_push_of_some
abbrev A4' := @Heap.get?_push_size
abbrev A5' := @Heap.lt_size
abbrev A6' := @Nat.le_refl
abbrev A7' := @Nat.lt_irrefl
abbrev A8' := @Nat.ne_of_lt
abbrev A9' := @Nat.zero_le
abbrev B1' := @Nat.lt_succ_of_lt
abbrev B2' := @wpAny_execs_cons
abbrev B3' := @wpAny_holding
abbrev B4' := @Nat.lt_of_le_of_lt
abbrev B5' := @List.mem_cons_of_mem
abbrev B6' := @Nat.le_succ_of_le
abbrev B7' := @wpAny_newObj_type
abbrev B8' := @wpAny_with_toks
theorem C1' {α : Type} {a b : α} (h : a ∈ [b]) : a = b := List.mem_singleton.mp h
theorem C2' {α : Type} {a b : α} {l : List α} (h : a ∈ b :: l) : a = b ∨ a ∈ l := List.mem_cons.mp h
theorem C3' {α : Type} {a : α} {l m : List α} (h : a ∈ l ++ m) : a ∈ l ∨ a ∈ m := List.mem_append.mp h
theorem C4' {a b : Bool} (h : (a && b) = true) : a = true ∧ b = true := Bool.and_eq_true_iff.mp h
theorem C5' {α β : Type} {f : α → β} {b : β} {l : List α} (h : b ∈ l.map f) : ∃ a, a ∈ l ∧ f a = b := List.mem_map.mp h
section
open Sem (wp)
theorem aC (h : Heap) (o : Obj) : h.objs.size ≤ (h.push o).objs.size := by unfold Heap.push; simp
theorem gI (h : Heap) (a : Addr) (f : Obj → Obj) : (h.update a f).objs.size = h.objs.size := by unfold Heap.update; simp
theorem runs_hsz {M : Model} {Γ : Ctx} {p : Pos} {t : Sem Fin} {fs : List Frame} {s s' : Shared} {e : End} (h : Runs M Γ p t fs s e s') : s.heap.objs.size ≤ s'.heap.objs.size := by
 induction h <;> (try simp only [Shared.setGen, gI] at *) <;> first | lia | exact A1' (aC _ _) (by assumption) | skip
theorem kZ {M : Model} {Γ : Ctx} {p : Pos} {s s' : Shared} {r : Result} (h : Returns M Γ p s r s') : s.heap.objs.size ≤ s'.heap.objs.size := runs_hsz h
theorem ou {M : Model} {Γ : Ctx} {p : Pos} {g : Nat} {r : Resume} {s s' : Shared} {res : GenResult} (h : Wakes M Γ p g r s res s') : s.heap.objs.size ≤ s'.heap.objs.size := by
 unfold Wakes at h
 split at h
 ·exact h.elim
 ·split at h
  ·obtain ⟨e₁, s₁, hr, _, _, rfl⟩ := h; exact (runs_hsz hr : (s.setGen g .running).heap.objs.size ≤ s₁.heap.objs.size)
  ·rw [h.2]; exact A6' _
  ·rw [h.2]; exact A6' _
 ·obtain ⟨e₁, s₁, hr, _, _, rfl⟩ := h; exact (runs_hsz hr : (s.setGen g .running).heap.objs.size ≤ s₁.heap.objs.size)
 ·rw [h.2]; exact A6' _
 ·rw [h.2]; exact A6' _
theorem wt {α : Type} (M : Model) (Γ : Ctx) (n : Nat) (t : Sem α) : ∀ (Q : α → Pos → Shared → Prop) (E : Value → Pos → Shared → Prop) (p : Pos) (s : Shared), n ≤ s.heap.objs.size → wp M Γ t Q E p s →
  wp M Γ t (fun a p' s' => n ≤ s'.heap.objs.size ∧ Q a p' s') (fun e p' s' => n ≤ s'.heap.objs.size ∧ E e p' s') p s := by
 induction t with
 | pure a => intro Q E p s hn h; exact ⟨hn, h⟩
 | raise e => intro Q E p s hn h; exact ⟨hn, h⟩
 | unsupported _ => intro Q E p s _ h; exact h
 | finish _ => intro Q E p s _ h; exact h
 | rule _ k ih => intro Q E p s hn h; exact ih () Q E p s hn h
 | «at» p' k ih => intro Q E p s hn h; exact ih () Q E p' s hn h
 | load a _ k ih => intro Q E p s hn h; obtain ⟨o, ho, h⟩ := h; exact ⟨o, ho, ih o Q E p s hn h⟩
 | update a _ f k ih => intro Q E p s hn h; exact ⟨h.1, ih () Q E p _ ((by rw [gI]; exact hn)) h.2⟩
 | loadIfAlive a k ih => intro Q E p s hn h; exact ih _ Q E p s hn h
 | point _ k ih => intro Q E p s hn h; exact ih () Q E p s hn h
 | register _ _ => intro Q E p s _ h; exact h
 | alloc o k ih => intro Q E p s hn h; exact ih _ Q E p _ (A1' hn (aC ..)) h
 | fresh k ih => intro Q E p s hn h; exact ih _ Q E p _ hn h
 | ask k ih => intro Q E p s hn h; exact ih _ Q E p s hn h
 | choose src m k ih => intro Q E p s hn h; exact ⟨h.1, ih _ Q E p _ hn h.2⟩
 | os q _ k ih => intro Q E p s hn h; exact ih _ Q E p _ hn h
 | call c hd _ _ k ih => intro Q E p s hn h; obtain ⟨r, s', hr, h⟩ := h; exact ⟨r, s', hr, ih r Q E p s' (A1' hn (kZ hr)) h⟩
 | handled own k ih => intro Q E p s hn h; exact ih _ Q E p s hn h
 | genState g k ih => intro Q E p s hn h; obtain ⟨st, hs, h⟩ := h; exact ⟨st, hs, ih _ Q E p s hn h⟩
 | newGen c k ih => intro Q E p s hn h; exact ih _ Q E p _ hn h
 | resume g r _ k ih => intro Q E p s hn h; obtain ⟨res, s', hw, h⟩ := h; exact ⟨res, s', hw, ih res Q E p s' (A1' hn (ou hw)) h⟩
 | yield _ _ _ _ => intro Q E p s _ h; exact h
 | stack k ih => intro Q E p s hn h; exact ih _ Q E p s hn h
 | fork _ _ => intro Q E p s _ h; exact h
 | thread k ih => intro Q E p s hn h; exact ih _ Q E p s hn h
 | await _ _ _ _ _ => intro Q E p s _ h; exact h
theorem bh {α : Type} {M : Model} {A : Around} {s : Shared} {t : Sem α} {Q : α → Shared → Prop} {E : Ee} (h : wpAny M A t Q E s) :
  wpAny M A t (fun a s' => s.heap.objs.size ≤ s'.heap.objs.size ∧ Q a s') E s :=
 wpAny_mono (fun Γ p hΓ => wt M Γ s.heap.objs.size t _ _ p s (A6' _) (h Γ p hΓ) : wpAny M A t (fun a s' => s.heap.objs.size ≤ s'.heap.objs.size ∧ Q a s') (fun a s' => s.heap.objs.size ≤ s'.heap.objs.size ∧ E a s') s) (fun z z x => x) fun z z x => x.2
theorem aA {α : Type} {M : Model} {A : Around} {s : Shared} {t : Sem α} {Q : α → Shared → Prop} {E : Ee} (h : wpAny M A t (fun a s' => s.heap.objs.size ≤ s'.heap.objs.size → Q a s') E s) : wpAny M A t Q E s :=
 wpAny_mono (bh h) (fun z z x => x.2 x.1) fun z z x => x
end
section
inductive V where
 | none
 | bool (b : Bool)
 | int (i : Int)
 | flt (x : UInt64)
 | str (s : Str)
 | byt (b : Array UInt8)
 | list (xs : List V)
 | tup (xs : List V)
 | dict (kvs : List (Str × V))
 | sta (v : Value)
abbrev Lv := List (Str × V)
section
variable (prog : Program) (w : World)
mutual
inductive VR (M : Ap) (h : Heap) : Value → V → Prop
 | none : VR M h .none .none
 | bool (b) : VR M h (.bool b) (.bool b)
 | int (i t) : VR M h (.int i t) (.int i)
 | flt (x t) : VR M h (.float x t) (.flt x)
 | str (x t) : VR M h (.str x t) (.str x)
 | byt (x t) : VR M h (.bytes x t) (.byt x)
 | sta (v) : VR M h v (.sta v)
 | list {a vs n xs} (hM : ¬ M a) (ho : h.get? a = some { cls := .type "list", data := .seq vs n }) (r : VRs M h vs.toList xs) : VR M h (.ref a) (.list xs)
 | tup {a vs n xs} {o : Obj} (hM : ¬ M a) (ho : h.get? a = some o) (hc : o.cls = .type "tuple") (hd : o.data = .seq vs n) (r : VRs M h vs.toList xs) : VR M h (.ref a) (.tup xs)
 | dict {a kvs xs} (hM : ¬ M a) (hd : h.DictOf (strKind prog w) a kvs) (hm : (a == sysModules) = false) (r : VRd M h kvs xs) : VR M h (.ref a) (.dict xs)
inductive VRs (M : Ap) (h : Heap) : List Value → List V → Prop
 | nil : VRs M h [] []
 | cons {v vs x xs} : VR M h v x → VRs M h vs xs → VRs M h (v :: vs) (x :: xs)
inductive VRd (M : Ap) (h : Heap) : Lw → Lv → Prop
 | nil : VRd M h [] []
 | cons {k v vs x xs} : VR M h v x → VRd M h vs xs → VRd M h ((k, v) :: vs) ((k, x) :: xs)
end
end
section
variable {prog : Program} {w : World} {M M' : Ap} {h h' : Heap}
theorem DictOf.at' {K : Type} [DecidableEq K] {knd : PySem.KeyKind prog w K} {a : Addr} {kvs : List (K × Value)} (x : h.DictOf knd a kvs) (hk : ∀ o, h.get? a = some o → h'.get? a = some o) : h'.DictOf knd a kvs := by
 obtain ⟨o, es, ep, e, r⟩ := x
 exact ⟨o, es, ep, hk _ e, r⟩
theorem DictOf.has {K : Type} [DecidableEq K] {knd : PySem.KeyKind prog w K} {a : Addr} {kvs : List (K × Value)} (x : h.DictOf knd a kvs) : ∃ o, h.get? a = some o := by
 obtain ⟨o, _, _, e, _⟩ := x
 exact ⟨o, e⟩
theorem yI {a : Addr} {o : Obj} (hM' : ∀ b, M' b → M b ∨ h.get? b = none) (hM : ¬ M a) (ho : h.get? a = some o) : ¬ M' a := fun q =>
 (hM' a q).elim hM fun q => nomatch q.symm.trans ho
noncomputable def Dc (M M' : Ap) (h h' : Heap) : Prop := (∀ b o, ¬ M b → h.get? b = some o → h'.get? b = some o) ∧ ∀ b, M' b → M b ∨ h.get? b = none
theorem jX (k : Dc M M' h h') :
  (∀ {v : Value} {x : V}, VR prog w M h v x → VR prog w M' h' v x) ∧ (∀ {v : List Value} {x : List V}, VRs prog w M h v x → VRs prog w M' h' v x) ∧ (∀ {v : Lw} {x : Lv}, VRd prog w M h v x → VRd prog w M' h' v x) := by
 have list : ∀ {a : Addr} {vs : Array Value} {n : Nat} {xs : List V}, ¬ M a → h.get? a = some { cls := .type "list", data := .seq vs n } → VRs prog w M h vs.toList xs → VRs prog w M' h' vs.toList xs → VR prog w M' h' (.ref a) (.list xs) := fun hM ho z r => .list (yI k.2 hM ho) (k.1 _ _ hM ho) r
 have tup : ∀ {a : Addr} {vs : Array Value} {n : Nat} {xs : List V} {o : Obj}, ¬ M a → h.get? a = some o → o.cls = .type "tuple" → o.data = .seq vs n → VRs prog w M h vs.toList xs → VRs prog w M' h' vs.toList xs → VR prog w M' h' (.ref a) (.tup xs) := fun hM ho hc hd z r => .tup (yI k.2 hM ho) (k.1 _ _ hM ho) hc hd r
 have dict : ∀ {a : Addr} {kvs : Lw} {xs : Lv}, ¬ M a → h.DictOf (strKind prog w) a kvs → (a == sysModules) = false → VRd prog w M h kvs xs → VRd prog w M' h' kvs xs → VR prog w M' h' (.ref a) (.dict xs) := fun hM hd hm z r =>
  .dict (let ⟨_, e⟩ := DictOf.has hd; yI k.2 hM e) (DictOf.at' hd fun o e => k.1 _ _ hM e) hm r
 have c2 : ∀ {v : Value} {vs : List Value} {x : V} {xs : List V}, VR prog w M h v x → VRs prog w M h vs xs → VR prog w M' h' v x → VRs prog w M' h' vs xs → VRs prog w M' h' (v :: vs) (x :: xs) := fun z z a b => .cons a b
 have c3 : ∀ {k : Str} {v : Value} {vs : Lw} {x : V} {xs : Lv}, VR prog w M h v x → VRd prog w M h vs xs → VR prog w M' h' v x → VRd prog w M' h' vs xs → VRd prog w M' h' ((k, v) :: vs) ((k, x) :: xs) := fun z z a b => .cons a b
 exact ⟨fun r => VR.rec (motive_1 := fun v x z => VR prog w M' h' v x) (motive_2 := fun v x z => VRs prog w M' h' v x) (motive_3 := fun v x z => VRd prog w M' h' v x) VR.none VR.bool VR.int VR.flt VR.str VR.byt VR.sta list tup dict VRs.nil c2 VRd.nil c3 r,
  fun r => VRs.rec (motive_1 := fun v x z => VR prog w M' h' v x) (motive_2 := fun v x z => VRs prog w M' h' v x) (motive_3 := fun v x z => VRd prog w M' h' v x) VR.none VR.bool VR.int VR.flt VR.str VR.byt VR.sta list tup dict VRs.nil c2 VRd.nil c3 r,
  fun r => VRd.rec (motive_1 := fun v x z => VR prog w M' h' v x) (motive_2 := fun v x z => VRs prog w M' h' v x) (motive_3 := fun v x z => VRd prog w M' h' v x) VR.none VR.bool VR.int VR.flt VR.str VR.byt VR.sta list tup dict VRs.nil c2 VRd.nil c3 r⟩
theorem VR.mono (hk : ∀ b o, ¬ M b → h.get? b = some o → h'.get? b = some o) (hM' : ∀ b, M' b → M b ∨ h.get? b = Option.none) {v : Value} {x : V} (r : VR prog w M h v x) : VR prog w M' h' v x := (jX ⟨hk, hM'⟩).1 r
theorem VRs.mono (hk : ∀ b o, ¬ M b → h.get? b = some o → h'.get? b = some o) (hM' : ∀ b, M' b → M b ∨ h.get? b = none) {v : List Value} {x : List V} (r : VRs prog w M h v x) : VRs prog w M' h' v x := (jX ⟨hk, hM'⟩).2.1 r
theorem VRd.mono (hk : ∀ b o, ¬ M b → h.get? b = some o → h'.get? b = some o) (hM' : ∀ b, M' b → M b ∨ h.get? b = none) {v : Lw} {x : Lv} (r : VRd prog w M h v x) : VRd prog w M' h' v x := (jX ⟨hk, hM'⟩).2.2 r
theorem VR.keeps (hk : ∀ b o, h.get? b = some o → h'.get? b = some o) {v : Value} {x : V} (r : VR prog w M h v x) : VR prog w M h' v x := r.mono (fun b o z e => hk b o e) (fun z q => .inl q)
theorem VRs.keeps (hk : ∀ b o, h.get? b = some o → h'.get? b = some o) {v : List Value} {x : List V} (r : VRs prog w M h v x) : VRs prog w M h' v x := r.mono (fun b o z e => hk b o e) (fun z q => .inl q)
theorem VRs.length : ∀ {vs : List Value} {xs : List V}, VRs prog w M h vs xs → vs.length = xs.length := by
 intro vs
 induction vs with
 | nil => intro xs r; cases r; rfl
 | cons v vs ih => intro xs r; cases r with | cons _ r => exact congrArg Nat.succ (ih r)
theorem VRs.append {us : List Value} {ys : List V} (q : VRs prog w M h us ys) : ∀ {vs : List Value} {xs : List V}, VRs prog w M h vs xs → VRs prog w M h (vs ++ us) (xs ++ ys) := by
 intro vs
 induction vs with
 | nil => intro xs r; cases r; exact q
 | cons v vs ih => intro xs r; cases r with | cons a r => exact .cons a (ih r)
theorem VRs.get' : ∀ {vs : List Value} {xs : List V} {i : Nat} {v : Value}, VRs prog w M h vs xs → vs[i]? = some v → ∃ x, xs[i]? = some x ∧ VR prog w M h v x := by
 intro vs
 induction vs with
 | nil => intro xs i v _ e; cases e
 | cons u vs ih =>
  intro xs i v r e
  cases r with | cons a r =>
  cases i with
  | zero => cases e; exact ⟨_, rfl, a⟩
  | succ i => exact ih (i := i) r e
theorem VRs.get {vs : List Value} {xs : List V} {i : Nat} {x : V} (r : VRs prog w M h vs xs) (e : xs[i]? = some x) : ∃ v, vs[i]? = some v ∧ VR prog w M h v x := by
 have hi : i < vs.length := by rw [r.length]; exact (List.getElem?_eq_some_iff.mp e).1
 obtain ⟨y, e', q⟩ := r.get' (List.getElem?_eq_getElem hi)
 rw [e] at e'; cases e'
 exact ⟨_, List.getElem?_eq_getElem hi, q⟩
theorem VR.int_inv {v : Value} {i : Int} (r : VR prog w M h v (.int i)) : ∃ t, v = .int i t := by cases r; exact ⟨_, rfl⟩
theorem VR.flt_inv {v : Value} {i : UInt64} (r : VR prog w M h v (.flt i)) : ∃ t, v = .float i t := by cases r; exact ⟨_, rfl⟩
theorem VR.str_inv {v : Value} {i : Str} (r : VR prog w M h v (.str i)) : ∃ t, v = .str i t := by cases r; exact ⟨_, rfl⟩
theorem VR.byt_inv {v : Value} {i : Array UInt8} (r : VR prog w M h v (.byt i)) : ∃ t, v = .bytes i t := by cases r; exact ⟨_, rfl⟩
theorem VR.list_inv {v : Value} {xs : List V} (r : VR prog w M h v (.list xs)) : ∃ a vs n, v = .ref a ∧ ¬ M a ∧ h.get? a = some { cls := .type "list", data := .seq vs n } ∧ VRs prog w M h vs.toList xs := by cases r with | list a b c => exact ⟨_, _, _, rfl, a, b, c⟩
theorem VR.tup_inv {v : Value} {xs : List V} (r : VR prog w M h v (.tup xs)) : ∃ a vs n o, v = .ref a ∧ ¬ M a ∧ h.get? a = some o ∧ o.cls = .type "tuple" ∧ o.data = .seq vs n ∧ VRs prog w M h vs.toList xs := by cases r with | tup a b c d e => exact ⟨_, _, _, _, rfl, a, b, c, d, e⟩
theorem VR.dict_inv {v : Value} {xs : Lv} (r : VR prog w M h v (.dict xs)) : ∃ a kvs, v = .ref a ∧ ¬ M a ∧ h.DictOf (strKind prog w) a kvs ∧ (a == sysModules) = false ∧ VRd prog w M h kvs xs := by cases r with | dict a b c d => exact ⟨_, _, rfl, a, b, c, d⟩
end
theorem au {α : Type} {M : Model} {A : Around} {E : Ee} {s : Shared} {t : Sem α} {Q Q' : α → Shared → Prop} (h : wpAny M A t Q E s) (k : ∀ a s', Q a s' → Q' a s') : wpAny M A t Q' E s := wpAny_mono h k fun z z x => x
theorem AI {α : Type} {M : Model} {A : Around} {E : Ee} {s : Shared} {t : Sem α} {Q : α → Shared → Prop} (h : ∀ Q' : α → Shared → Prop, (∀ a s', Q a s' → Q' a s') → wpAny M A t Q' E s) : wpAny M A t Q E s := h Q fun z z q => q
end
section
theorem Kp.refl' (s : Shared) : Keeps s s := ⟨s.heap, s.toks, rfl, fun z z e => e⟩
theorem Kp.toks' (s : Shared) (k : Nat) : Keeps s { s with toks := k } := ⟨s.heap, k, rfl, fun z z e => e⟩
theorem Kp.push' (s : Shared) (o : Obj) (k : Nat) : Keeps s { s with heap := s.heap.push o, toks := k } := ⟨_, k, rfl, fun z z e => A3' _ e⟩
theorem Kp.trans' {s s' s'' : Shared} (a : Keeps s s') (b : Keeps s' s'') : Keeps s s'' := by
 obtain ⟨h, t, rfl, k⟩ := a
 obtain ⟨h', t', rfl, k'⟩ := b
 exact ⟨h', t', rfl, fun b o e => k' b o (k b o e)⟩
theorem Kp.get {s s' : Shared} (a : Keeps s s') {b : Addr} {o : Obj} (e : s.heap.get? b = some o) : s'.heap.get? b = some o := by
 obtain ⟨h, t, rfl, k⟩ := a
 exact k b o e
noncomputable def Dom (M : Ap) (s : Shared) : Prop := ∀ b, M b → b < s.heap.objs.size
theorem Dom.new {M : Ap} {s : Shared} (d : Dom M s) : ¬ M s.heap.objs.size := fun q => A7' _ (d _ q)
theorem Dom.size {M : Ap} {s s' : Shared} (d : Dom M s) (k : s.heap.objs.size ≤ s'.heap.objs.size) : Dom M s' := fun b q => A2' (d b q) k
section
variable (prog : Program) (w : World) (M : Ap)
noncomputable def Got (s : Shared) (x : V) : Ee := fun v s' => Keeps s s' ∧ VR prog w M s'.heap v x
end
section
variable {prog : Program} {w : World} {M : Ap} {s : Shared} {A : Around} {E : Ee}
theorem aP (i : Int) (t k : Nat) : Got prog w M s (.int i) (.int i t) { s with toks := k } := ⟨Kp.toks' s k, .int i t⟩
theorem cJ (i : UInt64) (t k : Nat) : Got prog w M s (.flt i) (.float i t) { s with toks := k } := ⟨Kp.toks' s k, .flt i t⟩
theorem aW (i : Str) (t k : Nat) : Got prog w M s (.str i) (.str i t) { s with toks := k } := ⟨Kp.toks' s k, .str i t⟩
theorem aB (b : Bool) : Got prog w M s (.bool b) (.bool b) s := ⟨Kp.refl' s, .bool b⟩
theorem dD (d : Dom M s) {vs : Array Value} {xs : List V} (r : VRs prog w M s.heap vs.toList xs) :
  Got prog w M s (.list xs) (.ref s.heap.objs.size) { s with heap := s.heap.push { cls := .type "list", data := .seq vs } } :=
 ⟨Kp.push' s _ _, .list d.new (A4' _ rfl) (r.keeps fun z z e => A3' _ e)⟩
theorem uQ (d : Dom M s) {vs : Array Value} {xs : List V} (r : VRs prog w M s.heap vs.toList xs) :
  Got prog w M s (.tup xs) (.ref s.heap.objs.size) { s with heap := s.heap.push { cls := .type "tuple", data := .seq vs } } :=
 ⟨Kp.push' s _ _, .tup d.new (A4' _ rfl) rfl rfl (r.keeps fun z z e => A3' _ e)⟩
end
noncomputable def Cq (n : Nat) (xs : List V) : List V := (List.replicate n xs).flatten
theorem aX : sizeLine = 16777216 := rfl
noncomputable def dN (prog : Program) (w : World) (op : Operator) (a b c : V) : Prop := ∀ {M : Ap} {s : Shared} {A : Around} {E : Ee} {va vb : Value}, VR prog w M s.heap va a → VR prog w M s.heap vb b → Dom M s → wpAny (model prog w) A (binaryOp op va vb) (Got prog w M s c) E s
section
variable {prog : Program} {w : World} {op : Operator}
theorem ee {a b : Int} {c : V} (h : ∀ {M : Ap} {s : Shared} {A : Around} {E : Ee} (t u : Tok), wpAny (model prog w) A (binaryOp op (.int a t) (.int b u)) (Got prog w M s c) E s) : dN prog w op (.int a) (.int b) c := fun ra rb z =>
 let ⟨t, e⟩ := ra.int_inv
 let ⟨u, e'⟩ := rb.int_inv
 e ▸ e' ▸ h t u
theorem lh {a b : UInt64} {c : V} (h : ∀ {M : Ap} {s : Shared} {A : Around} {E : Ee} (t u : Tok), wpAny (model prog w) A (binaryOp op (.float a t) (.float b u)) (Got prog w M s c) E s) : dN prog w op (.flt a) (.flt b) c := fun ra rb z =>
 let ⟨t, e⟩ := ra.flt_inv
 let ⟨u, e'⟩ := rb.flt_inv
 e ▸ e' ▸ h t u
theorem sk {a : UInt64} {b : Int} {c : V} (h : ∀ {M : Ap} {s : Shared} {A : Around} {E : Ee} (t u : Tok), wpAny (model prog w) A (binaryOp op (.float a t) (.int b u)) (Got prog w M s c) E s) : dN prog w op (.flt a) (.int b) c := fun ra rb z =>
 let ⟨t, e⟩ := ra.flt_inv
 let ⟨u, e'⟩ := rb.int_inv
 e ▸ e' ▸ h t u
theorem xH {a : Int} {b : UInt64} {c : V} (h : ∀ {M : Ap} {s : Shared} {A : Around} {E : Ee} (t u : Tok), wpAny (model prog w) A (binaryOp op (.int a t) (.float b u)) (Got prog w M s c) E s) : dN prog w op (.int a) (.flt b) c := fun ra rb z =>
 let ⟨t, e⟩ := ra.int_inv
 let ⟨u, e'⟩ := rb.flt_inv
 e ▸ e' ▸ h t u
theorem fz {x y : Str} (h : x.length + y.length ≤ 10000) : dN prog w .Add (.str x) (.str y) (.str (x ++ y)) := fun ra rb z => by
 obtain ⟨t, rfl⟩ := ra.str_inv
 obtain ⟨u, rfl⟩ := rb.str_inv
 exact SB.add (fun t' k => aW _ _ _) (by rw [aX]; exact A1' ‹_› (by decide))
theorem cQ {x y : List V} (h : x.length + y.length ≤ 10000) : dN prog w .Add (.list x) (.list y) (.list (x ++ y)) := fun ra rb d => by
 obtain ⟨a, vs, n, rfl, _, ho, r⟩ := ra.list_inv
 obtain ⟨b, us, m, rfl, _, ho', r'⟩ := rb.list_inv
 have h1 := r.length
 have h2 := r'.length
 rw [Array.length_toList] at h1 h2
 exact P.add_list ho ho' (dD d (by rw [Array.toList_append]; exact r'.append r)) (by rw [aX]; lia)
theorem iA {x : Str} {n : Int} (hi : 0 ≤ n ∧ n ≤ 1000 ∧ x.length ≤ 1000) : dN prog w .Mult (.str x) (.int n) (.str (Txt.mul x n)) := fun ra rb z => by
 obtain ⟨t, rfl⟩ := ra.str_inv
 obtain ⟨u, rfl⟩ := rb.int_inv
 refine SB.mul ⟨?_, ?_, ?_⟩ fun t' k => aW _ _ _
 ·simp only [Bool.or_eq_false_iff, decide_eq_false_iff_not]; lia
 ·intro h1 _ _
  have h6 : (2 ^ 63 - 1 : Int) / 1000 ≤ (2 ^ 63 - 1) / n := (Int.le_ediv_iff_mul_le (by lia)).mpr (Int.le_trans (Int.mul_le_mul_of_nonneg_left hi.2.1 (by decide)) (by decide))
  have h8 : ((2 ^ 63 - 1) / 1000 : Int) > 1000 := by decide
  lia
 ·intro _ _
  have h3 : x.length * n.toNat ≤ 1000 * 1000 := Nat.mul_le_mul hi.2.2 (by lia)
  exact decide_eq_false (by rw [aX]; lia)
theorem VRs.rep {M : Ap} {h : Heap} {vs : List Value} {xs : List V} (r : VRs prog w M h vs xs) : ∀ n : Nat, VRs prog w M h (List.replicate n vs).flatten (Cq n xs) := by
 intro v0'
 induction v0' with
 | zero =>
  exact  .nil
 | succ n ih' =>
  exact  (ih').append r
theorem nP (l : List (Array Value)) : ∀ acc : Array Value, (l.foldl (fun x1 x2 => x1 ++ x2) acc).toList = acc.toList ++ (l.map Array.toList).flatten := by
 induction l with
 | nil => intro acc; simp
 | cons a l ih => intro acc; rw [List.foldl_cons, ih]; simp
theorem pU {xs : List V} {n : Int} (hi : 0 ≤ n ∧ n ≤ 1000 ∧ xs.length ≤ 1000 ∧ xs ≠ []) : dN prog w .Mult (.list xs) (.int n) (.list (Cq n.toNat xs)) := fun {M s A E _ _} ra rb d => by
 obtain ⟨l, items, k, rfl, _, ho, r⟩ := ra.list_inv
 obtain ⟨t, rfl⟩ := rb.int_inv
 have h1 := r.length
 rw [Array.length_toList] at h1
 have h2 : items.size * n.toNat ≤ 1000 * 1000 := Nat.mul_le_mul (by lia) (by lia)
 have h4 : items.isEmpty = false := by
  cases xs with
  | nil => exact absurd rfl hi.2.2.2
  | cons _ _ => exact Array.isEmpty_eq_false_iff.mpr (fun e => by subst e; cases h1)
 refine wpAny_binaryOp_repeat_ref (T := "list") (U := "int") (by decide) ⟨_, ho, rfl⟩ (fun s' => typeIs_int s' n t) noFill_list_mul F.fills_int_mul F.slot_int_rmul repeat_list F.slot_int_index.lookup
  (call_meets F.slot_int_rmul (typeIs_int s n t) F.entry_int_rmul (F.args_int_rmul_2 _ _) (int___rmul___int_list n t l items k)
   ⟨ho, rfl, ⟨_, ho, rfl⟩, call_meets F.slot_list_mul ⟨_, ho, rfl⟩ F.entry_list_mul (F.args_list_mul_2 _ _)
    (AutoListH.list___mul___list_int_3 l items k n t (by simp [Builtin.List.listFitsIndex]; lia) (by lia) (by simp [Builtin.List.listTooLong, aX]; exact A1' ‹_› (by decide)))
    ⟨ho, ?_⟩⟩)
 rw [h4]
 refine dD d ?_
 rw [nP, List.map_replicate]
 exact r.rep n.toNat
theorem vZ {a b : Int} (hi : 0 ≤ b ∧ b ≤ 1000 ∧ 2 ≤ a ∧ a ≤ 1000) : dN prog w .Pow (.int a) (.int b) (.int (a ^ b.toNat)) := ee fun t u => by
 refine AutoIntOpsIf.pow ?_
 rw [if_pos (show b ≥ 0 from hi.1)]
 by_cases hb : b = 0
 ·subst hb; rw [if_pos (by rfl), show a ^ Int.toNat 0 = 1 from by simp]; exact aP _ _ _
 ·rw [if_neg (by simpa using hb), if_neg (by simp; lia), if_neg (by simp; lia), if_neg]
  ·exact aP _ _ _
  ·have h1 : Builtin.Int.intBits a ≤ 64 := intBits_le_64 (by lia) (by lia)
   have h2 : ((Builtin.Int.intBits a : Nat) : Int) * b ≤ 64 * 1000 := Int.mul_le_mul (by lia) hi.2.1 hi.1 (by decide)
   have h3 : bitsLine = 134217728 := rfl
   unfold Builtin.Int.intTooBig
   simp only [decide_eq_true_eq, h3]; lia
end
abbrev wd (prog : Program) (w : World) (op : Operator) (a b : V) := Option { c : V // dN prog w op a b c }
noncomputable def Ea (prog : Program) (w : World) (a b : V) : wd prog w .Add a b := match a, b with
 | .int _, .int _ => some ⟨.int _, ee fun z z => AutoIntOps.add_0 (aP _ _ _)⟩
 | .flt _, .flt _ => some ⟨.flt _, lh fun z z => AutoFloatOps.add_0 (cJ _ _ _)⟩
 | .flt _, .int b => if h : Float64.isInf (Float64.ofInt b) = true then none else some ⟨.flt _, sk fun z z => AutoFloatOpsIf.add_fi (by rw [if_neg h]; exact cJ _ _ _)⟩
 | .str x, .str y => if h : x.length + y.length ≤ 10000 then some ⟨_, fz h⟩ else none
 | .list x, .list y => if h : x.length + y.length ≤ 10000 then some ⟨_, cQ h⟩ else none
 | _, _ => none
noncomputable def CV (prog : Program) (w : World) (a b : V) : wd prog w .Mult a b := match a, b with
 | .int a, .int _ => if h : Builtin.Int.intBits a ≤ 64 then some ⟨.int _, ee fun z z => AutoIntOps.mul_0 (aP _ _ _) (IntMulOk.of_left h)⟩ else none
 | .flt _, .int b => if h : Float64.isInf (Float64.ofInt b) = true then none else some ⟨.flt _, sk fun z z => AutoFloatOpsIf.mul_fi (by rw [if_neg h]; exact cJ _ _ _)⟩
 | .int a, .flt _ => if h : Float64.isInf (Float64.ofInt a) = true then none else some ⟨.flt _, xH fun z z => AutoFloatOpsIf.mul_if (by rw [if_neg h]; exact cJ _ _ _)⟩
 | .str x, .int n => if h : 0 ≤ n ∧ n ≤ 1000 ∧ x.length ≤ 1000 then some ⟨_, iA h⟩ else none
 | .list (x :: xs), .int n => if h : 0 ≤ n ∧ n ≤ 1000 ∧ (x :: xs).length ≤ 1000 then some ⟨_, pU ⟨h.1, h.2.1, h.2.2, fun e => nomatch e⟩⟩ else none
 | _, _ => none
noncomputable def Ac (prog : Program) (w : World) (a b : V) : wd prog w .Sub a b := match a, b with
 | .int _, .int _ => some ⟨.int _, ee fun z z => AutoIntOps.sub_0 (aP _ _ _)⟩
 | .flt _, .flt _ => some ⟨.flt _, lh fun z z => AutoFloatOps.sub_0 (cJ _ _ _)⟩
 | _, _ => none
noncomputable def Dh (prog : Program) (w : World) (a b : V) : wd prog w .Div a b := match a, b with
 | .int a, .int b => if h : (b == 0) = true then none else if h' : Float64.isInf (Float64.ofFrac (decide (a < 0) != decide (b < 0)) a.natAbs b.natAbs) = true then none else
  some ⟨.flt _, ee fun z z => AutoIntOpsIf.truediv (by rw [if_neg h, if_neg h']; exact cJ _ _ _)⟩
 | .flt _, .flt b => if h : Float64.isZero b = true then none else some ⟨.flt _, lh fun z z => AutoFloatOpsIf.truediv (by rw [if_neg h]; exact cJ _ _ _)⟩
 | _, _ => none
noncomputable def CO (prog : Program) (w : World) (a b : V) : wd prog w .Mod a b := match a, b with
 | .int _, .int b => if h : (b == 0) = true then none else some ⟨.int _, ee fun z z => AutoIntOpsIf.mod (by rw [if_neg h]; exact aP _ _ _)⟩
 | .flt _, .flt b => if h : Float64.isZero b = true then none else some ⟨.flt _, lh fun z z => AutoFloatOpsIf.mod (by rw [if_neg h]; exact cJ _ _ _)⟩
 | _, _ => none
noncomputable def CQ (prog : Program) (w : World) (op : Operator) (a b : V) : wd prog w op a b := match op with
 | .Add => Ea prog w a b
 | .Sub => Ac prog w a b
 | .Mult => CV prog w a b
 | .Div => Dh prog w a b
 | .Mod => CO prog w a b
 | .FloorDiv => match a, b with
  | .int a, .int b => if h : (b == 0) = true then none else if h' : Builtin.divisionGoesByPylong a b = true then none else some ⟨.int _, ee fun z z => AutoIntOpsIf.floordiv (by rw [if_neg h, if_neg h']; exact aP _ _ _)⟩
  | _, _ => none
 | .Pow => match a, b with
  | .int a, .int b => if h : 0 ≤ b ∧ b ≤ 1000 ∧ 2 ≤ a ∧ a ≤ 1000 then some ⟨_, vZ h⟩ else none
  | _, _ => none
 | _ => none
end
section
noncomputable def eP (prog : Program) (w : World) (n : Nat) (x : V) (d : PyData) : Prop := d.canLay0 = true ∧ d.depth ≤ n ∧ ∀ {M : Ap} {h : Heap} {v : Value}, VR prog w M h v x → ∃ as, Reads h v d as
noncomputable def iI (prog : Program) (w : World) (n : Nat) (x : List V) (d : List PyData) : Prop := PyData.canLayAll0 d = true ∧ PyData.depthAll d ≤ n ∧ ∀ {M : Ap} {h : Heap} {v : List Value}, VRs prog w M h v x → ∃ as, ReadsAll h v d as
section
variable {prog : Program} {w : World}
theorem ch {n : Nat} : iI prog w n [] [] := ⟨rfl, A9' _, fun r => by cases r; exact ⟨_, .nil⟩⟩
theorem ba {n : Nat} {x : V} {d : PyData} {xs : List V} {ds : List PyData} (a : eP prog w n x d) (b : iI prog w n xs ds) : iI prog w n (x :: xs) (d :: ds) :=
 ⟨by unfold PyData.canLayAll0; rw [a.1, b.1]; rfl, by unfold PyData.depthAll; exact Nat.max_le.mpr ⟨a.2.1, b.2.1⟩, fun r => by
  cases r with | cons p q =>
  obtain ⟨as, h1⟩ := a.2.2 p
  obtain ⟨bs, h2⟩ := b.2.2 q
  exact ⟨_, .cons h1 h2⟩⟩
theorem bQ {n : Nat} {xs : List V} {ds : List PyData} (b : iI prog w n xs ds) : eP prog w (n + 1) (.list xs) (.list ds) :=
 ⟨by unfold PyData.canLay0; exact b.1, by unfold PyData.depth; exact Nat.succ_le_succ b.2.1, fun r => by
  obtain ⟨a, vs, n, rfl, _, ho, r⟩ := r.list_inv
  obtain ⟨as, q⟩ := b.2.2 r
  exact ⟨_, .list ho rfl rfl q⟩⟩
theorem lL {n : Nat} {xs : List V} {ds : List PyData} (b : iI prog w n xs ds) : eP prog w (n + 1) (.tup xs) (.tuple ds) :=
 ⟨by unfold PyData.canLay0; exact b.1, by unfold PyData.depth; exact Nat.succ_le_succ b.2.1, fun r => by
  obtain ⟨a, vs, n, o, rfl, _, ho, hc, hd, r⟩ := r.tup_inv
  obtain ⟨as, q⟩ := b.2.2 r
  exact ⟨_, .tuple ho hc hd q⟩⟩
end
noncomputable def vN {prog : Program} {w : World} {n : Nat} (f : (x : V) → Option { d : PyData // eP prog w n x d }) : (xs : List V) → Option { d : List PyData // iI prog w n xs d }
 | [] => some ⟨[], ch⟩
 | x :: r => match f x with
  | none => none
  | some a => match vN f r with
   | none => none
   | some b => some ⟨a.1 :: b.1, ba a.2 b.2⟩
noncomputable def pyV (prog : Program) (w : World) : (n : Nat) → (x : V) → Option { d : PyData // eP prog w n x d }
 | n, x => match x with
  | .none => some ⟨.none, rfl, A9' _, fun r => by cases r; exact ⟨_, .none⟩⟩
  | .bool b => some ⟨.bool b, rfl, A9' _, fun r => by cases r; exact ⟨_, .bool b⟩⟩
  | .int i => some ⟨.int i, rfl, A9' _, fun r => by obtain ⟨t, rfl⟩ := r.int_inv; exact ⟨_, .int i t⟩⟩
  | .str s => if h : PyData.strOk s = true then some ⟨.str s, by unfold PyData.canLay0; exact h, A9' _, fun r => by obtain ⟨t, rfl⟩ := r.str_inv; exact ⟨_, .str s t⟩⟩ else none
  | .list xs => match n with
   | 0 => none
   | n + 1 => match vN (pyV prog w n) xs with
    | some a => some ⟨.list a.1, bQ a.2⟩
    | none => none
  | .tup xs => match n with
   | 0 => none
   | n + 1 => match vN (pyV prog w n) xs with
    | some a => some ⟨.tuple a.1, lL a.2⟩
    | none => none
  | _ => none
noncomputable def a6 (prog : Program) (w : World) (op : CmpOp) (a b : V) (r : Bool) : Prop := ∀ {M : Ap} {s : Shared} {A : Around} {E : Ee} {va vb : Value}, VR prog w M s.heap va a → VR prog w M s.heap vb b → A.units + 20 < cLine →
 wpAny (model prog w) A (compareOp op va vb) (Got prog w M s (.bool r)) E s
abbrev xC (prog : Program) (w : World) (op : CmpOp) (a b : V) := Option { r : Bool // a6 prog w op a b r }
section
variable {prog : Program} {w : World} {M : Ap} {s : Shared} {A : Around} {E : Ee}
theorem vK {n : Nat} {x y : V} {a b : PyData} (ha : eP prog w n x a) (hb : eP prog w n y b) {va vb : Value} (ra : VR prog w M s.heap va x) (rb : VR prog w M s.heap vb y) (hu : A.units + n < cLine) : SeqAt.EqAt A s va vb (PyData.eqv a b) := by
 obtain ⟨as, qa⟩ := ha.2.2 ra
 obtain ⟨bs, qb⟩ := hb.2.2 rb
 exact SeqAt.eqAt_reads _ _ A s va vb as bs qa qb ha.1 hb.1 (by have := ha.2.1; lia)
theorem iV {x y : V} {a b : PyData} (ha : eP prog w 8 x a) (hb : eP prog w 8 y b) : a6 prog w .Eq x y (PyData.eqv a b) := fun ra rb hu => by
 obtain ⟨as, qa⟩ := ha.2.2 ra
 obtain ⟨bs, qb⟩ := hb.2.2 rb
 exact SeqAt.compareEq_reads qa qb ha.1 hb.1 (by have := ha.2.1; lia) (aB _)
theorem lO {x y : V} {a b : PyData} (ha : eP prog w 8 x a) (hb : eP prog w 8 y b) : a6 prog w .NotEq x y (!PyData.eqv a b) := fun ra rb hu => by
 obtain ⟨as, qa⟩ := ha.2.2 ra
 obtain ⟨bs, qb⟩ := hb.2.2 rb
 exact SeqAt.compareNe_reads qa qb ha.1 hb.1 (by have := ha.2.1; lia) (aB _)
theorem r9 {x : V} {d : PyData} (hx : eP prog w 8 x d) {vx : Value} (rx : VR prog w M s.heap vx x) (hu : A.units + 20 < cLine) {ds : List PyData} : ∀ {vs : List Value} {as : List Addr}, ReadsAll s.heap vs ds as → PyData.canLayAll0 ds = true → PyData.depthAll ds ≤ 8 →
  ∃ e : Value → Bool, (∀ y ∈ vs, SeqAt.EqAt A.in1 s y vx (e y)) ∧ vs.any e = ds.any fun y => PyData.eqv y d := by
 classical
 obtain ⟨bs, qx⟩ := hx.2.2 rx
 let f : Value → Bool := fun y => if h : ∃ z, PyData.canLay0 z = true ∧ ∃ as, Reads s.heap y z as then PyData.eqv h.choose d else false
 have key : ∀ y z as, Reads s.heap y z as → PyData.canLay0 z = true → f y = PyData.eqv z d := fun y z as q hl => by
  have h : ∃ z, PyData.canLay0 z = true ∧ ∃ as, Reads s.heap y z as := ⟨z, hl, as, q⟩
  have e1 : f y = PyData.eqv h.choose d := dif_pos h
  obtain ⟨hc, as', qc⟩ := h.choose_spec
  rw [e1, SeqAt.Reads.unique _ _ _ _ _ hc qc q]
 clear_value f
 intro vs as q hl hd
 refine ⟨f, ?_⟩
 induction ds generalizing vs as with
 | nil => cases q; exact ⟨fun u h => (nomatch h), rfl⟩
 | cons z ds ih =>
  cases q with | cons p q =>
  unfold PyData.canLayAll0 at hl
  unfold PyData.depthAll at hd
  obtain ⟨l1, l2⟩ := C4' hl
  obtain ⟨d1, d2⟩ := Nat.max_le.mp hd
  obtain ⟨i1, i2⟩ := ih q l2 d2
  have hf := key _ _ _ p l1
  refine ⟨fun y hy => ?_, by rw [List.any_cons, List.any_cons, hf, i2]⟩
  rcases C2' hy with rfl | hy
  ·rw [hf]; exact SeqAt.eqAt_reads _ _ A.in1 s _ vx _ bs p qx l1 hx.1 (by show A.units + 1 + _ < _; lia)
  ·exact i1 y hy
theorem gV {x : V} {d : PyData} (hx : eP prog w 8 x d) {xs : List V} {ds : List PyData} (hs : iI prog w 8 xs ds) : a6 prog w .In x (.list xs) (ds.any fun y => PyData.eqv y d) ∧ a6 prog w .NotIn x (.list xs) (!ds.any fun y => PyData.eqv y d) := by
 constructor <;>
 ·intro M s A E va vb ra rb hu
  obtain ⟨l, vs, n, rfl, _, ho, rr⟩ := rb.list_inv
  obtain ⟨as, q⟩ := hs.2.2 rr
  obtain ⟨f, h1, h2⟩ := r9 (A := A) hx ra hu q hs.1 hs.2.1
  rw [← h2, Array.any_toList]
  first
   | exact SeqAt.in_listAt f ⟨_, ho, rfl, n, rfl⟩ (fun y hy => h1 y (Array.mem_toList_iff.mpr hy)) (aB _)
   | exact SeqAt.notIn_listAt f ⟨_, ho, rfl, n, rfl⟩ (fun y hy => h1 y (Array.mem_toList_iff.mpr hy)) (aB _)
theorem lY {x : V} {d : PyData} (hx : eP prog w 8 x d) {xs : List V} {ds : List PyData} (hs : iI prog w 8 xs ds) : a6 prog w .In x (.tup xs) (ds.any fun y => PyData.eqv y d) ∧ a6 prog w .NotIn x (.tup xs) (!ds.any fun y => PyData.eqv y d) := by
 constructor <;>
 ·intro M s A E va vb ra rb hu
  obtain ⟨l, vs, n, o, rfl, _, ho, hc, hd, rr⟩ := rb.tup_inv
  obtain ⟨as, q⟩ := hs.2.2 rr
  obtain ⟨f, h1, h2⟩ := r9 (A := A) hx ra hu q hs.1 hs.2.1
  rw [← h2, Array.any_toList]
  first
   | exact SeqAt.in_tupleAt f ⟨_, ho, hc, n, hd⟩ (fun y hy => h1 y (Array.mem_toList_iff.mpr hy)) (aB _)
   | exact SeqAt.notIn_tupleAt f ⟨_, ho, hc, n, hd⟩ (fun y hy => h1 y (Array.mem_toList_iff.mpr hy)) (aB _)
theorem nO {op : CmpOp} {a b : Int} {c : Bool} (h : ∀ {M : Ap} {s : Shared} {A : Around} {E : Ee} (t u : Tok), wpAny (model prog w) A (compareOp op (.int a t) (.int b u)) (Got prog w M s (.bool c)) E s) : a6 prog w op (.int a) (.int b) c := fun ra rb z =>
 let ⟨t, e⟩ := ra.int_inv
 let ⟨u, e'⟩ := rb.int_inv
 e ▸ e' ▸ h t u
theorem r0 {op : CmpOp} {a b : UInt64} {c : Bool} (h : ∀ {M : Ap} {s : Shared} {A : Around} {E : Ee} (t u : Tok), wpAny (model prog w) A (compareOp op (.float a t) (.float b u)) (Got prog w M s (.bool c)) E s) : a6 prog w op (.flt a) (.flt b) c := fun ra rb z =>
 let ⟨t, e⟩ := ra.flt_inv
 let ⟨u, e'⟩ := rb.flt_inv
 e ▸ e' ▸ h t u
theorem sn {op : CmpOp} {a : UInt64} {b : Int} {c : Bool} (h : ∀ {M : Ap} {s : Shared} {A : Around} {E : Ee} (t u : Tok), wpAny (model prog w) A (compareOp op (.float a t) (.int b u)) (Got prog w M s (.bool c)) E s) : a6 prog w op (.flt a) (.int b) c := fun ra rb z =>
 let ⟨t, e⟩ := ra.flt_inv
 let ⟨u, e'⟩ := rb.int_inv
 e ▸ e' ▸ h t u
theorem fU {op : CmpOp} {a b : Str} {c : Bool} (h : ∀ {M : Ap} {s : Shared} {A : Around} {E : Ee} (t u : Tok), wpAny (model prog w) A (compareOp op (.str a t) (.str b u)) (Got prog w M s (.bool c)) E s) : a6 prog w op (.str a) (.str b) c := fun ra rb z =>
 let ⟨t, e⟩ := ra.str_inv
 let ⟨u, e'⟩ := rb.str_inv
 e ▸ e' ▸ h t u
end
noncomputable def cc (kb : Lv) (k : Str) : Option V := (kb.find? fun p => p.1 = k).map (·.2)
set_option tactic.hygienic true in
theorem fy {prog : Program} {w : World} {M : Ap} {h : Heap} {kb : Lv} : ∀ {vb : Lw}, VRd prog w M h vb kb → ∀ k, match cc kb k with
  | none => valueAt vb k = none
  | some y => ∃ vy, valueAt vb k = some vy ∧ VR prog w M h vy y := by
 induction kb with
 | nil => intro vb r k; cases r; rfl
 | cons p kb ih =>
  intro vb r k
  cases r with | cons a q =>
  rename_i kk v vs x
  by_cases hk : kk = k
  ·rw [show cc ((kk, x) :: kb) k = some x from by simp [cc, hk]]
   exact ⟨v, by simp [valueAt, hk], a⟩
  ·rw [show cc ((kk, x) :: kb) k = cc kb k from by simp [cc, hk], show valueAt ((kk, v) :: vs) k = valueAt vs k from by simp [valueAt, hk]]
   exact ih q k
theorem VRd.length {prog : Program} {w : World} {M : Ap} {h : Heap} : ∀ {vs : Lw} {xs : Lv}, VRd prog w M h vs xs → vs.length = xs.length := by
 intro vs
 induction vs with
 | nil => intro xs r; cases r; rfl
 | cons v vs ih => intro xs r; cases r with | cons _ r => exact congrArg Nat.succ (ih r)
noncomputable def dc (prog : Program) (w : World) (kb ka : Lv) (r : Bool) : Prop := ∀ {M : Ap} {s : Shared} {A : Around} {va vb : Lw}, VRd prog w M s.heap va ka → VRd prog w M s.heap vb kb → A.units + 8 < cLine → KeqHits A s vb va r
section
variable {prog : Program} {w : World}
theorem gZ {kb : Lv} : dc prog w kb [] true := fun ra z z => by cases ra; exact .nil
theorem pq {kb ka : Lv} {k : Str} {v : V} (h : cc kb k = none) : dc prog w kb ((k, v) :: ka) false := fun ra rb z => by
 cases ra with | cons a q =>
 have := fy rb k
 rw [h] at this
 exact .miss this
theorem iC {kb ka : Lv} {k : Str} {v y : V} {a b : PyData} {r : Bool} (h : cc kb k = some y) (ha : eP prog w 8 v a) (hb : eP prog w 8 y b) (i : dc prog w kb ka r) : dc prog w kb ((k, v) :: ka) (PyData.eqv a b && r) := fun ra rb hu => by
 cases ra with | cons p q =>
 have l := fy rb k
 rw [h] at l
 obtain ⟨vy, l1, ry⟩ := l
 exact .hit l1 (vK ha hb p ry hu) (i q rb hu)
theorem tF {xs ys : Lv} {q : Bool} (i : dc prog w ys xs q) : a6 prog w .Eq (.dict xs) (.dict ys) (xs.length == ys.length && q) := fun ra rb hu => by
 obtain ⟨a, kvs, rfl, _, hd, hm, r⟩ := ra.dict_inv
 obtain ⟨b, kus, rfl, _, hd', hm', r'⟩ := rb.dict_inv
 rw [← r.length, ← r'.length]
 exact keq_eq hm hm' hd hd' (by exact B4' (Nat.le_add_right ..) ‹_›) (fun z => i r r' (show _ + 1 + 8 < cLine by lia)) (aB _)
theorem kt {xs ys : Lv} {q : Bool} (i : dc prog w ys xs q) : a6 prog w .NotEq (.dict xs) (.dict ys) (!(xs.length == ys.length && q)) := fun ra rb hu => by
 obtain ⟨a, kvs, rfl, _, hd, hm, r⟩ := ra.dict_inv
 obtain ⟨b, kus, rfl, _, hd', hm', r'⟩ := rb.dict_inv
 rw [← r.length, ← r'.length]
 exact keq_ne hm hm' hd hd' (by exact B4' (Nat.le_add_right ..) ‹_›) (fun z => i r r' (show _ + 1 + 8 < cLine by lia)) (aB _)
end
noncomputable def tA (prog : Program) (w : World) (kb : Lv) : (ka : Lv) → Option { r : Bool // dc prog w kb ka r }
 | [] => some ⟨true, gZ⟩
 | (k, v) :: ka => match h : cc kb k with
  | none => some ⟨false, pq h⟩
  | some y => match pyV prog w 8 v, pyV prog w 8 y, tA prog w kb ka with
   | some a, some b, some r => some ⟨_, iC h a.2 b.2 r.2⟩
   | _, _, _ => none
noncomputable def eqV (prog : Program) (w : World) (a b : V) : xC prog w .Eq a b := match a, b with
 | .flt _, .flt _ => some ⟨_, r0 fun z z => AutoFloatOps.eq_0 (aB _)⟩
 | .flt _, .int _ => some ⟨_, sn fun z z => eq_fi (aB _)⟩
 | .dict xs, .dict ys => match tA prog w ys xs with
  | some q => some ⟨_, tF q.2⟩
  | none => none
 | a, b => match pyV prog w 8 a, pyV prog w 8 b with
  | some a, some b => some ⟨_, iV a.2 b.2⟩
  | _, _ => none
noncomputable def neV (prog : Program) (w : World) (a b : V) : xC prog w .NotEq a b := match a, b with
 | .flt _, .int _ => some ⟨_, sn fun z z => ne_fi (aB _)⟩
 | .dict xs, .dict ys => match tA prog w ys xs with
  | some q => some ⟨_, kt q.2⟩
  | none => none
 | a, b => match pyV prog w 8 a, pyV prog w 8 b with
  | some a, some b => some ⟨_, lO a.2 b.2⟩
  | _, _ => none
noncomputable def inV (prog : Program) (w : World) (a b : V) : xC prog w .In a b := match a, b with
 | .str _, .str _ => some ⟨_, fU fun z z => SB.contains (aB _)⟩
 | a, .list xs => match pyV prog w 8 a, vN (pyV prog w 8) xs with
  | some a, some b => some ⟨_, (gV a.2 b.2).1⟩
  | _, _ => none
 | a, .tup xs => match pyV prog w 8 a, vN (pyV prog w 8) xs with
  | some a, some b => some ⟨_, (lY a.2 b.2).1⟩
  | _, _ => none
 | _, _ => none
noncomputable def El (prog : Program) (w : World) (a b : V) : xC prog w .NotIn a b := match a, b with
 | .str _, .str _ => some ⟨_, fU fun z z => SB.notContains (aB _)⟩
 | a, .list xs => match pyV prog w 8 a, vN (pyV prog w 8) xs with
  | some a, some b => some ⟨_, (gV a.2 b.2).2⟩
  | _, _ => none
 | a, .tup xs => match pyV prog w 8 a, vN (pyV prog w 8) xs with
  | some a, some b => some ⟨_, (lY a.2 b.2).2⟩
  | _, _ => none
 | _, _ => none
noncomputable def Bt (prog : Program) (w : World) (op : CmpOp) (a b : V) : xC prog w op a b := match op with
 | .Eq => eqV prog w a b
 | .NotEq => neV prog w a b
 | .In => inV prog w a b
 | .NotIn => El prog w a b
 | .Lt => match a, b with
  | .int _, .int _ => some ⟨_, nO fun z z => P.lt_int (aB _)⟩
  | _, _ => none
 | .Gt => match a, b with
  | .int _, .int _ => some ⟨_, nO fun z z => P.gt_int (aB _)⟩
  | _, _ => none
 | .LtE => match a, b with
  | .flt _, .flt _ => some ⟨_, r0 fun z z => AutoFloatOps.le_0 (aB _)⟩
  | _, _ => none
 | _ => none
end
section
noncomputable def lq : List Nat → List Nat → Bool
 | [], [] => true
 | a :: x, b :: y => match Nat.beq a b with
  | true => lq x y
  | false => false
 | _, _ => false
theorem sa : ∀ {x y : List Nat}, lq x y = true ↔ x = y
 | [], [] => ⟨fun z => rfl, fun z => rfl⟩
 | [], _ :: _ => ⟨fun h => (nomatch h), fun h => (nomatch h)⟩
 | _ :: _, [] => ⟨fun h => (nomatch h), fun h => (nomatch h)⟩
 | a :: x, b :: y => by
  unfold lq
  cases h : Nat.beq a b with
  | true =>
   have := Nat.eq_of_beq_eq_true h
   subst this
   show lq x y = true ↔ _
   rw [sa, List.cons.injEq]
   exact ⟨fun q => ⟨rfl, q⟩, fun q => q.2⟩
  | false =>
   have : a ≠ b := Nat.ne_of_beq_eq_false h
   exact ⟨fun q => (nomatch q), fun q => absurd (List.cons.inj q).1 this⟩
noncomputable def sq (a b : Str) : Bool := lq a.cps.toList b.cps.toList
theorem aN {a b : Str} : sq a b = true ↔ a = b := by
 unfold sq
 rw [sa]
 constructor
 ·intro h
  cases a; cases b
  simp only [Str.mk.injEq]
  exact Array.toList_inj.mp h
 ·rintro rfl; rfl
theorem bi (a : Str) : sq a a = true := aN.mpr rfl
theorem dE {a b : Str} (h : a ≠ b) : sq a b = false := by
 cases q : sq a b with
 | false => rfl
 | true => exact absurd (aN.mp q) h
theorem aJ {a b : Str} (h : sq a b = false) : a ≠ b := fun e => by
 rw [aN.mpr e] at h; cases h
noncomputable def lk {α : Type} : List (Str × α) → Str → Option α
 | [], _ => none
 | (k, v) :: r, x => match sq x k with
  | true => some v
  | false => lk r x
theorem ig {α : Type} (l : List (Str × α)) (x : Str) : lk l x = l.lookup x := by
 induction l with
 | nil => rfl
 | cons p r ih =>
  obtain ⟨k, v⟩ := p
  unfold lk
  rw [List.lookup_cons]
  cases h : sq x k with
  | true =>
   have := aN.mp h
   subst this
   simp
  | false =>
   have := aJ h
   have e : (x == k) = false := by simpa using this
   rw [e]
   exact ih
inductive MV where
 | dic (kvs : Lv)
 | lis (xs : List V)
 | hdr (xs : List V)
structure ao where
 names : List (Str × NameKind)
 loc : Lv
 cel : Lv
 mo : List (Str × MV)
 cw : List Str
 mw : Bool
 tw : Bool
structure Std where
 prog : Program
 w : World
 base : Addr
 tab : Addr
 b2 : 1 < base
 tb : (tab == sysModules) = false
 St : Heap → Prop
 stb : ∀ h h', (∀ b o, b < base → b ≠ tab → h.get? b = some o → h'.get? b = some o) → St h → St h'
 hobj : Addr → Obj
 gl : Str → Option Value
 glob : ∀ {A : Around} {E : Ee} {s : Shared} {env : Env} {x : Str} {v : Value} {Q : Ee}, St s.heap → env.globals = mainGlobals → env.builtins = builtinsNs → gl x = some v → Q v s →
  wpAny (model prog w) A (loadGlobal env x) Q E s
 TabSt : Env → (Addr → Prop) → Heap → Prop
 tabF : ∀ {env M h}, TabSt env M h → ∃ o fs, h.get? tab = some o ∧ o.data = .fields fs
 tabK : ∀ {env : Env} {M M' : Ap} {h h' : Heap}, (∀ o, h.get? tab = some o → h'.get? tab = some o) → (∀ b o, ¬ M b → h.get? b = some o → h'.get? b = some o) → (∀ b, M' b → M b ∨ h.get? b = none) → TabSt env M h → TabSt env M' h'
structure bb (n : Nat) (A : Around) : Prop where
 units : A.units + 60 + 20 * n < cLine
 depth : A.depth + 20 + 10 * n < recursionLimit
 handled : A.handled = none
noncomputable def has (x : Str) : List Str → Bool
 | [] => false
 | y :: r => match sq x y with
  | true => true
  | false => has x r
noncomputable def aq (W : Ap) (s s' : Shared) : Prop := ∃ h t, s' = { s with heap := h, toks := t } ∧ ∀ b o, ¬ W b → s.heap.get? b = some o → h.get? b = some o
theorem aq.refl {W : Ap} (s : Shared) : aq W s s := ⟨s.heap, s.toks, rfl, fun z z z e => e⟩
theorem aq.trans {W : Ap} {s s' s'' : Shared} (a : aq W s s') (b : aq W s' s'') : aq W s s'' := by
 obtain ⟨h, t, rfl, k⟩ := a
 obtain ⟨h', t', rfl, k'⟩ := b
 exact ⟨h', t', rfl, fun b o q e => k' b o q (k b o q e)⟩
theorem aq.sub {W W' : Ap} {s s' : Shared} (a : aq W s s') (i : ∀ b, W b → W' b) : aq W' s s' := by
 obtain ⟨h, t, rfl, k⟩ := a
 exact ⟨h, t, rfl, fun b o q e => k b o (fun x => q (i b x)) e⟩
theorem Kp.toW {W : Ap} {s s' : Shared} (a : Keeps s s') : aq W s s' := by
 obtain ⟨h, t, rfl, k⟩ := a
 exact ⟨h, t, rfl, fun b o z e => k b o e⟩
theorem aq.get {W : Ap} {s s' : Shared} (a : aq W s s') {b : Addr} {o : Obj} (hw : ¬ W b) (e : s.heap.get? b = some o) : s'.heap.get? b = some o := by
 obtain ⟨h, t, rfl, k⟩ := a
 exact k b o hw e
theorem aq.same {W : Ap} {s : Shared} {h : Heap} {a : Addr} {t : Nat} (hs : Heap.SameBut a s.heap h) (ha : W a) : aq W s { s with heap := h, toks := t } :=
 ⟨h, t, rfl, fun b o q e => (hs.2 b fun e' => q (e' ▸ ha)).trans e⟩
noncomputable def wh (b : Bool) (W : Ap) (l : Addr) : Prop := (b = true → W l) ∧ (b = false → ¬ W l)
section
variable (D : Std) (M F W : Ap)
inductive cj (h : Heap) : Addr → Addr → MV → Prop
 | dic {a kvs xs} (hd : h.DictOf (strKind D.prog D.w) a kvs) (hm : (a == sysModules) = false) (r : VRd D.prog D.w M h kvs xs) : cj h a a (.dic xs)
 | lis {a vs n xs} (ho : h.get? a = some { cls := .type "list", data := .seq vs n }) (r : VRs D.prog D.w M h vs.toList xs) : cj h a a (.lis xs)
 | hdr {a d l vs n xs m} (ho : h.get? a = some (D.hobj d)) (hd : h.Ns d m) (hm : m "_headers" = some (.ref l)) (hx : ∀ x : Str, x ≠ "_headers" → m x = none)
   (hl : h.get? l = some { cls := .type "list", data := .seq vs n }) (r : VRs D.prog D.w M h vs.toList xs) (ha : ¬ M a) (hdw : ¬ M d) : cj h a l (.hdr xs)
inductive Eg (env : Env) (names : List (Str × NameKind)) (mw : Bool) (h : Heap) (m : Str → Option Value) (x : Str) (mv : MV) : Prop
 | mk (a l : Addr) (ne : l ≠ env.locals) (hF : F l) (hw : wh mw W l) (r : cj D M h a l mv) (q : ((lk names x = some .local ∧ m x = some (.ref a)) ∨ ((lk names x = some .cell ∨ (lk names x = some .free ∧ sq x "__classdict__" = false)) ∧ ∃ c, env.cells.lookup x = some c ∧ h.IsCell c (some (.ref a)))))
inductive zK (env : Env) (names : List (Str × NameKind)) (mw : Bool) (loc : Lv) (mo : List (Str × MV)) (h : Heap) : Prop
 | mk (m : Str → Option Value) (hm : h.Ns env.locals m) (hl : ∀ x v, lk loc x = some v → ∃ vv, m x = some vv ∧ VR D.prog D.w M h vv v) (hu : ∀ x mv, lk mo x = some mv → Eg D M F W env names mw h m x mv)
structure Rel (env : Env) (ea : ao) (s : Shared) : Prop where
 fn : env.scope.kind = .function
 nm : env.scope.names = ea.names
 glb : env.globals = mainGlobals
 blt : env.builtins = builtinsNs
 cap : ∀ x y a, env.cells.lookup x = some a → env.cells.lookup y = some a → x = y
 cex : ∀ x, lk ea.names x = some .cell → ∃ a u, env.cells.lookup x = some a ∧ s.heap.IsCell a u ∧ (has x ea.cw = true → W a)
 loc : zK D M F W env ea.names ea.mw ea.loc ea.mo s.heap
 cel : ∀ x v, lk ea.cel x = some v → ∃ a vv, env.cells.lookup x = some a ∧ s.heap.IsCell a (some vv) ∧ VR D.prog D.w M s.heap vv v
 clF : ∀ x a, env.cells.lookup x = some a → F a
 st : D.St s.heap
 dom : Dom M s
 bs : D.base ≤ s.heap.objs.size
 wf : ∀ b, W b → F b
 fm : ∀ b, F b → M b
 mb : ∀ b, M b → D.base ≤ b ∨ b = D.tab
 ml : W env.locals
 tw : ea.tw = true → W D.tab ∧ D.TabSt env M s.heap
noncomputable def cz (s : Shared) (x : V) : Ee := fun v s' => s.heap.objs.size ≤ s'.heap.objs.size ∧ Keeps s s' ∧ VR D.prog D.w M s'.heap v x
end
section
variable {D : Std} {M M' F W : Ap} {env : Env} {ea : ao} {s s' : Shared} {A : Around} {E : Ee}
theorem cz.of {t : Sem Value} {x : V} (h : wpAny (model D.prog D.w) A t (Got D.prog D.w M s x) E s) : wpAny (model D.prog D.w) A t (cz D M s x) E s := bh h
theorem IsCell.at' {h h' : Heap} {c : Addr} {v : Option Value} (x : h.IsCell c v) (k : ∀ o, h.get? c = some o → h'.get? c = some o) : h'.IsCell c v := by
 obtain ⟨o, e, r⟩ := x
 exact ⟨o, k o e, r⟩
theorem Rel.wm (R : Rel D M F W env ea s) (b : Addr) (h : W b) : M b := R.fm b (R.wf b h)
theorem cj.grow (k : ∀ b o, ¬ M b → s.heap.get? b = some o → s'.heap.get? b = some o) (hM : ∀ b, M' b → M b ∨ s.heap.get? b = none) {a l : Addr} {mv : MV} (hl : ∀ o, s.heap.get? l = some o → s'.heap.get? l = some o) (r : cj D M s.heap a l mv) : cj D M' s'.heap a l mv := by
 cases r with
 | dic hd hm r => exact .dic (DictOf.at' hd hl) hm (VRd.mono k hM r)
 | lis ho r => exact .lis (hl _ ho) (VRs.mono k hM r)
 | hdr ho hd hm hx hl' r ha hdw =>
  refine .hdr (k _ _ ha ho) (hd.at' fun o e => k _ _ hdw e) hm hx (hl _ hl') (VRs.mono k hM r) (yI hM ha ho) ?_
  obtain ⟨o, es, ep, e, _⟩ := hd
  exact yI hM hdw e
theorem cj.keep {X : Ap} (hX : ∀ b, X b → M b) {a l : Addr} {mv : MV} (hxl : ¬ X l) (k : aq X s s') (r : cj D M s.heap a l mv) : cj D M s'.heap a l mv :=
 r.grow (fun z z q e => k.get (fun x => q (hX _ x)) e) (fun z q => .inl q) fun z e => k.get hxl e
theorem Rel.growX {X : Ap} (R : Rel D M F W env ea s) (k : aq X s s') (hX : ∀ b, X b → M b ∧ ¬ F b) (hsz : s.heap.objs.size ≤ s'.heap.objs.size) (h1 : ∀ b, M b → M' b) (h2 : ∀ b, M' b → M b ∨ s.heap.get? b = none) (h3 : ∀ b, M' b → b < s'.heap.objs.size) (h4 : ∀ b, M' b → D.base ≤ b ∨ b = D.tab) : Rel D M' F W env ea s' := by
 obtain ⟨h', t, rfl, kk⟩ := k
 have kM : ∀ b o, ¬ M b → s.heap.get? b = some o → h'.get? b = some o := fun b o q e => kk b o (fun x => q (hX b x).1) e
 have kF : ∀ b o, F b → s.heap.get? b = some o → h'.get? b = some o := fun b o q e => kk b o (fun x => (hX b x).2 q) e
 refine { R with st := ?_, cex := ?_, loc := ?_, cel := ?_, dom := h3, bs := A1' R.bs hsz, fm := fun b q => h1 b (R.fm b q), mb := h4, tw := fun hh => ⟨(R.tw hh).1, D.tabK (fun o => kF _ o (R.wf _ (R.tw hh).1)) kM h2 (R.tw hh).2⟩ }
 ·intro x e
  obtain ⟨a, u, e1, c, e2⟩ := R.cex x e
  exact ⟨a, u, e1, IsCell.at' c fun o => kF _ _ (R.clF _ _ e1), e2⟩
 ·obtain ⟨m, hm, hl, hu⟩ := R.loc
  refine ⟨m, hm.at' fun o => kF _ _ (R.wf _ R.ml), fun x v e => ?_, fun x mv e => ?_⟩
  ·obtain ⟨vv, e1, r⟩ := hl x v e
   exact ⟨vv, e1, r.mono kM h2⟩
  ·obtain ⟨a, l, ne, hl', hw, r, q⟩ := hu x mv e
   refine ⟨a, l, ne, hl', hw, r.grow (s' := { s with heap := h' }) kM h2 (fun o => kF _ _ hl'), ?_⟩
   rcases q with q | ⟨q1, c, q2, q3⟩
   ·exact .inl q
   ·exact .inr ⟨q1, c, q2, IsCell.at' q3 fun o => kF _ _ (R.clF _ _ q2)⟩
 ·intro x v e
  obtain ⟨a, vv, e1, c, r⟩ := R.cel x v e
  exact ⟨a, vv, e1, IsCell.at' c fun o => kF _ _ (R.clF _ _ e1), r.mono kM h2⟩
 ·refine D.stb _ _ (fun b o hb ht e => kk b o ?_ e) R.st
  intro hx
  rcases R.mb _ (hX b hx).1 with h1 | h1
  ·exact A7' _ (A2' hb h1)
  ·exact ht h1
theorem Rel.keeps (R : Rel D M F W env ea s) (k : Keeps s s') (hsz : s.heap.objs.size ≤ s'.heap.objs.size) : Rel D M F W env ea s' :=
 R.growX (X := fun z => False) (Kp.toW k) (fun z q => q.elim) hsz (fun z q => q) (fun z q => .inl q) (R.dom.size hsz) R.mb
theorem Rel.shrink (R : Rel D M' F W env ea s) (h1 : ∀ b, M b → M' b) (h2 : ∀ b, F b → M b) : Rel D M F W env ea s := by
 refine { R with loc := ?_, cel := ?_, dom := fun b q => R.dom b (h1 b q), fm := h2, mb := fun b q => R.mb b (h1 b q), tw := fun hh => ⟨(R.tw hh).1, D.tabK (fun z e => e) (fun z z z e => e) (fun b q => .inl (h1 b q)) (R.tw hh).2⟩ }
 ·obtain ⟨m, hm, hl, hu⟩ := R.loc
  refine ⟨m, hm, fun x v e => ?_, fun x mv e => ?_⟩
  ·obtain ⟨vv, e1, r⟩ := hl x v e
   exact ⟨vv, e1, r.mono (fun z z z e => e) fun b q => .inl (h1 b q)⟩
  ·obtain ⟨a, l, ne, hl', hw, r, q⟩ := hu x mv e
   exact ⟨a, l, ne, hl', hw, r.grow (s' := s) (fun z z z e => e) (fun b q => .inl (h1 b q)) (fun z e => e), q⟩
 ·intro x v e
  obtain ⟨a, vv, e1, c, r⟩ := R.cel x v e
  exact ⟨a, vv, e1, c, r.mono (fun z z z e => e) fun b q => .inl (h1 b q)⟩
theorem bt (R : Rel D M F W env ea s) {x : Str} {k : NameKind} (q : lk ea.names x = some k) : env.kindOf x = some k := by
 unfold Env.kindOf
 rw [R.nm, ← ig]; exact q
noncomputable def dJ (D : Std) (ea : ao) (x : Str) (v : V) : Prop := ∀ {M F W : Ap} {env : Env} {s : Shared} {A : Around} {E : Ee}, Rel D M F W env ea s → wpAny (model D.prog D.w) A (loadName env x) (Got D.prog D.w M s v) E s
theorem lV {x : Str} {v : V} (q : lk ea.names x = some .local) (e : lk ea.loc x = some v) : dJ D ea x v := fun {_ _ _ _ s _ _} R => by
 obtain ⟨m, hm, hl, _⟩ := R.loc
 obtain ⟨vv, e1, r⟩ := hl x v e
 exact wpAny_loadName_local R.fn (bt R q) hm e1 ⟨Kp.refl' s, r⟩
theorem g0 {x : Str} {v : V} (q : lk ea.names x = some .cell) (e : lk ea.cel x = some v) : dJ D ea x v := fun {_ _ _ _ s _ _} R => by
 obtain ⟨a, vv, e1, c, r⟩ := R.cel x v e
 exact wpAny_loadName_cell R.fn (bt R q) e1 c ⟨Kp.refl' s, r⟩
theorem ny {x : Str} {v : V} (q : lk ea.names x = some .free) (hn : sq x "__classdict__" = false) (e : lk ea.cel x = some v) : dJ D ea x v := fun {_ _ _ _ s _ _} R => by
 obtain ⟨a, vv, e1, c, r⟩ := R.cel x v e
 exact wpAny_loadName_free R.fn (bt R q) e1 c ⟨Kp.refl' s, r⟩ (by simpa using aJ hn)
theorem f6 {x : Str} {u : Value} (q : lk ea.names x = some .globalImplicit) (e : D.gl x = some u) : dJ D ea x (.sta u) := fun {_ _ _ _ s _ _} R => by
 unfold loadName
 simp only [Env.blockKind, R.fn, bt R q, ScopeKind.isAnnotationScope, Bool.false_and, Bool.false_eq_true, if_false]
 exact D.glob R.st R.glb R.blt e ⟨Kp.refl' s, .sta u⟩
noncomputable def yq (D : Std) (ea : ao) (x : Str) : Option { v : V // dJ D ea x v } := match q : lk ea.names x with
 | some .local => match e : lk ea.loc x with
  | some v => some ⟨v, lV q e⟩
  | none => none
 | some .cell => match e : lk ea.cel x with
  | some v => some ⟨v, g0 q e⟩
  | none => none
 | some .free => match hn : sq x "__classdict__" with
  | true => none
  | false => match e : lk ea.cel x with
   | some v => some ⟨v, ny q hn e⟩
   | none => none
 | some .globalImplicit => match e : D.gl x with
  | some u => some ⟨.sta u, f6 q e⟩
  | none => none
 | _ => none
noncomputable def Holds (ea : ao) (env : Env) (h : Heap) (x : Str) (a : Addr) : Prop := (lk ea.names x = some .local ∧ ∃ m, h.Ns env.locals m ∧ m x = some (.ref a)) ∨ ((lk ea.names x = some .cell ∨ (lk ea.names x = some .free ∧ sq x "__classdict__" = false)) ∧ ∃ c, env.cells.lookup x = some c ∧ h.IsCell c (some (.ref a)))
theorem Holds.keeps {x : Str} {a : Addr} (h : Holds ea env s.heap x a) (k : Keeps s s') : Holds ea env s'.heap x a := by
 rcases h with ⟨q1, m, q2, q3⟩ | ⟨q1, c, q2, q3⟩
 ·exact .inl ⟨q1, m, q2.keeps fun b o e => Kp.get k e, q3⟩
 ·exact .inr ⟨q1, c, q2, q3.keeps fun b o e => Kp.get k e⟩
end
inductive xy (D : Std) (M F W : Ap) (env : Env) (ea : ao) (s : Shared) (x : Str) (mv : MV) (v : Value) (s' : Shared) : Prop
 | mk (hs : s' = s) (a l : Addr) (hv : v = .ref a) (ne : l ≠ env.locals) (hF : F l) (hw : wh ea.mw W l) (r : cj D M s.heap a l mv) (hh : Holds ea env s.heap x a)
section
variable {D : Std} {M M' F W : Ap} {env : Env} {ea : ao} {s s' : Shared} {A : Around} {E : Ee}
theorem bJ (R : Rel D M F W env ea s) {x : Str} {mv : MV} (e : lk ea.mo x = some mv) : wpAny (model D.prog D.w) A (loadName env x) (xy D M F W env ea s x mv) E s := by
 obtain ⟨m, hm, _, hu⟩ := R.loc
 obtain ⟨a, l, ne, hl, hw, r, q⟩ := hu x mv e
 rcases q with ⟨q1, q2⟩ | ⟨q1 | ⟨q1, qn⟩, c, q2, q3⟩
 ·exact wpAny_loadName_local R.fn (bt R q1) hm q2 ⟨rfl, a, l, rfl, ne, hl, hw, r, .inl ⟨q1, m, hm, q2⟩⟩
 ·exact wpAny_loadName_cell R.fn (bt R q1) q2 q3 ⟨rfl, a, l, rfl, ne, hl, hw, r, .inr ⟨.inl q1, c, q2, q3⟩⟩
 ·exact wpAny_loadName_free R.fn (bt R q1) q2 q3 ⟨rfl, a, l, rfl, ne, hl, hw, r, .inr ⟨.inr ⟨q1, qn⟩, c, q2, q3⟩⟩ (by simpa using aJ qn)
end
end
section
noncomputable def up {α : Type} : List (Str × α) → Str → α → List (Str × α)
 | [], x, v => [(x, v)]
 | (k, u) :: r, x, v => match sq x k with
  | true => (k, v) :: r
  | false => (k, u) :: up r x v
noncomputable def rm {α : Type} : List (Str × α) → Str → List (Str × α)
 | [], _ => []
 | (k, u) :: r, x => match sq x k with
  | true => rm r x
  | false => (k, u) :: rm r x
theorem iD {α : Type} (l : List (Str × α)) (x y : Str) (v : α) : lk (up l x v) y = if y = x then some v else lk l y := by
 induction l with
 | nil =>
  unfold up lk
  by_cases h : y = x
  ·subst h; rw [bi, if_pos rfl]
  ·rw [dE h, if_neg h]; rfl
 | cons p r ih =>
  obtain ⟨k, u⟩ := p
  unfold up
  by_cases hx : x = k
  ·subst hx
   rw [bi]
   unfold lk
   by_cases h : y = x
   ·subst h; simp [bi]
   ·simp [dE h, h]
  ·rw [dE hx]
   dsimp only
   unfold lk
   by_cases h : y = k
   ·subst h; rw [bi, if_neg (fun e => hx e.symm)]
   ·rw [dE h]; exact ih
theorem rT {α : Type} (l : List (Str × α)) (x y : Str) : lk (rm l x) y = if y = x then none else lk l y := by
 induction l with
 | nil => unfold rm lk; simp
 | cons p r ih =>
  obtain ⟨k, u⟩ := p
  unfold rm
  by_cases hx : x = k
  ·subst hx
   rw [bi]
   dsimp only
   rw [ih]
   by_cases h : y = x
   ·simp [h]
   ·rw [if_neg h, if_neg h]
    conv => rhs; unfold lk
    rw [dE h]
  ·rw [dE hx]
   dsimp only
   unfold lk
   by_cases h : y = k
   ·subst h; rw [bi, if_neg (fun e => hx e.symm)]
   ·rw [dE h]; exact ih
noncomputable def dG (D : Std) (ea : ao) (x : Str) (v : V) (ea' : ao) : Prop := ∀ ⦃M F W : Ap⦄ ⦃env : Env⦄ ⦃s : Shared⦄ ⦃A : Around⦄ ⦃E : Ee⦄ ⦃vv : Value⦄ ⦃Q : Unit → Shared → Prop⦄, Rel D M F W env ea s → VR D.prog D.w M s.heap vv v →
 (∀ s', aq W s s' → Rel D M F W env ea' s' → Q () s') → wpAny (model D.prog D.w) A (storeName env x vv) Q E s
section
variable {D : Std} {M F W : Ap} {env : Env} {ea ea' : ao} {s s' : Shared} {A : Around} {E : Ee}
theorem hB {h : Heap} {L a : Addr} {m : Str → Option Value} {u : Option Value} (n : h.Ns L m) (c : h.IsCell a u) : a ≠ L := by
 rintro rfl
 obtain ⟨o, es, ep, e, d, _⟩ := n
 obtain ⟨o', e', d'⟩ := c
 rw [e] at e'; cases e'; rw [d] at d'; cases d'
theorem cj.same {c : Addr} (hc : M c) {a l : Addr} {mv : MV} (ne : l ≠ c) {h' : Heap} (k : Heap.SameBut c s.heap h') (r : cj D M s.heap a l mv) : cj D M h' a l mv :=
 r.keep (X := fun b => b = c) (s' := { s with heap := h' }) (fun b q => q ▸ hc) ne ⟨h', s.toks, rfl, fun b o q e => (k.2 b q).trans e⟩
theorem cj.notCell {c : Addr} {u : Option Value} (hc : s.heap.IsCell c u) {a l : Addr} {mv : MV} (r : cj D M s.heap a l mv) : l ≠ c := by
 rintro rfl
 obtain ⟨o, e, d⟩ := hc
 cases r with
 | dic hd hm r =>
  obtain ⟨o', ho', hr⟩ := Heap.dictOf_iff.mp hd
  rw [e] at ho'; cases ho'
  obtain ⟨es, ep, _, hd, _⟩ := hr
  rw [d] at hd; cases hd
 | lis ho r => rw [e] at ho; cases ho; cases d
 | hdr ho hd hm hx hl' r ha hdw => rw [e] at hl'; cases hl'; cases d
theorem nv {h : Heap} {L a : Addr} {m : Str → Option Value} (x : h.Ns L m) (y : ∃ o fs, h.get? a = some o ∧ o.data = .fields fs) : a ≠ L := by
 rintro rfl
 obtain ⟨o', fs, e', d'⟩ := y
 obtain ⟨o, es, ep, e, d, _⟩ := x
 rw [e] at e'; cases e'; rw [d] at d'; cases d'
theorem kO {h : Heap} {L a : Addr} {u : Option Value} (x : h.IsCell L u) (y : ∃ o fs, h.get? a = some o ∧ o.data = .fields fs) : a ≠ L := by
 rintro rfl
 obtain ⟨o', fs, e', d'⟩ := y
 obtain ⟨o, e, d⟩ := x
 rw [e] at e'; cases e'; rw [d] at d'; cases d'
theorem cj.notFields {c : Addr} (y : ∃ o fs, s.heap.get? c = some o ∧ o.data = .fields fs) {a l : Addr} {mv : MV} (r : cj D M s.heap a l mv) : c ≠ l := by
 rintro rfl
 obtain ⟨o, fs, e, d⟩ := y
 cases r with
 | dic hd hm r =>
  obtain ⟨o', ho', hr⟩ := Heap.dictOf_iff.mp hd
  rw [e] at ho'; cases ho'
  obtain ⟨es, ep, _, hd, _⟩ := hr
  rw [d] at hd; cases hd
 | lis ho r => rw [e] at ho; cases ho; cases d
 | hdr ho hd hm hx hl' r ha hdw => rw [e] at hl'; cases hl'; cases d
theorem dz (R : Rel D M F W env ea s) {x : Str} {v : V} {vv : Value} (q : lk ea.names x = some .local) (r : VR D.prog D.w M s.heap vv v) {Q : Unit → Shared → Prop}
  (h : ∀ s', aq W s s' → Rel D M F W env { ea with loc := up ea.loc x v, mo := rm ea.mo x } s' → Q () s') : wpAny (model D.prog D.w) A (storeName env x vv) Q E s := by
 refine aA ?_
 obtain ⟨m, hm, hl, hu⟩ := R.loc
 refine wpAny_storeName_local (bt R q) hm (fun h' hn hs hsz => ?_) (by rw [R.fn]; rfl)
 have hML := R.wm _ R.ml
 have kk : ∀ b o, b ≠ env.locals → s.heap.get? b = some o → h'.get? b = some o := fun b o q e => (hs.2 b q).trans e
 have kM : ∀ b o, ¬ M b → s.heap.get? b = some o → h'.get? b = some o := fun b o q e => kk b o (fun x => q (x ▸ hML)) e
 refine h _ (aq.same hs R.ml) { R with st := ?_, cex := ?_, loc := ?_, cel := ?_, dom := R.dom.size hsz, bs := A1' R.bs hsz, tw := fun hh => ⟨(R.tw hh).1, D.tabK (fun o => kk _ o (nv hm (D.tabF (R.tw hh).2))) kM (fun z q => .inl q) (R.tw hh).2⟩ }
 ·intro y e
  obtain ⟨a, u, e1, c, e2⟩ := R.cex y e
  exact ⟨a, u, e1, IsCell.at' c fun o => kk _ _ (hB hm c), e2⟩
 ·refine ⟨_, hn, fun y v' e => ?_, fun y mv e => ?_⟩
  ·dsimp only at e
   rw [iD] at e
   by_cases hy : y = x
   ·rw [if_pos hy] at e ⊢; cases e; exact ⟨vv, rfl, r.mono kM fun z q => .inl q⟩
   ·rw [if_neg hy] at e ⊢
    obtain ⟨u, e1, r'⟩ := hl y v' e
    exact ⟨u, e1, r'.mono kM fun z q => .inl q⟩
  ·dsimp only at e ⊢
   rw [rT] at e
   by_cases hy : y = x
   ·rw [if_pos hy] at e; cases e
   ·rw [if_neg hy] at e
    obtain ⟨a, l, ne, hl', hwl, r', q'⟩ := hu y mv e
    refine ⟨a, l, ne, hl', hwl, r'.same hML ne hs, ?_⟩
    rcases q' with q' | ⟨q1, c, q2, q3⟩
    ·exact .inl ⟨q'.1, by rw [if_neg hy]; exact q'.2⟩
    ·exact .inr ⟨q1, c, q2, IsCell.at' q3 fun o => kk _ _ (hB hm q3)⟩
 ·intro y v' e
  obtain ⟨a, u, e1, c, r'⟩ := R.cel y v' e
  exact ⟨a, u, e1, IsCell.at' c fun o => kk _ _ (hB hm c), r'.mono kM fun z q => .inl q⟩
 ·refine D.stb _ _ (fun b o hb ht e => kk b o ?_ e) R.st
  rintro rfl
  rcases R.mb _ hML with h1 | h1
  ·exact A7' _ (A2' hb h1)
  ·exact ht h1
theorem lz (R : Rel D M F W env ea s) {x : Str} {v : V} {vv : Value} (q : lk ea.names x = some .cell) (hcw : has x ea.cw = true) (r : VR D.prog D.w M s.heap vv v) {Q : Unit → Shared → Prop}
  (h : ∀ s', aq W s s' → Rel D M F W env { ea with cel := up ea.cel x v, mo := rm ea.mo x } s' → Q () s') : wpAny (model D.prog D.w) A (storeName env x vv) Q E s := by
 refine aA ?_
 obtain ⟨m, hm, hl, hu⟩ := R.loc
 obtain ⟨c, u, e1, hc, hw⟩ := R.cex x q
 have hw := hw hcw
 refine wpAny_storeName_cell R.fn (bt R q) e1 hc (fun h' hn hs hsz => ?_)
 have hMc := R.wm _ hw
 have kk : ∀ b o, b ≠ c → s.heap.get? b = some o → h'.get? b = some o := fun b o q e => (hs.2 b q).trans e
 have kM : ∀ b o, ¬ M b → s.heap.get? b = some o → h'.get? b = some o := fun b o q e => kk b o (fun x => q (x ▸ hMc)) e
 refine h _ (aq.same hs hw) { R with st := ?_, cex := ?_, loc := ?_, cel := ?_, dom := R.dom.size hsz, bs := A1' R.bs hsz, tw := fun hh => ⟨(R.tw hh).1, D.tabK (fun o => kk _ o (kO hc (D.tabF (R.tw hh).2))) kM (fun z q => .inl q) (R.tw hh).2⟩ }
 ·intro y e
  obtain ⟨a, u, e2, c', e3⟩ := R.cex y e
  by_cases hy : a = c
  ·subst hy; exact ⟨a, _, e2, hn, e3⟩
  ·exact ⟨a, u, e2, IsCell.at' c' fun o => kk _ _ hy, e3⟩
 ·refine ⟨_, hm.at' fun o => kk _ _ (hB hm hc).symm, fun y v' e => ?_, fun y mv e => ?_⟩
  ·obtain ⟨u, e1, r'⟩ := hl y v' e
   exact ⟨u, e1, r'.mono kM fun z q => .inl q⟩
  ·dsimp only at e ⊢
   rw [rT] at e
   by_cases hy : y = x
   ·rw [if_pos hy] at e; cases e
   ·rw [if_neg hy] at e
    obtain ⟨a, l, ne, hl', hwl, r', q'⟩ := hu y mv e
    refine ⟨a, l, ne, hl', hwl, r'.same hMc (r'.notCell hc) hs, ?_⟩
    rcases q' with q' | ⟨q1, c', q2, q3⟩
    ·exact .inl q'
    ·exact .inr ⟨q1, c', q2, IsCell.at' q3 fun o => kk _ _ (by rintro rfl; exact hy (R.cap _ _ _ q2 e1))⟩
 ·intro y v' e
  dsimp only at e
  rw [iD] at e
  by_cases hy : y = x
  ·rw [if_pos hy] at e; cases e; subst hy
   exact ⟨c, vv, e1, hn, r.mono kM fun z q => .inl q⟩
  ·rw [if_neg hy] at e
   obtain ⟨a, u, e2, c', r'⟩ := R.cel y v' e
   exact ⟨a, u, e2, IsCell.at' c' fun o => kk _ _ (by rintro rfl; exact hy (R.cap _ _ _ e2 e1)), r'.mono kM fun z q => .inl q⟩
 ·refine D.stb _ _ (fun b o hb ht e => kk b o ?_ e) R.st
  rintro rfl
  rcases R.mb _ hMc with h1 | h1
  ·exact A7' _ (A2' hb h1)
  ·exact ht h1
end
noncomputable def vC (D : Std) (ea : ao) (x : Str) (v : V) : Option { ea' : ao // dG D ea x v ea' } := match q : lk ea.names x with
 | some .local => some ⟨_, fun z z z z z z z z z R r h => dz R q r h⟩
 | some .cell => match c : has x ea.cw with
  | true => some ⟨_, fun z z z z z z z z z R r h => lz R q c r h⟩
  | false => none
 | _ => none
end
section
noncomputable def qH (x : Str) : List V := x.cps.toList.map fun c => .str ⟨#[c]⟩
noncomputable def fA : V → Option (List V)
 | .list xs => some xs
 | .tup xs => some xs
 | .str x => some (qH x)
 | .dict kvs => some (kvs.map fun p => .str p.1)
 | _ => none
section
variable (D : Std) (M : Ap)
structure ItW (A : Around) (h₀ : Heap) (I : Addr) (s₁ : Shared) (xs : List V) (fp : List Addr) (P : Nat → Value → Prop) (St : Nat → Heap → Prop) : Prop where
 fpI : ∀ b ∈ fp, b = I ∨ ¬ M b
 fpS : ∀ b ∈ fp, b < s₁.heap.objs.size
 W : Walks D.prog D.w A I fp [I] xs.length P St
 st : St 0 s₁.heap
 item : ∀ (M₁ : Ap) i u h, P i u → (∀ b, M₁ b → M b ∨ h₀.get? b = none) → (∀ b o, ¬ M b → h₀.get? b = some o → h.get? b = some o) → ∃ y, xs[i]? = some y ∧ VR D.prog D.w M₁ h u y
 go : ∀ (target : Expr) i (v : Value) (s : Shared) (Q : Unit → Shared → Prop) (E : Ee), St i s.heap → Q () s → wpAny (model D.prog D.w) A (letOwnedTupleGo target (.ref I) v) Q E s
end
section
variable {D : Std} {M F W : Ap} {env : Env} {ea ea' : ao} {s s' : Shared} {A : Around} {E : Ee}
theorem VRs.mono' {prog : Program} {w : World} {h h' : Heap} {vs : List Value} {xs : List V} (r : VRs prog w M h vs xs) (k : ∀ b o, ¬ M b → h.get? b = some o → h'.get? b = some o) : VRs prog w M h' vs xs := r.mono k fun z q => .inl q
theorem VRd.get' {prog : Program} {w : World} {h : Heap} : ∀ {vs : Lw} {xs : Lv} {i : Nat} {k : Str} {v : Value}, VRd prog w M h vs xs → vs[i]? = some (k, v) → ∃ x, xs[i]? = some (k, x) ∧ VR prog w M h v x := by
 intro vs
 induction vs with
 | nil => intro xs i k v _ e; cases e
 | cons u vs ih =>
  intro xs i k v r e
  cases r with | cons a r =>
  cases i with
  | zero => cases e; exact ⟨_, rfl, a⟩
  | succ i => exact ih (i := i) r e
theorem wN {prog : Program} {w : World} {k : Str} {v : Value} (h : (PySem.strKind prog w).is k v = true) : ∃ t, v = .str k t := Value.isStrOf_shape h
theorem inN {α : Type} {P : α → Prop} : ∀ b ∈ ([] : List α), P b := fun z q => nomatch q
theorem inC {α : Type} {P : α → Prop} {a : α} {l : List α} (h : P a) (k : ∀ b ∈ l, P b) : ∀ b ∈ a :: l, P b := List.forall_mem_cons.mpr ⟨h, k⟩
theorem jn {prog : Program} {w : World} {target : Expr} {I : Addr} {o : Obj} {v : Value} {Q : Unit → Shared → Prop} {T : String} (ho : s.heap.get? I = some o) (hc : o.cls = .type T) (hT : ["enumerate", "zip", "dict_itemiterator", "dict_reverseitemiterator", "odict_iterator", "itertools.zip_longest", "itertools.pairwise"].contains T = false) (h : Q () s) :
  wpAny (model prog w) A (letOwnedTupleGo target (.ref I) v) Q E s := by
 have k : ∀ t : Expr, letOwnedTupleGo t (.ref I) v = pure () ∨ letOwnedTupleGo t (.ref I) v = letOwnedTupleGo (.List [] ⟨0, 0, 0, 0⟩) (.ref I) v := fun t => by
  cases t <;> first | exact .inl rfl | exact .inr rfl
 have k2 : ∀ v : Value, letOwnedTupleGo (.List [] ⟨0, 0, 0, 0⟩) (.ref I) v = pure () ∨ ∃ a, v = .ref a := fun v => by
  cases v <;> first | exact .inl rfl | exact .inr ⟨_, rfl⟩
 rcases k target with e | e
 ·rw [e]; exact Wq h
 rw [e]
 rcases k2 v with e | ⟨a, rfl⟩
 ·rw [e]; exact Wq h
 refine Wb (wpAny_load ho ?_)
 rw [hc]
 cases hd : o.data with
 | fields vs =>
  dsimp only
  rw [hT]
  exact Wq h
 | _ => exact Wq h
set_option tactic.hygienic true in
theorem wF (hA : A.handled = none) (d : Dom M s) {v : Value} {x : V} {xs : List V} (r : VR D.prog D.w M s.heap v x) (e : fA x = some xs) {Q : Ee}
  (h : ∀ o fp P St, ItW D M A s.heap s.heap.objs.size { s with heap := s.heap.push o } xs fp P St → Q (.ref s.heap.objs.size) { s with heap := s.heap.push o }) : wpAny (model D.prog D.w) A (pyIter v) Q E s := by
 cases r with
 | list hM ho rr =>
  cases e
  rename_i a vs n
  have hne : a ≠ s.heap.objs.size := A8' (A5' ho)
  refine wpAny_pyIter_list ⟨_, ho, rfl, n, rfl⟩ (h _ [s.heap.objs.size, a] (fun i v => vs[i]? = some v) (fun i h => h.IsListIter s.heap.objs.size a i ∧ h.IsList a vs) ⟨?_, ?_, ?_, ?_, ?_, fun target i v s Q E st h => letGo_listiter st.1 h⟩)
  ·exact inC (.inl rfl) (inC (.inr hM) inN)
  ·exact inC (A5' (A4' _ rfl)) (inC (A5' (A3' _ ho)) inN)
  ·rw [← rr.length, Array.length_toList]; exact Walks.list hA _ _ hne vs
  ·exact ⟨⟨_, A4' _ rfl, rfl, rfl⟩, ⟨_, A3' _ ho, rfl, n, rfl⟩⟩
  ·intro M₁ i u h' p km k
   exact (rr.mono k km).get' (Array.getElem?_toList ▸ p)
 | tup hM ho hc hd rr =>
  cases e
  rename_i a vs n o
  have hne : a ≠ s.heap.objs.size := A8' (A5' ho)
  refine wpAny_pyIter_tuple ⟨_, ho, hc, n, hd⟩ (h _ [s.heap.objs.size, a] (fun i v => vs[i]? = some v) (fun i h => h.IsTupleIter s.heap.objs.size a i ∧ h.IsTuple a vs) ⟨?_, ?_, ?_, ?_, ?_, fun target i v s Q E st h => letGo_tupleiter st.1 h⟩)
  ·exact inC (.inl rfl) (inC (.inr hM) inN)
  ·exact inC (A5' (A4' _ rfl)) (inC (A5' (A3' _ ho)) inN)
  ·rw [← rr.length, Array.length_toList]; exact Walks.tuple hA _ _ hne vs
  ·exact ⟨⟨_, A4' _ rfl, rfl, rfl⟩, ⟨_, A3' _ ho, hc, n, hd⟩⟩
  ·intro M₁ i u h' p km k
   exact (rr.mono k km).get' (Array.getElem?_toList ▸ p)
 | str y t =>
  cases e
  have fin : ∀ (T : String) (hW : Walks D.prog D.w A s.heap.objs.size [s.heap.objs.size] [s.heap.objs.size] y.cps.size (SignAt y) (fun i h => h.IsStrIter s.heap.objs.size T y t i)) (hT : T = "str_ascii_iterator" ∨ T = "str_iterator"),
    Q (.ref s.heap.objs.size) { s with heap := s.heap.push { cls := .type T, data := .fields #[.str y t, .int 0 0] } } := fun T hW hT => by
   refine h _ [s.heap.objs.size] (SignAt y) (fun i h => h.IsStrIter s.heap.objs.size T y t i) ⟨?_, ?_, ?_, ⟨_, A4' _ rfl, rfl, rfl⟩, ?_, ?_⟩
   ·exact inC (.inl rfl) inN
   ·exact inC (A5' (A4' _ rfl)) inN
   ·have : (qH y).length = y.cps.size := by simp [qH]
    rw [this]; exact hW
   ·rintro M₁ i u h' ⟨c, u', hc, rfl⟩ _ k
    refine ⟨_, ?_, .str _ _⟩
    simp [qH, hc]
   ·intro target i v s Q E st h
    obtain ⟨o, ho, hc, hd⟩ := st
    exact jn ho hc (by rcases hT with rfl | rfl <;> decide) h
  cases ha : y.cps.all (· < 128)
  ·exact wpAny_pyIter_wide ha (fin _ (Walks.strWide hA _ y t) (.inr rfl))
  ·exact wpAny_pyIter_ascii ha (fin _ (Walks.strAscii hA _ y t) (.inl rfl))
 | dict hM hd hm rr =>
  cases e
  rename_i a kvs xs
  obtain ⟨o, es, ep, ho, hr⟩ := hd
  have hat : s.heap.DictAt (PySem.strKind D.prog D.w) a kvs ep := ⟨o, es, ho, hr⟩
  have hne : a ≠ s.heap.objs.size := A8' (A5' ho)
  refine wpAny_pyIter_dict hm hat (h _ [s.heap.objs.size, a] (fun i v => ∃ k x, kvs[i]? = some (k, x) ∧ (PySem.strKind D.prog D.w).is k v = true) (fun i h => h.IsKeyIter s.heap.objs.size a i kvs.length ep ∧ h.DictAt (PySem.strKind D.prog D.w) a kvs ep) ⟨?_, ?_, ?_, ?_, ?_, fun target i v s Q E st h => letGo_keyiter st.1 h⟩)
  ·exact inC (.inl rfl) (inC (.inr hM) inN)
  ·exact inC (A5' (A4' _ rfl)) (inC (A5' (A3' _ ho)) inN)
  ·rw [List.length_map, ← rr.length]; exact Walks.dictKeys hA _ _ hne kvs ep
  ·exact ⟨⟨_, A4' _ rfl, rfl, rfl⟩, hat.push _⟩
  ·rintro M₁ i u h' ⟨k, x, hx, hk⟩ _ _
   obtain ⟨t, rfl⟩ := wN hk
   obtain ⟨y, e1, _⟩ := rr.get' hx
   exact ⟨.str k, by simp [e1], .str k t⟩
 | _ => cases e
theorem uu {v : Value} {x : V} {xs : List V} (r : VR D.prog D.w M s.heap v x) (e : fA x = some xs) {Q : Bool → Shared → Prop} (h : Q false s) : wpAny (model D.prog D.w) A (notIterableAtAll v) Q E s := by
 have key : ∀ {T : String} {id : String}, s.TypeIs v T → Slot T "__iter__" id → wpAny (model D.prog D.w) A (notIterableAtAll v) Q E s := fun hT hs => by
  unfold notIterableAtAll
  refine Wb (wpAny_specialOf hT hs.lookup ?_)
  exact Wq h
 cases r with
 | list hM ho rr => exact key ⟨_, ho, rfl⟩ slot_list_iter
 | tup hM ho hc hd rr => exact key ⟨_, ho, hc⟩ slot_tuple_iter
 | str y t => exact key (typeIs_str _ _ _) F.slot_str_iter
 | dict hM hd hm rr =>
  obtain ⟨o, es, ep, ho, hr⟩ := hd
  exact key ⟨o, ho, hr.1.1⟩ F.slot_dict_iter
 | _ => cases e
theorem zE {h₀ : Heap} {I : Addr} {s₁ : Shared} {xs : List V} {fp : List Addr} {P : Nat → Value → Prop} {St : Nat → Heap → Prop} (T : ItW D M A h₀ I s₁ xs fp P St) :
  ∀ (n i : Nat) (s : Shared) (Q : List Value → Shared → Prop), i + n ≤ xs.length → St i s.heap → (∀ vs h' tk, vs.length = n → (∀ (j : Nat) (v : Value), vs[j]? = some v → P (i + j) v) → St (i + n) h' → (∀ b o, b ≠ I → s.heap.get? b = some o → h'.get? b = some o) → Q vs { s with heap := h', toks := tk }) →
   wpAny (model D.prog D.w) A (draw (.ref I) n) Q E s := by
 intro v0'
 induction v0' with
 | zero =>
  exact fun i s Q z st h => Wq (h [] s.heap s.toks rfl (fun j v e => (nomatch e)) st fun z z z e => e)
 | succ n ih' =>
  exact fun i s Q hl st h => by
   show wpAny _ _ (pyNext (.ref I) >>= _) Q E s
   refine Wb (T.W.item i s _ _ (by exact B4' (Nat.le_add_right ..) ‹_›) st fun v h' tk p st' k => ?_)
   refine Wb (B3' (ih' (i + 1) _ _ (by lia) st' fun vs h'' tk' hn hp st'' k' => Wq ?_))
   refine h (v :: vs) h'' tk' (by simp [hn]) (fun j u e => ?_) (by rw [show i + (n + 1) = i + 1 + n by lia]; exact st'') fun b o q e => k' b o q (k b o (by simpa using q) e)
   cases j with
   | zero => cases e; exact p
   | succ j => rw [show i + (j + 1) = i + 1 + j by lia]; exact hp j u (by simpa using e)
theorem VRs.ofGet {prog : Program} {w : World} {h : Heap} : ∀ {vs : List Value} {xs : List V}, vs.length = xs.length → (∀ (i : Nat) (v : Value), vs[i]? = some v → ∃ y, xs[i]? = some y ∧ VR prog w M h v y) → VRs prog w M h vs xs
 | [], [], _, _ => .nil
 | [], _ :: _, e, _ => (nomatch e)
 | _ :: _, [], e, _ => (nomatch e)
 | v :: vs, x :: xs, e, g => by
  obtain ⟨y, e1, r⟩ := g 0 v rfl
  cases e1
  exact .cons r (VRs.ofGet (by simpa using e) fun i u q => by simpa using g (i + 1) u (by simpa using q))
theorem vf (hA : A.handled = none) (d : Dom M s) {v : Value} {x : V} {xs : List V} (r : VR D.prog D.w M s.heap v x) (e : fA x = some xs) {Q : List Value → Shared → Prop}
  (h : ∀ vs s', vs.length = xs.length → VRs D.prog D.w M s'.heap vs xs → Keeps s s' → Q vs s') : wpAny (model D.prog D.w) A (unpackItems v xs.length none) Q E s := by
 unfold unpackItems
 refine Wb (uu r e (wpAny_ite_false rfl ?_))
 refine Wb (B3' (wF hA d r e fun o fp P St T => ?_))
 refine Wb (B3' (zE T xs.length 0 _ _ (by lia) T.st fun vs h' tk hn hp st k => ?_))
 refine wpAny_ite_false (decide_eq_false (hn ▸ A7' _)) ?_
 refine Wb (B3' (T.W.done _ _ _ (by simpa using st) fun h'' tk' k' => wpAny_ite_false rfl ?_))
 have kk : ∀ b o, s.heap.get? b = some o → h''.get? b = some o := fun b o e => by
  have ne : b ≠ s.heap.objs.size := A8' (A5' e)
  exact k' b o (by simpa using ne) (k b o ne (A3' _ e))
 refine Wq (h vs _ hn ?_ ⟨h'', tk', rfl, kk⟩)
 exact VRs.ofGet hn fun i v q => by
  have p := hp i v q
  rw [Nat.zero_add] at p
  exact T.item M i v h'' p (fun z q => .inl q) fun b o z e => kk b o e
end
noncomputable def jm (D : Std) (ea : ao) (es : List Expr) (xs : List V) (ea' : ao) : Prop := es.length = xs.length ∧ (∀ env, (assignEach es env).length = es.length ∧ (assignEach es env).findIdx? (·.1) = none) ∧
 ∀ {M F W : Ap} {env : Env} {s : Shared} {A : Around} {E : Ee} {vs : List Value} {Q : Unit → Shared → Prop}, Rel D M F W env ea s → VRs D.prog D.w M s.heap vs xs → (∀ s', aq W s s' → Rel D M F W env ea' s' → Q () s') →
  wpAny (model D.prog D.w) A (assignInOrder ((assignEach es env).map (·.2)) vs) Q E s
inductive qA (D : Std) (M : Ap) (target : Expr) (h : Heap) : Value → V → Prop
 | val {v x} (r : VR D.prog D.w M h v x) : qA D M target h v x
 | own {T vals n o ys es k p} (ht : target = .Tuple es k p) (ho : h.get? T = some o) (hc : o.cls = .type "tuple") (hd : o.data = .seq vals n) (r : VRs D.prog D.w M h vals.toList ys) : qA D M target h (.ref T) (.tup ys)
noncomputable def bw (D : Std) (ea : ao) (t : Expr) (v : V) (ea' : ao) : Prop := ∀ ⦃M F W : Ap⦄ ⦃env : Env⦄ ⦃s : Shared⦄ ⦃A : Around⦄ ⦃E : Ee⦄ ⦃vv : Value⦄ ⦃Q : Unit → Shared → Prop⦄, A.handled = none → Rel D M F W env ea s → qA D M t s.heap vv v →
 (∀ s', aq W s s' → Rel D M F W env ea' s' → Q () s') → wpAny (model D.prog D.w) A (assign t env vv) Q E s
section
variable {D : Std} {ea ea' e1 : ao}
theorem rO : jm D ea [] [] ea := ⟨rfl, fun z => ⟨rfl, rfl⟩, fun {_ _ _ _ s _ _ _ _} R r h => by cases r; exact Wq (h s (aq.refl s) R)⟩
theorem pH {x : Str} {p : Pos} {v : V} {es : List Expr} {xs : List V} (a : dG D ea x v e1) (b : jm D e1 es xs ea') : jm D ea (.Name x p :: es) (v :: xs) ea' :=
 ⟨congrArg Nat.succ b.1, fun env => ⟨congrArg Nat.succ (b.2.1 env).1, by
  show List.findIdx? _ ((false, _) :: assignEach es env) = none
  rw [List.findIdx?_cons, (b.2.1 env).2]; rfl⟩, fun R r h => by
  cases r with | cons q r =>
  refine wpAny_assignInOrder_more (wpAny_assign_Name (a R q fun s' k R' => ?_))
  exact b.2.2 R' (r.mono' fun b o q e => k.get (fun x => q (R.wm _ x)) e) fun s'' k' R'' => h s'' (k.trans k') R''⟩
theorem rI {x : Str} {p : Pos} {v : V} (a : dG D ea x v ea') : bw D ea (.Name x p) v ea' := fun z z z z z z z z z z R r h => by
 cases r with
 | val r => exact wpAny_assign_Name (a R r h)
 | own ht => cases ht
theorem sZ {es : List Expr} {k : Nat} {p : Pos} {v : V} {xs : List V} (e : fA v = some xs) (a : jm D ea es xs ea') : bw D ea (.Tuple es k p) v ea' := fun {_ _ _ env s _ _ _ _} hA R r h => by
 rw [assign_Tuple]
 refine Wb (wpAny_standAt ?_)
 unfold unpack
 rw [(a.2.1 env).2, (a.2.1 env).1, a.1]
 cases r with
 | val r => exact Wb (B3' (aA (vf hA R.dom r e fun vs s' hn rr k hsz => a.2.2 (R.keeps k hsz) rr fun s'' k' R'' => h s'' ((Kp.toW k).trans k') R'')))
 | own ht ho hc hd r =>
  cases e
  have hl := r.length
  rw [Array.length_toList] at hl
  rw [← hl]
  refine Wb (B3' (aA (unpackItems_tuple hA ⟨_, ho, hc, _, hd⟩ fun h' hx hsz => ?_)))
  have kk : ∀ b o, s.heap.get? b = some o → h'.get? b = some o := fun b o e => hx b o (A8' (A5' e)) e
  have kp : Keeps s { s with heap := h' } := ⟨h', s.toks, rfl, kk⟩
  exact a.2.2 (R.keeps kp hsz) (r.keeps kk) fun s'' k' R'' => h s'' ((Kp.toW kp).trans k') R''
end
noncomputable def Cj (D : Std) : (ea : ao) → (es : List Expr) → (xs : List V) → Option { ea' : ao // jm D ea es xs ea' }
 | ea, [], [] => some ⟨ea, rO⟩
 | ea, .Name x _ :: r, v :: vs => match vC D ea x v with
  | some a => match Cj D a.1 r vs with
   | some b => some ⟨b.1, pH a.2 b.2⟩
   | none => none
  | none => none
 | _, _, _ => none
noncomputable def asg (D : Std) (ea : ao) (t : Expr) (v : V) : Option { ea' : ao // bw D ea t v ea' } := match t with
 | .Name x _ => match vC D ea x v with
  | some a => some ⟨a.1, rI a.2⟩
  | none => none
 | .Tuple es _ _ => match e : fA v with
  | some xs => match Cj D ea es xs with
   | some b => some ⟨b.1, sZ e b.2⟩
   | none => none
  | none => none
 | _ => none
end
section
section
variable {D : Std} {M F W : Ap} {env : Env} {ea ea' : ao} {s s' : Shared} {A : Around} {E : Ee}
noncomputable def rQ (s : Shared) (b : Bool) : Bool → Shared → Prop := fun r s' => r = b ∧ s.heap.objs.size ≤ s'.heap.objs.size ∧ Keeps s s'
theorem bF (s : Shared) (b : Bool) (k : Nat) : rQ s b b { s with toks := k } := ⟨rfl, A6' _, Kp.toks' s k⟩
end
noncomputable def Ef : V → Option Bool
 | .none => some false
 | .bool b => some b
 | .int i => some (i != 0)
 | .list xs => some (!xs.isEmpty)
 | .byt x => some (decide (0 < x.size))
 | _ => none
noncomputable def dT (D : Std) (x : V) (b : Bool) : Prop := Ef x = some b ∧ ∀ {M : Ap} {s : Shared} {A : Around} {E : Ee} {v : Value}, VR D.prog D.w M s.heap v x → wpAny (model D.prog D.w) A (truthy v) (rQ s b) E s
theorem VRs.isEmpty {prog : Program} {w : World} {M : Ap} {h : Heap} {vs : List Value} {xs : List V} (r : VRs prog w M h vs xs) : vs.isEmpty = xs.isEmpty := by cases r <;> rfl
theorem q8 {D : Std} {xs : List V} (h : xs.length ≤ 100000) : dT D (.list xs) (!xs.isEmpty) := ⟨rfl, fun r => by
 obtain ⟨a, vs, n, rfl, _, ho, r⟩ := r.list_inv
 have h1 := r.length
 rw [Array.length_toList] at h1
 rw [← r.isEmpty, Array.isEmpty_toList]
 exact wpAny_truthy_list ⟨_, ho, rfl, _, rfl⟩ (by lia) (bF _ _ _)⟩
theorem vo {D : Std} {x : Array UInt8} (h : x.size ≤ 100000) : dT D (.byt x) (decide (0 < x.size)) := ⟨rfl, fun r => by
 obtain ⟨t, rfl⟩ := r.byt_inv
 refine truthy_bytes (by exact A1' ‹_› (by decide)) ?_
 rw [show ((x.size : Int) != 0) = decide (0 < x.size) from by cases x.size with | zero => rfl | succ n => simp; lia]
 exact bF _ _ _⟩
noncomputable def yw (D : Std) (x : V) : Option { b : Bool // dT D x b } := match x with
 | .none => some ⟨false, rfl, fun {_ s _ _ _} r => by cases r; exact truthy_none (bF s _ s.toks)⟩
 | .bool b => some ⟨b, rfl, fun {_ s _ _ _} r => by cases r; exact wpAny_truthy_bool (bF s _ s.toks)⟩
 | .int i => some ⟨i != 0, rfl, fun {_ s _ _ _} r => by obtain ⟨t, rfl⟩ := r.int_inv; exact truthy_int (bF s _ s.toks)⟩
 | .list xs => if h : xs.length ≤ 100000 then some ⟨_, q8 h⟩ else none
 | .byt x => if h : x.size ≤ 100000 then some ⟨_, vo h⟩ else none
 | _ => none
section
variable {D : Std} {M F W : Ap} {env : Env} {ea ea' : ao} {s s' : Shared} {A : Around} {E : Ee}
set_option tactic.hygienic true in
theorem sr {value slice : Expr} {o i : Value} {T id : String} {Q : Ee} (hT : s.TypeIs o T)
  (hl : typeLookup (.type T) "__getitem__" = pure (some (.builtin id))) (h : wpAny (model D.prog D.w) A (getItem o i) Q E s) :
  wpAny (model D.prog D.w) A (subscriptTail value slice o i) Q E s := by
 unfold subscriptTail
 refine Wb ?_
 rw [getitemInPython_of_ne hT.not_modules]
 refine Wb (wpAny_specialOf hT hl ?_)
 refine Wq (Wb ?_)
 have fin : wpAny (model D.prog D.w) A (getItem o i) (fun r s₃ => wpAny (model D.prog D.w) A (letTemporaryGo value o r >>= fun z => pure r) Q E s₃) E s :=
  wpAny_mono h (fun r s₃ h₃ => Wb (wpAny_letTemporaryGo (Wq h₃))) fun z z x => x
 unfold subscripted
 split
 ·exact wpAny_operating fin
 ·rename_i h; cases h
 ·exact wpAny_operating fin
end
noncomputable def eg (xs : List V) (lo hi st : Option Int) : List V :=
 (sliceRange (sliceBounds lo hi st xs.length).1 (sliceBounds lo hi st xs.length).2.1 (sliceBounds lo hi st xs.length).2.2).filterMap (xs[·]?)
section
variable {D : Std} {M F W : Ap} {s : Shared}
theorem i7 {vs : Array Value} {xs : List V} (r : VRs D.prog D.w M s.heap vs.toList xs) (lo hi st : Option Int) : VRs D.prog D.w M s.heap (slicePick vs lo hi st).toList (eg xs lo hi st) := by
 unfold slicePick eg
 have h1 := r.length
 rw [Array.length_toList] at h1
 rw [List.toList_toArray, h1]
 generalize sliceRange _ _ _ = js
 induction js with
 | nil => exact .nil
 | cons j js ih =>
  cases hx : xs[j]? with
  | some x =>
   obtain ⟨v, e, rv⟩ := r.get hx
   simp only [List.filterMap_cons, hx, show vs[j]? = some v from by simpa using e]
   exact .cons rv ih
  | none =>
   have hv : vs[j]? = none := by
    rw [Array.getElem?_eq_none_iff]
    rw [List.getElem?_eq_none_iff] at hx
    lia
   simp only [List.filterMap_cons, hx, hv]
   exact ih
end
noncomputable def lb (D : Std) (a b c : V) : Prop := ∀ {M : Ap} {s : Shared} {A : Around} {E : Ee} {value slice : Expr} {o i : Value}, VR D.prog D.w M s.heap o a → VR D.prog D.w M s.heap i b → wpAny (model D.prog D.w) A (subscriptTail value slice o i) (Got D.prog D.w M s c) E s
noncomputable def qo (D : Std) (a : V) (lo hi st : Option Int) (c : V) : Prop := ∀ {M : Ap} {s : Shared} {A : Around} {E : Ee} {value slice : Expr} {o vl vu vs : Value}, Dom M s → VR D.prog D.w M s.heap o a → IsPart vl lo → IsPart vu hi → IsPart vs st →
 wpAny (model D.prog D.w) A (subscriptTail value slice o (.ref s.heap.objs.size)) (Got D.prog D.w M s c) E { s with heap := s.heap.push { cls := .type "slice", data := .fields #[vl, vu, vs] } }
section
variable {D : Std}
theorem l7 {xs : List V} {k : Int} {c : V} (hk : 0 ≤ k ∧ k < 1000000) (e : xs[k.toNat]? = some c) : lb D (.list xs) (.int k) c := fun {_ s _ _ _ _ _ _} ra rb => by
 obtain ⟨a, vs, n, rfl, _, ho, r⟩ := ra.list_inv
 obtain ⟨t, rfl⟩ := rb.int_inv
 obtain ⟨v, e1, r1⟩ := r.get e
 exact sr (T := "list") ⟨_, ho, rfl⟩ slot_list_getitem.lookup (wpAny_getItem_list ⟨_, ho, rfl, _, rfl⟩ hk.1 (by lia) (by simpa using e1) ⟨Kp.refl' s, r1⟩)
theorem eR {xs : List V} {k : Int} {j : Nat} {c : V} (hk : -1000000 ≤ k ∧ k < 1000000) (e1 : seqIndex? k xs.length = some j) (e2 : xs[j]? = some c) : lb D (.tup xs) (.int k) c := fun {_ s _ _ _ _ _ _} ra rb => by
 obtain ⟨a, vs, n, o, rfl, _, ho, hc, hd, r⟩ := ra.tup_inv
 obtain ⟨t, rfl⟩ := rb.int_inv
 obtain ⟨v, e3, r1⟩ := r.get e2
 have h1 := r.length
 rw [Array.length_toList] at h1
 exact sr (T := "tuple") ⟨_, ho, hc⟩ slot_tuple_getitem.lookup (getItem_tuple ⟨_, ho, hc, _, hd⟩ (by lia) (by lia) (by rw [h1]; exact e1) (by simpa using e3) ⟨Kp.refl' s, r1⟩)
theorem oB {x : Str} {i : Int} (hi : fitsSsize i = true) (hc : (Txt.charAt x i).isSome = true) : lb D (.str x) (.int i) (.str (Txt.item x i)) := fun {M s A E _ _ _ _} ra rb => by
 obtain ⟨t, rfl⟩ := ra.str_inv
 obtain ⟨u, rfl⟩ := rb.int_inv
 obtain ⟨T, id, h1, h2, h3⟩ := SB.item (prog := D.prog) (w := D.w) (A := A) (E := E) (s := s) (x := x) (t := t) (u := u) (Q := Got D.prog D.w M s (.str (Txt.item x i))) hi hc (aW _ _ _)
 exact sr h2 h1 h3
theorem ck {kvs : Lv} {k : Str} {c : V} (e : cc kvs k = some c) : lb D (.dict kvs) (.str k) c := fun {_ s _ _ _ _ _ _} ra rb => by
 obtain ⟨a, kus, rfl, _, hd, hm, r⟩ := ra.dict_inv
 obtain ⟨t, rfl⟩ := rb.str_inv
 have l := fy r k
 rw [e] at l
 obtain ⟨v, e1, r1⟩ := l
 exact sr (T := "dict") hd.mapOf.typeIs slot_dict_getitem.lookup (wpAny_getItem_of (knd := PySem.strKind D.prog D.w) (PySem.strKind_is _ _ _ _) hd.mapOf e1 ⟨Kp.toks' s _, r1⟩)
theorem uR {x : Str} {lo hi : Option Int} (hl : x.length ≤ 100000) : qo D (.str x) lo hi none (.str (Txt.slice x lo hi)) := fun {M s A E _ _ _ vl vu _} d ra pl pu ps => by
 obtain ⟨t, rfl⟩ := ra.str_inv
 cases ps
 have hsz : x.length ≤ sizeLine := by rw [aX]; exact A1' ‹_› (by decide)
 have kp : PySem.KeptByPush (Keeps s) := fun s₁ ob k x => Kp.trans' x (Kp.push' s₁ ob k)
 have key : ItemOn (model D.prog D.w) A E (.str x t) (.ref s.heap.objs.size) (Got D.prog D.w M s (.str (Txt.slice x lo hi))) { s with heap := s.heap.push { cls := .type "slice", data := .fields #[vl, vu, .none] } } := by
  cases pl <;> cases pu
  ·exact SBG.sliceItem_nn kp (Kp.refl' s) (fun s' t' k => ⟨k, .str _ _⟩) hsz
  ·exact SBG.sliceItem_ns kp (Kp.refl' s) (fun s' t' k => ⟨k, .str _ _⟩) hsz
  ·exact SBG.sliceItem_sn kp (Kp.refl' s) (fun s' t' k => ⟨k, .str _ _⟩) hsz
  ·exact SBG.sliceItem_ss kp (Kp.refl' s) (fun s' t' k => ⟨k, .str _ _⟩) hsz
 obtain ⟨T, id, h1, h2, h3⟩ := key
 exact sr h2 h1 h3
theorem ft {xs : List V} {lo hi st : Option Int} (hl : xs.length ≤ 100000) (h0 : st ≠ some 0) : qo D (.list xs) lo hi st (.list (eg xs lo hi st)) := fun {M s A E _ _ _ vl vu vs} d ra pl pu ps => by
 obtain ⟨a, items, n, rfl, _, ho, r⟩ := ra.list_inv
 have h1 := r.length
 rw [Array.length_toList] at h1
 have ho' := A3' { cls := .type "slice", data := .fields #[vl, vu, vs] } ho
 refine sr (T := "list") ⟨_, ho', rfl⟩ slot_list_getitem.lookup (wpAny_getItem_list_slice ⟨_, ho', rfl, _, rfl⟩ (Heap.IsSliceOf.new ..) pl pu ps h0 ?_ (by rw [aX]; lia))
 have g := dD (s := { s with heap := s.heap.push { cls := .type "slice", data := .fields #[vl, vu, vs] } }) (prog := D.prog) (w := D.w) (M := M) (d.size (aC ..)) (vs := slicePick items lo hi st) (xs := eg xs lo hi st)
  ((i7 r lo hi st).keeps fun z z e => A3' _ e)
 exact ⟨Kp.trans' (Kp.push' s _ s.toks) g.1, g.2⟩
end
noncomputable def DN (D : Std) (a b : V) : Option { c : V // lb D a b c } := match a, b with
 | .list xs, .int k => if hk : 0 ≤ k ∧ k < 1000000 then match e : xs[k.toNat]? with
  | some c => some ⟨c, l7 hk e⟩
  | none => none
  else none
 | .tup xs, .int k => if hk : -1000000 ≤ k ∧ k < 1000000 then match e1 : seqIndex? k xs.length with
  | some j => match e2 : xs[j]? with
   | some c => some ⟨c, eR hk e1 e2⟩
   | none => none
  | none => none
  else none
 | .str x, .int i => if h1 : fitsSsize i = true then if h2 : (Txt.charAt x i).isSome = true then some ⟨_, oB h1 h2⟩ else none else none
 | .dict kvs, .str k => match e : cc kvs k with
  | some c => some ⟨c, ck e⟩
  | none => none
 | _, _ => none
noncomputable def Dj (D : Std) (a : V) (lo hi st : Option Int) : Option { c : V // qo D a lo hi st c } := match a, st with
 | .str x, none => if h : x.length ≤ 100000 then some ⟨_, uR h⟩ else none
 | .list xs, none => if h : xs.length ≤ 100000 then some ⟨_, ft (st := none) h (by intro e; cases e)⟩ else none
 | .list xs, some k => if h : xs.length ≤ 100000 then if h0 : k = 0 then none else some ⟨_, ft (st := some k) h (fun e => h0 (Option.some.inj e))⟩ else none
 | _, _ => none
end
section
noncomputable def fF (f : Value) (s : Shared) : Prop := (∀ a, f ≠ .ref a) ∨ ∃ a o fd, f = .ref a ∧ s.heap.get? a = some o ∧ o.data = .func fd
noncomputable def Nx (D : Std) (M F W : Ap) (env : Env) (s : Shared) (ea' : ao) : Flow → Shared → Prop := fun f s' => f = .next ∧ s.heap.objs.size ≤ s'.heap.objs.size ∧ aq W s s' ∧ Rel D M F W env ea' s'
structure tP (e : Expr) : Prop where
 star : ∀ env t, starEach (e :: t) env = (false, eval e env) :: starEach t env
 fold : ∀ env x, foldedSetIterable e env x = pure x
 marks : ∀ op, behindInMarks op e = false
 swS : ∀ o i p line env, swapsWith e (some (.Subscript o i p)) line env = pure false
 base : ∀ m env w, attributeBase e m env w = w
noncomputable def gG (e : Expr) : Prop := ∀ x p line env, swapsWith e (some (.Name x p)) line env = pure false
structure Ev (D : Std) (n : Nat) (ea : ao) (e : Expr) (x : V) : Prop where
 pl : tP e
 ev : ∀ {M F W : Ap} {env : Env} {s : Shared} {A : Around} {E : Ee}, bb n A → Rel D M F W env ea s → wpAny (model D.prog D.w) A (eval e env) (cz D M s x) E s
 tr : ∀ {M F W : Ap} {env : Env} {s : Shared} {A : Around} {E : Ee} {b : Bool}, bb n A → Rel D M F W env ea s → dT D x b → wpAny (model D.prog D.w) A (isTrue e env (eval e env)) (rQ s b) E s
 nm : ∀ {M F W : Ap} {env : Env} {s : Shared} {A : Around} {E : Ee} {y : Str} {p pos : Pos} {ea' : ao}, bb n A → Rel D M F W env ea s → dG D ea y x ea' → wpAny (model D.prog D.w) A (exec (.Assign [.Name y p] e pos) env) (Nx D M F W env s ea') E s
abbrev EvC (D : Std) (n : Nat) (ea : ao) (e : Expr) := Option { x : V // Ev D n ea e x }
section
variable {D : Std} {n : Nat} {M F W : Ap} {env : Env} {ea ea' : ao} {s s' : Shared} {A : Around} {E : Ee}
theorem Ev.mkT {e : Expr} {x : V} (pl : tP e) (ns : gG e)
  (tr : ∀ {M F W : Ap} {env : Env} {s : Shared} {A : Around} {E : Ee} {b : Bool}, bb n A → Rel D M F W env ea s → dT D x b → wpAny (model D.prog D.w) A (isTrue e env (eval e env)) (rQ s b) E s)
  (ev : ∀ {M F W : Ap} {env : Env} {s : Shared} {A : Around} {E : Ee}, bb n A → Rel D M F W env ea s → wpAny (model D.prog D.w) A (eval e env) (cz D M s x) E s) : Ev D n ea e x :=
 ⟨pl, ev, tr, fun hA R a => wpAny_Assign_Name (au (ev hA R) fun z z g => aA (a (R.keeps g.2.1 g.1) g.2.2 fun z k R' hz => ⟨rfl, A1' g.1 hz, (Kp.toW g.2.1).trans k, R'⟩)) (ns _ _ _ _)⟩
theorem ub {e : Expr} {x : V} (he : ∀ env w, isTrue e env w = (do let v ← w; standAt e.pos; holding [v] (truthy v)))
  (ev : ∀ {M F W : Ap} {env : Env} {s : Shared} {A : Around} {E : Ee}, bb n A → Rel D M F W env ea s → wpAny (model D.prog D.w) A (eval e env) (cz D M s x) E s) {b : Bool}
  (hA : bb n A) (R : Rel D M F W env ea s) (hb : dT D x b) : wpAny (model D.prog D.w) A (isTrue e env (eval e env)) (rQ s b) E s :=
 wpAny_isTrue_value (au (ev hA R) fun z z g => au (hb.2 g.2.2) fun z z g₂ => ⟨g₂.1, A1' g.1 g₂.2.1, Kp.trans' g.2.1 g₂.2.2⟩) (he env _)
theorem Ev.mk' {e : Expr} {x : V} (pl : tP e) (ns : gG e) (he : ∀ env w, isTrue e env w = (do let v ← w; standAt e.pos; holding [v] (truthy v)))
  (ev : ∀ {M F W : Ap} {env : Env} {s : Shared} {A : Around} {E : Ee}, bb n A → Rel D M F W env ea s → wpAny (model D.prog D.w) A (eval e env) (cz D M s x) E s) : Ev D n ea e x :=
 .mkT pl ns (ub he ev) ev
theorem cz.after {x : V} {s₁ : Shared} {t : Sem Value} (k : Keeps s s₁) (hsz : s.heap.objs.size ≤ s₁.heap.objs.size) (h : wpAny (model D.prog D.w) A t (Got D.prog D.w M s₁ x) E s₁) : wpAny (model D.prog D.w) A t (cz D M s x) E s₁ :=
 au (cz.of h) fun z z g => ⟨A1' hsz g.1, Kp.trans' k g.2.1, g.2.2⟩
theorem cz.then {x : V} {s₁ : Shared} {v : Value} (k : Keeps s s₁) (hsz : s.heap.objs.size ≤ s₁.heap.objs.size) (g : cz D M s₁ x v s') : cz D M s x v s' := ⟨A1' hsz g.1, Kp.trans' k g.2.1, g.2.2⟩
theorem rQ.then {b c : Bool} {s₁ : Shared} (k : Keeps s s₁) (hsz : s.heap.objs.size ≤ s₁.heap.objs.size) (g : rQ s₁ b c s') : rQ s b c s' := ⟨g.1, A1' hsz g.2.1, Kp.trans' k g.2.2⟩
theorem iR {l r : Expr} {a b : V} (ha : Ev D n ea l a) (hb : Ev D n ea r b) (hA : bb n A) (R : Rel D M F W env ea s) {Q : Value → Ee}
  (h : ∀ u v s₂, s.heap.objs.size ≤ s₂.heap.objs.size → Keeps s s₂ → Rel D M F W env ea s₂ → VR D.prog D.w M s₂.heap u a → VR D.prog D.w M s₂.heap v b → Q u v s₂) :
  wpAny (model D.prog D.w) A (eval l env) (fun u s₁ => wpAny (model D.prog D.w) A (eval r env) (fun v s₂ => Q u v s₂) E s₁) E s :=
 au (ha.ev hA R) fun u s₁ g => au (hb.ev hA (R.keeps g.2.1 g.1)) fun v s₂ g₂ =>
  h u v s₂ (A1' g.1 g₂.1) (Kp.trans' g.2.1 g₂.2.1) ((R.keeps g.2.1 g.1).keeps g₂.2.1 g₂.1) (g.2.2.keeps fun z z e => Kp.get g₂.2.1 e) g₂.2.2
noncomputable def CG (D : Std) (M : Ap) (s : Shared) (xs : List V) : List Value → Shared → Prop := fun vs s' => s.heap.objs.size ≤ s'.heap.objs.size ∧ Keeps s s' ∧ VRs D.prog D.w M s'.heap vs xs
structure Evs (D : Std) (n : Nat) (ea : ao) (es : List Expr) (xs : List V) : Prop where
 len : xs.length = es.length
 slen : ∀ env, (starEach es env).length = es.length
 no : ∀ pos env, (backTo pos (starEach es env)).any (·.1) = false
 ev : ∀ {M F W : Ap} {env : Env} {s : Shared} {A : Around} {E : Ee} (pos : Pos), bb n A → Rel D M F W env ea s → wpAny (model D.prog D.w) A (spliced (backTo pos (starEach es env))) (CG D M s xs) E s
theorem al : Evs D n ea [] [] := ⟨rfl, fun z => rfl, fun z z => rfl, fun {_ _ _ _ s _ _} _ _ _ => spliced_nil ⟨A6' _, Kp.refl' s, .nil⟩⟩
theorem ai {e : Expr} {x : V} {es : List Expr} {xs : List V} (a : Ev D n ea e x) (b : Evs D n ea es xs) : Evs D n ea (e :: es) (x :: xs) :=
 ⟨congrArg Nat.succ b.len, fun env => by rw [a.pl.star]; exact congrArg Nat.succ (b.slen env), fun pos env => by
  rw [a.pl.star]
  show (false || (backTo pos (starEach es env)).any (·.1)) = false
  rw [Bool.false_or]; exact b.no pos env, fun {_ _ _ env s _ _} pos hA R => by
  rw [a.pl.star]
  exact spliced_cons (au (a.ev hA R) fun u s₁ g => au (b.ev pos hA (R.keeps g.2.1 g.1)) fun us s₂ g₂ => ⟨A1' g.1 g₂.1, Kp.trans' g.2.1 g₂.2.1, .cons (g.2.2.keeps fun z z e => Kp.get g₂.2.1 e) g₂.2.2⟩)⟩
theorem dS {f : Value} {trees : List (Bool × Sem Value)} (hp : trees.any (·.1) = false) {Q : Args → Shared → Prop} (h : wpAny (model D.prog D.w) A (spliced trees) (fun vs s' => Q ⟨vs, []⟩ s') E s) : wpAny (model D.prog D.w) A (evalArgs f true trees []) Q E s := by
 cases trees with
 | nil =>
  unfold evalArgs
  show wpAny _ A (spliced [] >>= _) Q E s
  refine Wb (wpAny_mono h (fun vs s' h' => ?_) fun z z x => x)
  refine B3' ?_
  exact Wb (Wq (Wb (Wq (Wq h'))))
 | cons p t =>
  obtain ⟨b, x⟩ := p
  cases b with
  | true => simp at hp
  | false => exact evalArgs_plain h
theorem bT {pos : Pos} {f : Value} {first : List Value} {trees : List (Bool × Sem Value)} {Q : Ee} (hp : trees.any (·.1) = false)
  (h : wpAny (model D.prog D.w) A (spliced trees) (fun vs s₁ => fF f s₁ ∧ wpAny (model D.prog D.w) A (call f (first ++ vs)) Q E s₁) E s) : wpAny (model D.prog D.w) A (callWith pos f first trees []) Q E s := by
 unfold callWith
 refine Wb (B3' (wpAny_mono (dS hp (Q := fun x s₁ => x.kw = [] ∧ fF f s₁ ∧ wpAny (model D.prog D.w) A (call f (first ++ x.pos)) Q E s₁) (wpAny_mono h (fun vs s₁ h₁ => ⟨rfl, h₁⟩) fun z z x => x)) (fun x s₁ h₁ => Wb (wpAny_standAt ?_)) fun z z x => x))
 obtain ⟨hkw, hk, h₁⟩ := h₁
 obtain ⟨xp, xk⟩ := x
 dsimp only at hkw h₁ ⊢
 subst hkw
 have tail : ∀ {t : Sem Value}, wpAny (model D.prog D.w) A t Q E s₁ → wpAny (model D.prog D.w) A (t >>= fun r => holding [r] point >>= fun z => pure r) Q E s₁ :=
  fun ht => Wb (wpAny_mono ht (fun r s₂ hr => Wb (B3' (wpAny_point (Wq hr)))) fun z z x => x)
 simp only [hp, List.any_nil, Bool.or_false]
 refine wpAny_bind (m := keeperOf f) ?_
 unfold keeperOf
 rcases hk with hk | ⟨a, o, fd, rfl, ho, hd⟩
 ·cases f <;> first | exact absurd rfl (hk _) | skip
  all_goals exact Wq (tail h₁)
 ·refine Wb (wpAny_load ho ?_)
  rw [hd]
  refine Wq ?_
  refine wpAny_ite ?_
  split
  ·exact tail h₁
  ·exact tail (by unfold callMarked; exact Calls.wpAny_keep h₁)
end
noncomputable def evs {D : Std} {n : Nat} {ea : ao} (r : (e : Expr) → EvC D n ea e) : (es : List Expr) → Option { xs : List V // Evs D n ea es xs }
 | [] => some ⟨[], al⟩
 | e :: t => match r e with
  | none => none
  | some a => match evs r t with
   | none => none
   | some b => some ⟨a.1 :: b.1, ai a.2 b.2⟩
noncomputable def rD (D : Std) (n : Nat) (x : Str) (xs : List V) (r : V) : Prop := ∀ {M : Ap} {s : Shared} {A : Around} {E : Ee} {fv : Value} {vs : List Value}, bb n A → D.St s.heap → Dom M s → (∀ b, M b → D.base ≤ b ∨ b = D.tab) → D.base ≤ s.heap.objs.size →
 D.gl x = some fv → VRs D.prog D.w M s.heap vs xs → fF fv s ∧ wpAny (model D.prog D.w) A (call fv vs) (Got D.prog D.w M s r) E s
noncomputable def nk (D : Std) (n : Nat) (m : Str) (x : V) (xs : List V) (r : V) : Prop := ∃ T id, PlainAttrs T ∧ Slot T m id ∧ typeOf (.builtin id) = pure (.type "method_descriptor") ∧
 (∀ {M : Ap} {s : Shared} {v : Value}, VR D.prog D.w M s.heap v x → s.TypeIs v T ∧ ∀ a, v = .ref a → ∃ ob, s.heap.get? a = some ob ∧ ob.dict = none) ∧
 ∀ {M : Ap} {s : Shared} {A : Around} {E : Ee} {v : Value} {vs : List Value}, bb n A → Dom M s → VR D.prog D.w M s.heap v x → VRs D.prog D.w M s.heap vs xs → wpAny (model D.prog D.w) A (call (.builtin id) (v :: vs)) (Got D.prog D.w M s r) E s
noncomputable def rB (D : Std) (n : Nat) (m : Str) (mv : MV) (xs : List V) (mv' : MV) (r : V) : Prop := ∀ {M : Ap} {s : Shared} {A : Around} {E : Ee} {a l : Addr} {pl : Sem Bool}, bb n A → D.St s.heap → Dom M s → (∀ b, M b → D.base ≤ b ∨ b = D.tab) → D.base ≤ s.heap.objs.size → M l → cj D M s.heap a l mv →
 wpAny (model D.prog D.w) A (getMethod (.ref a) m pl) (fun p s' => s.heap.objs.size ≤ s'.heap.objs.size ∧ Keeps s s' ∧ ∀ s₂ vs (E : Ee), Keeps s' s₂ → s'.heap.objs.size ≤ s₂.heap.objs.size → VRs D.prog D.w M s₂.heap vs xs →
  fF p.1 s₂ ∧ wpAny (model D.prog D.w) A (call p.1 (p.2 ++ vs)) (fun u s₃ => aq (fun b => b = l) s₂ s₃ ∧ cj D M s₃.heap a l mv' ∧ VR D.prog D.w M s₃.heap u r) E s₂) E s
noncomputable def qM (D : Std) (n : Nat) (m : Str) (mv : MV) (xs : List V) (r : V) : Prop := ∀ {M : Ap} {s : Shared} {A : Around} {E : Ee} {a l : Addr} {pl : Sem Bool}, bb n A → D.St s.heap → Dom M s → (∀ b, M b → D.base ≤ b ∨ b = D.tab) → D.base ≤ s.heap.objs.size → M l → cj D M s.heap a l mv →
 wpAny (model D.prog D.w) A (getMethod (.ref a) m pl) (fun p s' => s.heap.objs.size ≤ s'.heap.objs.size ∧ Keeps s s' ∧ ∀ s₂ vs (E : Ee), Keeps s' s₂ → s'.heap.objs.size ≤ s₂.heap.objs.size → VRs D.prog D.w M s₂.heap vs xs →
  fF p.1 s₂ ∧ wpAny (model D.prog D.w) A (call p.1 (p.2 ++ vs)) (Got D.prog D.w M s₂ r) E s₂) E s
noncomputable def Cw (D : Std) (n : Nat) (x : Str) (xs : List V) (r : V) : Prop := ∀ {M : Ap} {s : Shared} {A : Around} {E : Ee} {t : Tok} {v : Value}, bb n A → Dom M s → VR D.prog D.w M s.heap v (.tup xs) → wpAny (model D.prog D.w) A (binaryOp .Mod (.str x t) v) (Got D.prog D.w M s r) E s
end
section
section
variable {D : Std} {n : Nat} {M F W : Ap} {env : Env} {ea ea' : ao} {s s' : Shared} {A : Around} {E : Ee}
theorem aK {c : Const} {k : Nat} {pos : Pos} {x : V} (h : ∀ {M : Ap} {env : Env} {s : Shared} {A : Around} {E : Ee}, wpAny (model D.prog D.w) A (eval (.Constant c k pos) env) (Got D.prog D.w M s x) E s) : Ev D n ea (.Constant c k pos) x :=
 .mk' ⟨fun z z => rfl, fun z z => rfl, fun z => rfl, fun z z z z z => rfl, fun z z z => rfl⟩ (fun z z z z => rfl) (fun z z => rfl) fun z z => cz.of h
theorem jj {x : Str} {p : Pos} {v : V} (hx : sq x "__debug__" = false) (h : dJ D ea x v) : Ev D n ea (.Name x p) v :=
 .mk' ⟨fun z z => rfl, fun z z => rfl, fun z => rfl, fun z z z z z => rfl, fun z z z => rfl⟩ (fun z z z z => rfl) (fun z z => rfl) fun z R => cz.of (wpAny_Name (h R) (by simpa using aJ hx))
theorem eh {l r : Expr} {op : Operator} {p : Pos} {a b c : V} (ha : Ev D n ea l a) (hb : Ev D n ea r b) (hc : dN D.prog D.w op a b c) : Ev D n ea (.BinOp l op r p) c :=
 .mk' ⟨fun z z => rfl, fun z z => rfl, fun z => rfl, fun z z z z z => rfl, fun z z z => rfl⟩ (fun z z z z => rfl) (fun z z => rfl) fun hA R => wpAny_BinOp (iR ha hb hA R fun z z z hz k R₂ ru rv => cz.after k hz (hc ru rv R₂.dom))
theorem AX {l r : Expr} {p : Pos} {x : Str} {xs : List V} {c : V} (ha : Ev D n ea l (.str x)) (hb : Ev D n ea r (.tup xs)) (hc : Cw D n x xs c) : Ev D n ea (.BinOp l .Mod r p) c :=
 .mk' ⟨fun z z => rfl, fun z z => rfl, fun z => rfl, fun z z z z z => rfl, fun z z z => rfl⟩ (fun z z z z => rfl) (fun z z => rfl) fun hA R => wpAny_BinOp (iR ha hb hA R fun z z z hz k R₂ ru rv => cz.after k hz (let ⟨_, e⟩ := ru.str_inv; e ▸ hc hA R₂.dom rv))
theorem bo {l r : Expr} {op : CmpOp} {p : Pos} {a b : V} {c : Bool} (ha : Ev D n ea l a) (hb : Ev D n ea r b) (hc : a6 D.prog D.w op a b c) : Ev D n ea (.Compare l [op] [r] p) (.bool c) :=
 .mkT ⟨fun z z => rfl, fun z z => rfl, fun z => rfl, fun z z z z z => rfl, fun z z z => rfl⟩ (fun z z z z => rfl)
  (fun hA R ht => wpAny_isTrue_Compare1 (iR ha hb hA R fun z z z hz k R₂ ru rv => au (bh (hc ru rv (by have := hA.units; lia))) fun z z g => au (ht.2 g.2.2) fun z z g₂ => ⟨g₂.1, A1' hz (A1' g.1 g₂.2.1), Kp.trans' k (Kp.trans' g.2.1 g₂.2.2)⟩) (hb.pl.marks op))
  fun hA R => wpAny_Compare1 (iR ha hb hA R fun z z z hz k R₂ ru rv => cz.after k hz (hc ru rv (by have := hA.units; lia))) (hb.pl.marks op)
theorem AR {e : Expr} {p : Pos} {i : Int} (h : Ev D n ea e (.int i)) : Ev D n ea (.UnaryOp .USub e p) (.int (-i)) :=
 .mk' ⟨fun z z => rfl, fun z z => rfl, fun z => rfl, fun z z z z z => rfl, fun z z z => rfl⟩ (fun z z z z => rfl) (fun z z => rfl) fun hA R => wpAny_UnaryOp (au (h.ev hA R) fun z z g => cz.after g.2.1 g.1 (let ⟨_, e⟩ := g.2.2.int_inv; e ▸ P.neg_int (aP _ _ _)))
theorem AM {e : Expr} {p : Pos} {x : V} {b : Bool} (h : Ev D n ea e x) (hb : dT D x b) : Ev D n ea (.UnaryOp .Not e p) (.bool (!b)) :=
 .mkT ⟨fun z z => rfl, fun z z => rfl, fun z => rfl, fun z z z z z => rfl, fun z z z => rfl⟩ (fun z z z z => rfl)
  (fun {_ _ _ _ _ A _ c} hA R ht => by
   rw [arm_isTrue_UnaryOp]
   refine Wb (au (h.tr hA R hb) fun c' s₁ g => Wq ⟨?_, g.2⟩)
   rw [g.1]; exact Option.some.inj ht.1)
  fun hA R => wpAny_UnaryOp (au (h.ev hA R) fun z z g => not_of (au (hb.2 g.2.2) fun z z g₂ => ⟨A1' g.1 g₂.2.1, Kp.trans' g.2.1 g₂.2.2, g₂.1 ▸ .bool _⟩))
theorem qY {t b o : Expr} {p : Pos} {x y : V} {c : Bool} (ht : Ev D n ea t x) (hc : dT D x c) (hy : Ev D n ea (if c = true then b else o) y) : Ev D n ea (.IfExp t b o p) y :=
 .mkT ⟨fun z z => rfl, fun z z => rfl, fun z => rfl, fun z z z z z => rfl, fun z z z => rfl⟩ (fun z z z z => rfl)
  (fun {_ _ _ _ _ _ E _} hA R hb => by
   rw [arm_isTrue_IfExp]
   refine Wb (au (ht.tr hA R hc) fun c' s₁ g => ?_)
   obtain ⟨rfl, hz, k⟩ := g
   have := au (hy.tr (E := E) hA (R.keeps k hz) hb) fun z z g₂ => g₂.then k hz
   cases c' <;> exact this)
  fun {_ _ _ _ _ _ E} hA R => wpAny_IfExp (au (ht.tr hA R hc) fun c' s₁ g => by
   obtain ⟨rfl, hz, k⟩ := g
   have := au (hy.ev (E := E) hA (R.keeps k hz)) fun z z g₂ => g₂.then k hz
   cases c' <;> exact this)
theorem mO {es : List Expr} {k : Nat} {p : Pos} {xs : List V} (hf : es.length ≤ 1000) (h : Evs D n ea es xs) : Ev D n ea (.Tuple es k p) (.tup xs) :=
 .mk' ⟨fun z z => rfl, fun z z => rfl, fun z => rfl, fun z z z z z => rfl, fun z z z => rfl⟩ (fun z z z z => rfl) (fun z z => rfl) fun hA R => Tuple_ (au (h.ev p hA R) fun us s₁ g => cz.after g.2.1 g.1 (B7' (uQ (R.dom.size g.1) (vs := us.toArray) g.2.2) (by
  show us.toArray.size ≤ sizeLine
  have h1 := g.2.2.length
  have h2 := h.len
  rw [List.size_toArray, aX]; lia)))
theorem eW {es : List Expr} {p : Pos} {xs : List V} (hf : es.length ≤ 1000) (h : Evs D n ea es xs) : Ev D n ea (.List es p) (.list xs) :=
 .mk' ⟨fun z z => rfl, fun z z => rfl, fun z => rfl, fun z z z z z => rfl, fun z z z => rfl⟩ (fun z z z z => rfl) (fun z z => rfl) fun hA R => List_ (au (h.ev p hA R) fun us s₁ g => cz.after g.2.1 g.1 (B7' (dD (R.dom.size g.1) (vs := us.toArray) g.2.2) (by
  show us.toArray.size ≤ sizeLine
  have h1 := g.2.2.length
  have h2 := h.len
  rw [List.size_toArray, aX]; lia)))
theorem d6 {v i : Expr} {p : Pos} {a b c : V} (ha : Ev D n ea v a) (hb : Ev D n ea i b) (hc : lb D a b c) : Ev D n ea (.Subscript v i p) c :=
 .mk' ⟨fun z z => rfl, fun z z => rfl, fun z => rfl, fun z z z z z => rfl, fun z z z => rfl⟩ (fun z z z z => rfl) (fun z z => rfl) fun hA R => Subscript_ (iR ha hb hA R fun z z z hz k z ru rv => cz.after k hz (hc ru rv))
noncomputable def gO (D : Std) (n : Nat) (ea : ao) (o : Option Expr) (p : Option Int) : Prop := ∀ {M F W : Ap} {env : Env} {s : Shared} {A : Around} {E : Ee}, bb n A → Rel D M F W env ea s →
 wpAny (model D.prog D.w) A (valueOrNone (evalOpt o env)) (fun v s' => s.heap.objs.size ≤ s'.heap.objs.size ∧ Keeps s s' ∧ IsPart v p) E s
theorem fZ : gO D n ea none none := fun {_ _ _ _ s _ _} _ _ => Wq ⟨A6' _, Kp.refl' s, .none⟩
theorem d8 {e : Expr} {i : Int} (h : Ev D n ea e (.int i)) : gO D n ea (some e) (some i) := fun hA R => au (h.ev hA R) fun z z g => ⟨g.1, g.2.1, let ⟨t, e⟩ := g.2.2.int_inv; e ▸ .int i t⟩
theorem uj {v : Expr} {lo hi st : Option Expr} {sp p : Pos} {a c : V} {l h t : Option Int} (ha : Ev D n ea v a) (hl : gO D n ea lo l) (hh : gO D n ea hi h) (ht : gO D n ea st t) (hc : qo D a l h t c) : Ev D n ea (.Subscript v (.Slice lo hi st sp) p) c :=
 .mk' ⟨fun z z => rfl, fun z z => rfl, fun z => rfl, fun z z z z z => rfl, fun z z z => rfl⟩ (fun z z z z => rfl) (fun z z => rfl) fun hA R => Subscript_ (au (ha.ev hA R) fun o s₁ g => by
  obtain ⟨hz, k, ro⟩ := g
  have R₁ := R.keeps k hz
  rw [arm_eval_Slice]
  refine Wb (au (hl hA R₁) fun lv s₂ g₂ => ?_)
  have R₂ := R₁.keeps g₂.2.1 g₂.1
  refine Wb (B3' (au (hh hA R₂) fun uv s₃ g₃ => ?_))
  have R₃ := R₂.keeps g₃.2.1 g₃.1
  refine Wb (B3' (au (ht hA R₃) fun sv s₄ g₄ => ?_))
  have k14 := Kp.trans' (Kp.trans' g₂.2.1 g₃.2.1) g₄.2.1
  show wpAny _ _ (newFields "slice" [lv, uv, sv]) _ _ s₄
  refine B7' ?_
  exact au (bh (hc (R₃.keeps g₄.2.1 g₄.1).dom (ro.keeps fun b o e => Kp.get k14 e) g₂.2.2 g₃.2.2 g₄.2.2)) fun z z g =>
   ⟨A1' (A1' (A1' (A1' (A1' hz g₂.1) g₃.1) g₄.1) (aC ..)) g.1, Kp.trans' (Kp.trans' k k14) g.2.1, g.2.2⟩)
theorem gU {e : Expr} {op : BoolOp} {p : Pos} {x : V} (h : Ev D n ea e x) : Ev D n ea (.BoolOp op [e] p) x :=
 .mkT ⟨fun z z => rfl, fun z z => rfl, fun z => rfl, fun z z z z z => rfl, fun z z z => rfl⟩ (fun z z z z => rfl) (fun {_ _ _ _ _ _ _ b} hA R hb => by
   rw [arm_isTrue_BoolOp, arm_allTrue_cons]
   refine Wb (au (h.tr hA R hb) fun c s₁ g => ?_)
   obtain ⟨rfl, g⟩ := g
   cases op <;> cases c <;> exact Wq ⟨rfl, g⟩) fun hA R => BoolOp_one (h.ev hA R)
theorem w3 {e₁ e₂ : Expr} {t : List Expr} {op : BoolOp} {p : Pos} {x y : V} {c : Bool} (h : Ev D n ea e₁ x) (hc : dT D x c) (hop : c = (match op with | .And => true | .Or => false)) (hy : Ev D n ea (.BoolOp op (e₂ :: t) p) y) : Ev D n ea (.BoolOp op (e₁ :: e₂ :: t) p) y :=
 .mkT ⟨fun z z => rfl, fun z z => rfl, fun z => rfl, fun z z z z z => rfl, fun z z z => rfl⟩ (fun z z z z => rfl)
  (fun {_ _ _ _ _ _ E _} hA R hb => by
   rw [arm_isTrue_BoolOp, arm_allTrue_cons]
   refine Wb (au (h.tr hA R hc) fun c' s₁ g => ?_)
   obtain ⟨rfl, hz, k⟩ := g
   have := au (hy.tr (E := E) hA (R.keeps k hz) hb) fun z z g₂ => g₂.then k hz
   rw [arm_isTrue_BoolOp] at this
   cases op <;> (subst hop; exact this))
  fun hA R => by
   have step : ∀ {M F W : Ap} {env : Env} {s : Shared} {A : Around} {E : Ee}, bb n A → Rel D M F W env ea s → wpAny (model D.prog D.w) A (eval e₁ env) (fun v s₁ => wpAny (model D.prog D.w) A (truthy v) (fun c' s₂ => c' = c ∧ wpAny (model D.prog D.w) A (eval (.BoolOp op (e₂ :: t) p) env) (cz D M s y) E s₂) E s₁) E s :=
    fun hA R => au (h.ev hA R) fun z z g => au (hc.2 g.2.2) fun z z g₂ => ⟨g₂.1, au (hy.ev hA ((R.keeps g.2.1 g.1).keeps g₂.2.2 g₂.2.1)) fun z z g₃ => (g₃.then g₂.2.2 g₂.2.1).then g.2.1 g.1⟩
   cases op with
   | And => exact BoolOp_and (au (step hA R) fun z z q => au q fun z z q => by rw [q.1, hop]; exact q.2)
   | Or => exact BoolOp_or (au (step hA R) fun z z q => au q fun z z q => by rw [q.1, hop]; exact q.2)
theorem ju {e₁ e₂ : Expr} {t : List Expr} {op : BoolOp} {p : Pos} {x : V} {c : Bool} (h : Ev D n ea e₁ x) (hc : dT D x c) (hop : c = (match op with | .And => false | .Or => true)) : Ev D n ea (.BoolOp op (e₁ :: e₂ :: t) p) x :=
 .mkT ⟨fun z z => rfl, fun z z => rfl, fun z => rfl, fun z z z z z => rfl, fun z z z => rfl⟩ (fun z z z z => rfl)
  (fun {_ _ _ _ _ _ E _} hA R hb => by
   rw [arm_isTrue_BoolOp, arm_allTrue_cons]
   refine Wb (au (h.tr hA R hb) fun c' s₁ g => ?_)
   have e : c = _ := Option.some.inj (hc.1.symm.trans hb.1)
   obtain ⟨rfl, g⟩ := g
   rw [hop] at e
   cases op <;> (subst e; exact Wq ⟨rfl, g⟩))
  fun {_ _ _ _ _ A E} hA R => by
   have step := au (h.ev (E := E) hA R) fun z z g => au (hc.2 (E := E) (A := A) g.2.2) fun c' s₂ g₂ => (⟨g₂.1, A1' g.1 g₂.2.1, Kp.trans' g.2.1 g₂.2.2, g.2.2.keeps fun z z e => Kp.get g₂.2.2 e⟩ : c' = c ∧ cz _ _ _ _ _ s₂)
   cases op with
   | And => exact BoolOp_and (au step fun z z q => au q fun z z q => by rw [q.1, hop]; exact q.2)
   | Or => exact BoolOp_or (au step fun z z q => au q fun z z q => by rw [q.1, hop]; exact q.2)
end
end
section
section
variable {D : Std} {n : Nat} {M F W : Ap} {env : Env} {ea ea' : ao} {s s' : Shared} {A : Around} {E : Ee}
theorem wD {o : Expr} {m : Str} {apos pos : Pos} {args : List Expr} {Q : Ee} (hb : attributeBase o m env (eval o env) = eval o env) (hl : (apos.endLine == pos.line) = true) (hf : args.length < 20) (hp : (backTo pos (starEach args env)).any (·.1) = false)
  (h : wpAny (model D.prog D.w) A (eval o env) (fun ov s₁ => wpAny (model D.prog D.w) A (getMethod ov m (do return (← importBound o env).getD true)) (fun p s₂ => wpAny (model D.prog D.w) A (spliced (backTo pos (starEach args env))) (fun us s₃ => fF p.1 s₃ ∧ wpAny (model D.prog D.w) A (call p.1 (p.2 ++ us)) Q E s₃) E s₂) E s₁) E s) :
  wpAny (model D.prog D.w) A (eval (.Call (.Attribute o m apos) args [] pos) env) Q E s := by
 have hform : methodCallForm (args.length + ([] : List Keyword).length) (backTo pos (starEach args env)) (backToKw pos (keywordEach [] env)) = true := by
  unfold methodCallForm
  rw [List.all_eq_not_any_not]
  simp only [Bool.not_not]
  rw [hp]
  show (true && (true && decide (args.length + 0 + 0 < 30))) = true
  rw [decide_eq_true (by lia)]; rfl
 rw [arm_eval_Call, hb]
 refine Wb (au h fun ov s₁ h₁ => Wb (wpAny_standAt ?_))
 have hpos : methodCallPos true o env apos pos = pure pos := by unfold methodCallPos; simp [hl]
 unfold methodCall calleeOf
 rw [hform]
 refine Wb (B3' ?_)
 rw [if_pos rfl]
 exact au h₁ fun p s₂ h₂ => Wb (wpAny_of_eq hpos (bT hp h₂))
theorem pA {o : Expr} {m : Str} {apos pos : Pos} {args : List Expr} {vs : List V} {Q : Ee} (hb : attributeBase o m env (eval o env) = eval o env) (hl : (apos.endLine == pos.line) = true) (hf : args.length < 20) (ev : Evs D n ea args vs)
  (h : wpAny (model D.prog D.w) A (eval o env) (fun ov s₁ => wpAny (model D.prog D.w) A (getMethod ov m (do return (← importBound o env).getD true)) (fun p s₂ => wpAny (model D.prog D.w) A (spliced (backTo pos (starEach args env))) (fun us s₃ => fF p.1 s₃ ∧ wpAny (model D.prog D.w) A (call p.1 (p.2 ++ us)) Q E s₃) E s₂) E s₁) E s) :
  wpAny (model D.prog D.w) A (eval (.Call (.Attribute o m apos) args [] pos) env) Q E s := wD hb hl hf (ev.no pos env) h
theorem ct {f : Str} {p pos : Pos} {a : Expr} {as : List Expr} {vs : List V} {x : V} (q1 : lk ea.names f = some .globalImplicit) (q2 : sq f "__debug__" = false) {fv : Value} (q3 : D.gl f = some fv) (ev : Evs D n ea (a :: as) vs) (hc : rD D n f vs x) : Ev D n ea (.Call (.Name f p) (a :: as) [] pos) x :=
 .mk' ⟨fun z z => rfl, fun z z => rfl, fun z => rfl, fun z z z z z => rfl, fun z z z => rfl⟩ (fun z z z z => rfl) (fun z z => rfl) fun {_ _ _ env _ _ E} hA R => by
  rw [arm_eval_Call_Name']
  refine Wb (wpAny_Name ?_ (by simpa using aJ q2))
  unfold loadName
  simp only [Env.blockKind, R.fn, bt R q1, ScopeKind.isAnnotationScope, Bool.false_and, Bool.false_eq_true, if_false]
  refine D.glob R.st R.glb R.blt q3 (bT (ev.no pos env) (au (ev.ev pos hA R) fun us s₁ g => ?_))
  have R₁ := R.keeps g.2.1 g.1
  obtain ⟨c1, c2⟩ := hc (E := E) hA R₁.st R₁.dom R₁.mb R₁.bs q3 g.2.2
  exact ⟨c1, cz.after g.2.1 g.1 c2⟩
theorem br {o : Expr} {m : Str} {apos pos : Pos} {args : List Expr} {v : V} {vs : List V} {x : V} (ho : Ev D n ea o v) (hl : (apos.endLine == pos.line) = true) (hf : args.length < 20) (ev : Evs D n ea args vs) (hc : nk D n m v vs x) : Ev D n ea (.Call (.Attribute o m apos) args [] pos) x :=
 .mk' ⟨fun z z => rfl, fun z z => rfl, fun z => rfl, fun z z z z z => rfl, fun z z z => rfl⟩ (fun z z z z => rfl) (fun z z => rfl) fun hA R => by
  obtain ⟨Tn, id, pa, slot, hty, hv, hcall⟩ := hc
  refine pA (ho.pl.base _ _ _) hl hf ev (au (ho.ev hA R) fun ov s₁ g => ?_)
  have R₁ := R.keeps g.2.1 g.1
  refine getMethod_builtin (hv g.2.2).1 pa slot hty (hv g.2.2).2 (au (ev.ev pos hA R₁) fun us s₃ g₃ => ?_)
  exact ⟨.inl (fun a e => nomatch e), cz.after (Kp.trans' g.2.1 g₃.2.1) (A1' g.1 g₃.1) (hcall hA (R₁.keeps g₃.2.1 g₃.1).dom (g.2.2.keeps fun b o e => Kp.get g₃.2.1 e) g₃.2.2)⟩
theorem bx {y : Str} {yp : Pos} {m : Str} {apos pos : Pos} {args : List Expr} {mv : MV} {vs : List V} {x : V} (q2 : sq y "__debug__" = false) (e : lk ea.mo y = some mv) (hl : (apos.endLine == pos.line) = true) (hf : args.length < 20) (ev : Evs D n ea args vs) (hc : qM D n m mv vs x) : Ev D n ea (.Call (.Attribute (.Name y yp) m apos) args [] pos) x :=
 .mk' ⟨fun z z => rfl, fun z z => rfl, fun z => rfl, fun z z z z z => rfl, fun z z z => rfl⟩ (fun z z z z => rfl) (fun z z => rfl) fun {_ _ _ _ _ _ E} hA R => by
  refine pA rfl hl hf ev (wpAny_Name (au (bJ R e) fun ov s₁ h₁ => ?_) (by simpa using aJ q2))
  obtain ⟨rfl, a, l, rfl, _, hF, _, mobj, _⟩ := h₁
  refine au (hc (E := E) hA R.st R.dom R.mb R.bs (R.fm _ hF) mobj) fun p s₂ h₂ => ?_
  obtain ⟨hz, k, fin⟩ := h₂
  refine au (ev.ev pos hA (R.keeps k hz)) fun us s₃ g => ?_
  obtain ⟨c1, c2⟩ := fin s₃ us E g.2.1 g.1 g.2.2
  exact ⟨c1, cz.after (Kp.trans' k g.2.1) (A1' hz g.1) c2⟩
structure FxE (D : Std) (n : Nat) (ea : ao) (e : Expr) (ea' : ao) (v : V) : Prop where
 swN : gG e
 swT : ∀ es k p line env, swapsWithSole [.Tuple es k p] e line env = pure false ∧ swappedStores [.Tuple es k p] e env = pure none
 swE : ∀ line env, swapsWith e none line env = pure false
 ev : ∀ {M F W : Ap} {env : Env} {s : Shared} {A : Around} {E : Ee}, bb n A → Rel D M F W env ea s →
  wpAny (model D.prog D.w) A (eval e env) (fun u s' => s.heap.objs.size ≤ s'.heap.objs.size ∧ aq W s s' ∧ Rel D M F W env ea' s' ∧ VR D.prog D.w M s'.heap u v) E s
set_option tactic.hygienic true in
theorem Rel.mutate (R : Rel D M F W env ea s) {x : Str} {mv mv' : MV} {a l : Addr} (hx : Holds ea env s.heap x a) (hlL : l ≠ env.locals) (hF : F l) (hw : wh ea.mw W l) (r : cj D M s.heap a l mv) (k : aq (fun b => b = l) s s') (hsz : s.heap.objs.size ≤ s'.heap.objs.size) (r' : cj D M s'.heap a l mv') :
  Rel D M F W env { ea with mo := [(x, mv')] } s' := by
 obtain ⟨h', t, rfl, kk⟩ := k
 have kM : ∀ b o, ¬ M b → s.heap.get? b = some o → h'.get? b = some o := fun b o q e => kk b o (fun x => q (x ▸ R.fm _ hF)) e
 have kc : ∀ {c u}, s.heap.IsCell c u → h'.IsCell c u := fun ic => IsCell.at' ic fun o => kk _ _ (r.notCell ic).symm
 refine { R with st := ?_, cex := ?_, loc := ?_, cel := ?_, dom := R.dom.size hsz, bs := A1' R.bs hsz, tw := fun hh => ⟨(R.tw hh).1, D.tabK (fun o => kk _ o (r.notFields (D.tabF (R.tw hh).2))) kM (fun z q => .inl q) (R.tw hh).2⟩ }
 ·exact fun y e => let ⟨c, u, e1, ic, e2⟩ := R.cex y e; ⟨c, u, e1, kc ic, e2⟩
 ·obtain ⟨m, hm, hl, hu⟩ := R.loc
  have hm' : h'.Ns env.locals m := hm.at' fun o => kk _ _ hlL.symm
  refine ⟨m, hm', fun y v e => let ⟨vv, e1, r⟩ := hl y v e; ⟨vv, e1, r.mono kM fun z q => .inl q⟩, fun y mv₂ e => ?_⟩
  have e : lk [(x, mv')] y = some mv₂ := e
  unfold lk at e
  split at e
  ·rename_i hq
   cases e
   have := aN.mp hq
   subst this
   refine ⟨a, l, hlL, hF, hw, r', ?_⟩
   rcases hx with ⟨q1, m', q2, q3⟩ | ⟨q1, c, q2, q3⟩
   ·refine .inl ⟨q1, ?_⟩
    obtain ⟨o, es, ep, e1, d1, _, k1⟩ := q2
    obtain ⟨o', es', ep', e2, d2, _, k2⟩ := hm
    rw [e1] at e2; cases e2; rw [d1] at d2; cases d2
    rw [← k2, k1]; exact q3
   ·exact .inr ⟨q1, c, q2, kc q3⟩
  ·cases e
 ·exact fun y v e => let ⟨c, vv, e1, ic, rv⟩ := R.cel y v e; ⟨c, vv, e1, kc ic, rv.mono kM fun z q => .inl q⟩
 ·exact D.stb _ _ (fun b o hb ht e => kk b o (fun q => (R.mb _ (R.fm _ hF)).elim (fun h1 => A7' _ (A2' (q ▸ hb) h1)) fun h1 => ht (q.trans h1)) e) R.st
theorem dU {y : Str} {yp : Pos} {m : Str} {apos pos : Pos} {args : List Expr} {mv mv' : MV} {vs : List V} {x : V} (hmw : ea.mw = true) (q2 : sq y "__debug__" = false) (e : lk ea.mo y = some mv) (hl : (apos.endLine == pos.line) = true) (hf : args.length < 20) (ev : Evs D n ea args vs) (hc : rB D n m mv vs mv' x) :
  FxE D n ea (.Call (.Attribute (.Name y yp) m apos) args [] pos) { ea with mo := [(y, mv')] } x :=
 ⟨fun z z z z => rfl, fun z z z z z => ⟨rfl, rfl⟩, fun z z => rfl, fun {_ _ _ _ _ _ E} hA R => by
  refine pA rfl hl hf ev (wpAny_Name (au (bJ R e) fun ov s₁ h₁ => ?_) (by simpa using aJ q2))
  obtain ⟨rfl, a, l, rfl, ne, hF, hw, mobj, hh⟩ := h₁
  refine au (hc (E := E) hA R.st R.dom R.mb R.bs (R.fm _ hF) mobj) fun p s₂ h₂ => ?_
  obtain ⟨hz, k, fin⟩ := h₂
  have R₂ := R.keeps k hz
  refine au (ev.ev pos hA R₂) fun us s₃ g => ?_
  obtain ⟨c1, c2⟩ := fin s₃ us E g.2.1 g.1 g.2.2
  refine ⟨c1, au (bh c2) fun u s₄ g₄ => ?_⟩
  have k03 := Kp.trans' k g.2.1
  exact ⟨A1' (A1' hz g.1) g₄.1, (Kp.toW k03).trans (g₄.2.1.sub fun b hb => hb ▸ hw.1 hmw),
   (R₂.keeps g.2.1 g.1).mutate (hh.keeps k03) ne hF hw (mobj.keep (X := fun z => False) (fun b q => q.elim) (fun q => q) (Kp.toW k03)) g₄.2.1 g₄.1 g₄.2.2.1, g₄.2.2.2⟩⟩
end
end
section
noncomputable def e7 : List (Str × NameKind) → Bool
 | [] => true
 | (x, _) :: r => match lk r x with
  | some _ => false
  | none => e7 r
theorem kr {α : Type} {l : List (Str × α)} {x : Str} {k : α} (h : (x, k) ∈ l) : lk l x ≠ none := by
 induction l with
 | nil => cases h
 | cons p r ih =>
  show cond (sq x p.1) (some p.2) (lk r x) ≠ none
  rcases C2' h with rfl | h
  ·rw [bi]; exact fun e => nomatch e
  ·cases sq x p.1 with
   | true => exact fun e => nomatch e
   | false => exact ih h
theorem bq {l : List (Str × NameKind)} {x : Str} {k : NameKind} (hn : e7 l = true) (h : (x, k) ∈ l) : lk l x = some k := by
 induction l with
 | nil => cases h
 | cons p r ih =>
  have hn : (match lk r p.1 with | some _ => false | none => e7 r) = true := hn
  show cond (sq x p.1) (some p.2) (lk r x) = some k
  cases h0 : lk r p.1 with
  | some _ => rw [h0] at hn; cases hn
  | none =>
   rw [h0] at hn
   rcases C2' h with rfl | h2
   ·rw [bi]; rfl
   ·rw [dE fun e => kr h2 (by rw [e]; exact h0)]; exact ih hn h2
theorem fY {α : Type} : ∀ {l : List (Str × α)} {x : Str} {k : α}, lk l x = some k → (x, k) ∈ l := fun h => by rw [ig] at h; exact mem_of_lookup h
theorem bK : ∀ (names : List (Str × NameKind)) (k : Nat) (acc : List (Str × Addr)), cellsFrom k names acc = cellsFrom k names [] ++ acc
 | [], _, _ => rfl
 | (n, kd) :: r, k, acc => by
  unfold cellsFrom
  split
  ·rw [bK r (k + 1) ((n, k) :: acc), bK r (k + 1) [(n, k)], List.append_assoc]; rfl
  ·exact bK r k acc
set_option tactic.hygienic true in
theorem cy : ∀ {names : List (Str × NameKind)} {k : Nat} {x : Str} {c : Addr}, (x, c) ∈ cellsFrom k names [] → (x, NameKind.cell) ∈ names
 | [], _, _, _, h => by unfold cellsFrom at h; cases h
 | (n, kd) :: r, k, x, c, h => by
  unfold cellsFrom at h
  split at h
  ·rename_i hk
   rw [bK] at h
   rcases C3' h with h | h
   ·exact B5' _ (cy h)
   ·rcases C2' h with e | h
    ·cases e
     have : kd = .cell := by simpa using hk
     subst this
     exact List.mem_cons_self ..
    ·cases h
  ·exact B5' _ (cy h)
set_option tactic.hygienic true in
theorem em : ∀ {names : List (Str × NameKind)} {k : Nat} {x : Str} {acc : List (Str × Addr)}, ((x, NameKind.cell) ∈ names ∨ ∃ c, acc.lookup x = some c) → ∃ c, (cellsFrom k names acc).lookup x = some c
 | [], _, _, _, h => by
  rcases h with h | h
  ·cases h
  ·exact h
 | (n, kd) :: r, k, x, acc, h => by
  unfold cellsFrom
  split
  ·refine em ?_
   rcases h with h | ⟨c, h⟩
   ·rcases C2' h with e | h
    ·cases e; exact .inr ⟨k, by simp⟩
    ·exact .inl h
   ·right
    rw [List.lookup_cons]
    cases x == n with
    | true => exact ⟨k, rfl⟩
    | false => exact ⟨c, h⟩
  ·rename_i hk
   refine em ?_
   rcases h with h | h
   ·rcases C2' h with e | h
    ·cases e; exact absurd rfl hk
    ·exact .inl h
   ·exact .inr h
theorem b7 {α : Type} (l m : List (Str × α)) (x : Str) : (l ++ m).lookup x = match l.lookup x with | some c => some c | none => m.lookup x := by
 induction l with
 | nil => rfl
 | cons p r ih =>
  obtain ⟨k, v⟩ := p
  rw [List.cons_append, List.lookup_cons, List.lookup_cons]
  cases x == k with
  | true => rfl
  | false => exact ih
section
variable {D : Std} {n : Nat} {M F W : Ap} {env : Env} {ea ea' : ao} {s s' : Shared} {A : Around} {E : Ee}
theorem bW {env : Env} (f : Str × NameKind → List (Str × Addr) → Sem (ForInStep (List (Str × Addr))))
  (hf : ∀ name kind cs, f (name, kind) cs = if kind == .free then (do let a ← cellOf env name; pure (.yield ((name, a) :: cs))) else pure (.yield cs)) :
  ∀ (names : List (Str × NameKind)) (acc : List (Str × Addr)), (∀ x, (x, NameKind.free) ∈ names → ∃ a, env.cells.lookup x = some a) →
   ∃ cl, forIn names acc f = (pure cl : Sem (List (Str × Addr))) ∧ (∀ x a, cl.lookup x = some a → acc.lookup x = some a ∨ ((x, NameKind.free) ∈ names ∧ env.cells.lookup x = some a)) ∧
    (∀ x, (x, NameKind.free) ∈ names ∨ (∃ a, acc.lookup x = some a) → ∃ a, cl.lookup x = some a)
 | [], acc, _ => ⟨acc, by rw [List.forIn_nil], fun x a h => .inl h, fun x h => by rcases h with h | h; cases h; exact h⟩
 | (name, kind) :: r, acc, hfree => by
  rw [List.forIn_cons, hf]
  by_cases hk : kind = .free
  ·subst hk
   obtain ⟨a, ha⟩ := hfree name (List.mem_cons_self ..)
   have hc : cellOf env name = (pure a : Sem Addr) := by unfold cellOf; rw [ha]
   rw [if_pos (by decide), hc]
   obtain ⟨cl, e, h1, h2⟩ := bW f hf r ((name, a) :: acc) (fun x h => hfree x (B5' _ h))
   refine ⟨cl, e, fun x b h => ?_, fun x h => h2 x ?_⟩
   ·rcases h1 x b h with h | ⟨h, h'⟩
    ·rw [List.lookup_cons] at h
     cases hx : x == name with
     | true =>
      rw [hx] at h; cases h
      have := beq_iff_eq.mp hx
      subst this
      exact .inr ⟨List.mem_cons_self .., ha⟩
     | false => rw [hx] at h; exact .inl h
    ·exact .inr ⟨B5' _ h, h'⟩
   ·rcases h with h | ⟨b, h⟩
    ·rcases C2' h with e | h
     ·cases e; exact .inr ⟨a, by simp⟩
     ·exact .inl h
    ·right
     rw [List.lookup_cons]
     cases x == name with
     | true => exact ⟨a, rfl⟩
     | false => exact ⟨b, h⟩
  ·have hb : (kind == NameKind.free) = false := by simpa using hk
   rw [if_neg (by rw [hb]; decide)]
   obtain ⟨cl, e, h1, h2⟩ := bW f hf r acc (fun x h => hfree x (B5' _ h))
   refine ⟨cl, e, fun x b h => ?_, fun x h => h2 x ?_⟩
   ·rcases h1 x b h with h | ⟨h, h'⟩
    ·exact .inl h
    ·exact .inr ⟨B5' _ h, h'⟩
   ·rcases h with h | h
    ·rcases C2' h with e | h
     ·cases e; exact absurd rfl hk
     ·exact .inl h
    ·exact .inr h
theorem b6 (scope : Scope) (h : ∀ x, (x, NameKind.free) ∈ scope.names → ∃ a, env.cells.lookup x = some a) :
  ∃ cl, closureFor scope env = (pure cl : Sem (List (Str × Addr))) ∧ (∀ x a, cl.lookup x = some a → (x, NameKind.free) ∈ scope.names ∧ env.cells.lookup x = some a) ∧ (∀ x, (x, NameKind.free) ∈ scope.names → ∃ a, cl.lookup x = some a) := by
 obtain ⟨cl, e, h1, h2⟩ := bW (env := env) (fun x cs => if x.2 == .free then (do let a ← cellOf env x.1; pure (.yield ((x.1, a) :: cs))) else pure (.yield cs)) (fun z z z => rfl) scope.names [] h
 refine ⟨cl, ?_, fun x a q => ?_, fun x q => h2 x (.inl q)⟩
 ·simp only [closureFor]
  exact (congrArg (fun t : Sem (List (Str × Addr)) => t >>= fun cs => pure cs) e).trans rfl
 ·rcases h1 x a q with q | q
  ·cases q
  ·exact q
theorem kl {scope : Scope} {globals : Addr} {cl : List (Str × Addr)} {qual : Str} {Q : Env → Shared → Prop}
  (h : Q (newEnv scope s.heap.objs.size globals (cellsFrom (s.heap.objs.size + 1) scope.names cl) qual none .none (some env) builtinsNs) { s with heap := pushCells (s.heap.push { cls := .type "dict", data := .dict #[] }) scope.names }) :
  wpAny (model D.prog D.w) A (newFunctionEnv scope globals cl [] qual none .none (some env)) Q E s := by
 simp only [newFunctionEnv, Option.isSome_some, if_true]
 refine Wb (wpAny_alloc ?_)
 refine Wb (wpAny_layCells _ (fun name kind cells => by cases hkc : kind == NameKind.cell <;> simp [hkc]) _ _ _ _ ?_)
 rw [show ({ s with heap := s.heap.push { cls := .type "dict", data := .dict #[] } } : Shared).heap.objs.size = s.heap.objs.size + 1 from Heap.size_push ..]
 exact Wb (Wq (Wq h))
end
noncomputable def b9 (ea : ao) (x : Str) : NameKind → NameKind
 | .free => match lk ea.names x with
  | some .cell => .cell
  | _ => .free
 | k => k
noncomputable def bB (ea : ao) : List (Str × NameKind) → List (Str × NameKind)
 | [] => []
 | (x, k) :: r => (x, b9 ea x k) :: bB ea r
noncomputable def xR : ScopeKind → Bool
 | .function => true
 | _ => false
noncomputable def jf (ea : ao) : List (Str × NameKind) → Bool
 | [] => true
 | (x, .free) :: r => match lk ea.names x with
  | some .cell => jf ea r
  | _ => false
 | _ :: r => jf ea r
noncomputable def cX (ea : ao) (scope : Scope) : Bool := xR scope.kind && (e7 scope.names && jf ea scope.names)
noncomputable def qE {α : Type} (l : List (Str × α)) : List (Str × NameKind) → List (Str × α)
 | [] => []
 | (x, .free) :: r => match lk l x with
  | some v => (x, v) :: qE l r
  | none => qE l r
 | _ :: r => qE l r
noncomputable def wo : List (Str × NameKind) → List Str
 | [] => []
 | (x, .cell) :: r => x :: wo r
 | _ :: r => wo r
noncomputable def cenvOf (ea : ao) (scope : Scope) : ao := { names := bB ea scope.names, loc := [], cel := qE ea.cel scope.names, mo := qE ea.mo scope.names, cw := wo scope.names, mw := false, tw := false }
theorem cn (ea : ao) (x : Str) : ∀ l : List (Str × NameKind), lk (bB ea l) x = (lk l x).map (b9 ea x)
 | [] => rfl
 | (y, k) :: r => by
  unfold bB lk
  by_cases h : x = y
  ·subst h; rw [bi]; rfl
  ·rw [dE h]; exact cn ea x r
set_option tactic.hygienic true in
theorem fw {α : Type} (l : List (Str × α)) {x : Str} {v : α} : ∀ {ns : List (Str × NameKind)}, lk (qE l ns) x = some v → (x, NameKind.free) ∈ ns ∧ lk l x = some v
 | [], h => by unfold qE lk at h; cases h
 | (y, k) :: r, h => by
  have step : lk (qE l r) x = some v → (x, NameKind.free) ∈ (y, k) :: r ∧ lk l x = some v := fun h => ⟨B5' _ (fw l h).1, (fw l h).2⟩
  cases k <;> first | (exact step h) | skip
  unfold qE at h
  split at h
  ·rename_i u hu
   unfold lk at h
   by_cases hx : x = y
   ·subst hx
    rw [bi] at h
    cases h
    exact ⟨List.mem_cons_self .., hu⟩
   ·rw [dE hx] at h
    exact step h
  ·exact step h
set_option tactic.hygienic true in
theorem n7 {x : Str} : ∀ {l : List Str}, has x l = true → x ∈ l
 | y :: r, h => by
  unfold has at h
  split at h
  ·rename_i hq; rw [aN.mp hq]; exact List.mem_cons_self ..
  ·exact B5' _ (n7 h)
theorem iK {x : Str} : ∀ {ns : List (Str × NameKind)}, x ∈ wo ns → (x, NameKind.cell) ∈ ns
 | (y, k) :: r, h => by
  cases k <;> first
   | (rcases C2' h with e | h
      ·subst e; exact List.mem_cons_self ..
      ·exact B5' _ (iK h))
   | exact B5' _ (iK h)
set_option tactic.hygienic true in
theorem bI {ea : ao} {x : Str} : ∀ {ns : List (Str × NameKind)}, jf ea ns = true → (x, NameKind.free) ∈ ns → lk ea.names x = some .cell
 | (y, k) :: r, h, hm => by
  cases k <;> first
   | (rcases C2' hm with e | hm
      ·cases e
      ·exact bI (ns := r) h hm)
   | skip
  unfold jf at h
  split at h
  ·rename_i hq
   rcases C2' hm with e | hm
   ·cases e; exact hq
   ·exact bI h hm
  ·cases h
section
variable {D : Std} {n : Nat} {M M' F W : Ap} {env : Env} {ea ea' : ao} {s s' : Shared} {A : Around} {E : Ee}
theorem ip (R : Rel D M F W env ea s) (scope : Scope) : (relabel scope env).names = bB ea scope.names := by
 unfold relabel
 dsimp only
 induction scope.names with
 | nil => rfl
 | cons p r ih =>
  obtain ⟨x, k⟩ := p
  rw [List.map_cons, ih]
  show _ = (x, b9 ea x k) :: bB ea r
  congr 1
  have hk : env.kindOf x = lk ea.names x := by unfold Env.kindOf; rw [R.nm, ig]
  dsimp only
  rw [hk, R.fn]
  cases k <;> first | rfl | skip
  unfold b9
  cases lk ea.names x with
  | none => rfl
  | some q => cases q <;> rfl
theorem ie (R : Rel D M F W env ea s) {s₃ : Shared} (k : Keeps s s₃) (hsz : s.heap.objs.size ≤ s₃.heap.objs.size) {scope : Scope} (hc : cX ea scope = true) {cl : List (Str × Addr)}
  (h1 : ∀ x a, cl.lookup x = some a → (x, NameKind.free) ∈ scope.names ∧ env.cells.lookup x = some a) (h2 : ∀ x, (x, NameKind.free) ∈ scope.names → ∃ a, cl.lookup x = some a) {qual : Str} :
  Keeps s₃ { s₃ with heap := pushCells (s₃.heap.push { cls := .type "dict", data := .dict #[] }) scope.names } ∧
  s₃.heap.objs.size < (pushCells (s₃.heap.push { cls := .type "dict", data := .dict #[] }) scope.names).objs.size ∧
  (pushCells (s₃.heap.push { cls := .type "dict", data := .dict #[] }) scope.names).Ns s₃.heap.objs.size (fun z => none) ∧
  Rel D (fun b => M b ∨ (s.heap.objs.size ≤ b ∧ b < (pushCells (s₃.heap.push { cls := .type "dict", data := .dict #[] }) scope.names).objs.size))
   (fun b => F b ∨ (s₃.heap.objs.size ≤ b ∧ b < (pushCells (s₃.heap.push { cls := .type "dict", data := .dict #[] }) scope.names).objs.size))
   (fun b => s₃.heap.objs.size ≤ b ∧ b < (pushCells (s₃.heap.push { cls := .type "dict", data := .dict #[] }) scope.names).objs.size)
   { newEnv scope s₃.heap.objs.size env.globals (cellsFrom (s₃.heap.objs.size + 1) scope.names cl) qual none .none (some env) builtinsNs with scope := relabel scope env } (cenvOf ea scope)
   { s₃ with heap := pushCells (s₃.heap.push { cls := .type "dict", data := .dict #[] }) scope.names } := by
 generalize hH : pushCells (s₃.heap.push { cls := .type "dict", data := .dict #[] }) scope.names = H
 obtain ⟨hk1, hk2⟩ := C4' hc
 obtain ⟨hnd, hfo⟩ := C4' hk2
 have hkind : scope.kind = .function := by unfold xR at hk1; split at hk1; assumption; cases hk1
 have kk : ∀ b o, s₃.heap.get? b = some o → H.get? b = some o := fun b o e => hH ▸ pushCells_keeps _ _ b o (A3' _ e)
 have kp : Keeps s₃ { s₃ with heap := H } := ⟨H, s₃.toks, rfl, kk⟩
 have hns : H.Ns s₃.heap.objs.size fun z => none := hH ▸ (Heap.Ns.new s₃.heap (.type "dict")).keeps (pushCells_keeps _ _)
 have hlt : s₃.heap.objs.size < H.objs.size := by obtain ⟨o, es, ep, e, _⟩ := hns; exact A5' e
 have ok := cellsFrom_ok scope.names (s₃.heap.push { cls := .type "dict", data := .dict #[] }) (s₃.heap.objs.size + 1) [] ⟨fun z z hm => (nomatch hm), List.Pairwise.nil⟩ (by rw [Heap.size_push]; exact A6' _)
 rw [Heap.size_push, hH] at ok
 rw [bK]
 generalize hO : cellsFrom (s₃.heap.objs.size + 1) scope.names [] = own at ok
 have ownMem : ∀ {x c}, own.lookup x = some c → (x, NameKind.cell) ∈ scope.names := fun h => cy (hO ▸ mem_of_lookup h)
 have ownAt : ∀ {x c}, own.lookup x = some c → H.IsCell c none ∧ s₃.heap.objs.size + 1 ≤ c := fun h => ok.empty _ _ (mem_of_lookup h)
 have notOwn : ∀ {x}, (x, NameKind.free) ∈ scope.names → own.lookup x = none := fun {x} hm => by
  cases q : own.lookup x with
  | none => rfl
  | some c =>
   have e1 := bq hnd (ownMem q)
   have e2 := bq hnd hm
   rw [e1] at e2; cases e2
 have clAt : ∀ {x a}, (own ++ cl).lookup x = some a → own.lookup x = some a ∨ cl.lookup x = some a := fun {x a} h => by
  rw [b7] at h
  cases q : own.lookup x with
  | none => rw [q] at h; exact .inr h
  | some c => rw [q] at h; exact .inl h
 have clOf : ∀ {x a}, (x, NameKind.free) ∈ scope.names → cl.lookup x = some a → (own ++ cl).lookup x = some a := fun hm h => by rw [b7, notOwn hm]; exact h
 have oldF : ∀ {a}, F a → a < s₃.heap.objs.size := fun hf => A2' (R.dom _ (R.fm _ hf)) hsz
 have R₄ : Rel D (fun b => M b ∨ (s.heap.objs.size ≤ b ∧ b < H.objs.size)) F W env ea { s₃ with heap := H } := by
  refine R.growX (X := fun z => False) (Kp.toW (Kp.trans' k kp)) (fun b q => q.elim) (A1' hsz (Nat.le_of_lt hlt)) (fun b q => .inl q) ?_ ?_ ?_
  ·intro b q
   rcases q with q | q
   ·exact .inl q
   ·right
    cases e : s.heap.get? b with
    | none => rfl
    | some o => exact absurd (A5' e) (Nat.not_lt.mpr q.1)
  ·intro b q
   rcases q with q | q
   ·exact A2' (R.dom b q) (A1' hsz (Nat.le_of_lt hlt))
   ·exact q.2
  ·intro b q
   rcases q with q | q
   ·exact R.mb b q
   ·exact .inl (A1' R.bs q.1)
 refine ⟨kp, hlt, hns, ?_⟩
 exact {
  fn := by show scope.kind = _; exact hkind
  nm := ip R scope
  glb := R.glb
  blt := R.blt
  cap := fun x y a ex ey => by
   rcases clAt ex with ex | ex <;> rcases clAt ey with ey | ey
   ·exact name_of_addr ok.apart (mem_of_lookup ex) (mem_of_lookup ey)
   ·exact absurd (oldF (R.clF _ _ (h1 _ _ ey).2)) (Nat.not_lt.mpr (Nat.le_of_succ_le (ownAt ex).2))
   ·exact absurd (oldF (R.clF _ _ (h1 _ _ ex).2)) (Nat.not_lt.mpr (Nat.le_of_succ_le (ownAt ey).2))
   ·exact R.cap x y a (h1 _ _ ex).2 (h1 _ _ ey).2
  cex := fun x e => by
   have e : lk (bB ea scope.names) x = some .cell := e
   rw [cn] at e
   obtain ⟨k0, e1, e2⟩ := Option.map_eq_some_iff.mp e
   have hm := fY e1
   by_cases hcell : k0 = .cell
   ·subst hcell
    obtain ⟨c, hcl⟩ : ∃ c, own.lookup x = some c := hO ▸ em (.inl hm)
    refine ⟨c, none, by show (own ++ cl).lookup x = _; rw [b7, hcl], (ownAt hcl).1, fun z => ⟨Nat.le_of_succ_le (ownAt hcl).2, (ownAt hcl).1.lt⟩⟩
   ·have hfree : k0 = .free := by
     cases k0 <;> first | rfl | exact absurd rfl hcell | (unfold b9 at e2; exact absurd e2 (fun h => by cases h))
    subst hfree
    obtain ⟨a, ha⟩ := h2 x hm
    obtain ⟨a', u, e3, c, _⟩ := R₄.cex x (bI hfo hm)
    have := (h1 _ _ ha).2
    rw [this] at e3; cases e3
    refine ⟨a, u, clOf hm ha, c, fun hh => ?_⟩
    have e4 := bq hnd (iK (n7 hh))
    have e5 := bq hnd hm
    rw [e4] at e5; cases e5
  loc := by
   refine ⟨fun z => none, hns, fun x v e => (nomatch e), fun x mv e => ?_⟩
   obtain ⟨hm, e'⟩ := fw _ e
   obtain ⟨m, _, _, hu⟩ := R₄.loc
   obtain ⟨a, l, ne, hl, hw, r, q⟩ := hu x mv e'
   refine ⟨a, l, A8' (oldF hl), .inl hl, ⟨fun h => (nomatch h), fun z q => A7' _ (A2' (oldF hl) q.1)⟩, r, ?_⟩
   have hcell := bI hfo hm
   rcases q with q | ⟨_, c, q2, q3⟩
   ·rw [hcell] at q; cases q.1
   ·refine .inr ⟨.inl ?_, c, ?_, q3⟩
    ·show lk (bB ea scope.names) x = _
     rw [cn, bq hnd hm]
     show some (b9 ea x .free) = _
     unfold b9; rw [hcell]
    ·obtain ⟨a', ha⟩ := h2 x hm
     have := (h1 _ _ ha).2
     rw [q2] at this; cases this
     exact clOf hm ha
  cel := fun x v e => by
   obtain ⟨hm, e'⟩ := fw _ e
   obtain ⟨a, vv, q2, c, r⟩ := R₄.cel x v e'
   refine ⟨a, vv, ?_, c, r⟩
   obtain ⟨a', ha⟩ := h2 x hm
   have := (h1 _ _ ha).2
   rw [q2] at this; cases this
   exact clOf hm ha
  clF := fun x a e => by
   rcases clAt e with e | e
   ·exact .inr ⟨Nat.le_of_succ_le (ownAt e).2, (ownAt e).1.lt⟩
   ·exact .inl (R.clF _ _ (h1 _ _ e).2)
  st := R₄.st
  dom := R₄.dom
  bs := R₄.bs
  wf := fun b q => .inr q
  fm := fun b q => by
   rcases q with q | q
   ·exact .inl (R.fm b q)
   ·exact .inr ⟨A1' hsz q.1, q.2⟩
  mb := R₄.mb
  ml := ⟨A6' _, hlt⟩
  tw := fun h => (nomatch h) }
end
end
section
section
variable (D : Std) (M W : Ap)
structure ItK (A : Around) (target : Expr) (h₀ : Heap) (I : Addr) (s₁ : Shared) (xs : List V) (fp wr : List Addr) (P Md : Nat → Value → Heap → Prop) (St : Nat → Heap → Prop) : Prop where
 T : KTurns D.prog D.w A target I fp wr xs.length P Md St
 fpI : ∀ b ∈ fp, b ∈ wr ∨ ¬ W b
 fpS : ∀ b ∈ fp, b < s₁.heap.objs.size
 wrN : ∀ b ∈ wr, h₀.objs.size ≤ b
 st : St 0 s₁.heap
 self : ∀ (s : Shared) (Q : Ee) (E : Ee), St 0 s.heap → Q (.ref I) s → wpAny (model D.prog D.w) A (pyIter (.ref I)) Q E s
 item : ∀ (M₁ : Ap) i v h, P i v h → (∀ b, M₁ b → M b ∨ h₀.get? b = none) → (∀ b o, ¬ M b → h₀.get? b = some o → h.get? b = some o) → ∃ y, xs[i]? = some y ∧ qA D M₁ target h v y
inductive mq (A : Around) (target : Expr) (s : Shared) (xs : List V) (iv : Value) (s₂ : Shared) : Prop
 | mk (I : Addr) (fp wr : List Addr) (P Md : Nat → Value → Heap → Prop) (St : Nat → Heap → Prop) (s₁ : Shared) (hiv : iv = .ref I) (z1 : s.heap.objs.size ≤ s₁.heap.objs.size) (k1 : Keeps s s₁) (z2 : s₁.heap.objs.size ≤ s₂.heap.objs.size) (k2 : Keeps s₁ s₂) (T : ItK D M W A target s₁.heap I s₂ xs fp wr P Md St)
end
noncomputable def cb (D : Std) (n : Nat) (ea : ao) (ifs : List Expr) (b : Bool) : Prop := ∀ ⦃M F W : Ap⦄ ⦃env : Env⦄ ⦃s : Shared⦄ ⦃A : Around⦄ ⦃E : Ee⦄, bb n A → Rel D M F W env ea s →
 wpAny (model D.prog D.w) A (forIn ifs true fun c r => if r = true then do let ok ← isTrue c env (eval c env); pure (ForInStep.yield ok) else pure (ForInStep.yield r)) (rQ s b) E s
noncomputable def FxT (tk : Nat) (D : Std) (n : Nat) (ea : ao) (e : Expr) (ea' : ao) (v : V) : Prop := ∀ {M F W : Ap} {env : Env} {s : Shared} {A : Around} {E : Ee}, bb n A → Rel D M F W env ea s → tk ≤ s.toks →
 wpAny (model D.prog D.w) A (eval e env) (fun u s' => s.heap.objs.size ≤ s'.heap.objs.size ∧ aq W s s' ∧ Rel D M F W env ea' s' ∧ VR D.prog D.w M s'.heap u v) E s
theorem Ev.fxT {D : Std} {n : Nat} {ea : ao} {e : Expr} {v : V} {tk : Nat} (h : Ev D n ea e v) : FxT tk D n ea e ea v := fun hA R z => au (h.ev hA R) fun z z g => ⟨g.1, Kp.toW g.2.1, R.keeps g.2.1 g.1, g.2.2⟩
theorem FxE.fxT {D : Std} {n : Nat} {ea ea' : ao} {e : Expr} {v : V} {tk : Nat} (h : FxE D n ea e ea' v) : FxT tk D n ea e ea' v := fun hA R z => h.ev hA R
inductive er (tk : Nat) (D : Std) (n : Nat) (elt target : Expr) (ifs : List Expr) : ao → List V → List V → ao → Prop
 | nil {ea} : er tk D n elt target ifs ea [] [] ea
 | skip {ea e1 e3 x xs ys} : bw D ea target x e1 → cb D n e1 ifs false → er tk D n elt target ifs e1 xs ys e3 → er tk D n elt target ifs ea (x :: xs) ys e3
 | take {ea e1 e2 e3 x xs v ys} : bw D ea target x e1 → cb D n e1 ifs true → FxT tk D n e1 elt e2 v → er tk D n elt target ifs e2 xs ys e3 → er tk D n elt target ifs ea (x :: xs) (v :: ys) e3
theorem er.len {tk : Nat} {D : Std} {n : Nat} {elt target : Expr} {ifs : List Expr} {ea e3 : ao} {xs ys : List V} (h : er tk D n elt target ifs ea xs ys e3) : ys.length ≤ xs.length := by
 induction h with
 | nil => exact A6' _
 | skip _ _ _ ih => exact B6' ih
 | take _ _ _ _ ih => exact Nat.succ_le_succ ih
noncomputable def cT (D : Std) (n : Nat) (elt target : Expr) (ifs : List Expr) (ea : ao) (xs ys : List V) : Prop := ∃ e3, er 0 D n elt target ifs ea xs ys e3
section
variable {D : Std} {n : Nat} {elt target : Expr} {ifs : List Expr} {ea e1 : ao} {x v : V} {xs ys : List V}
theorem cT.nil : cT D n elt target ifs ea [] [] := ⟨_, .nil⟩
theorem cT.skip (a : bw D ea target x e1) (b : cb D n e1 ifs false) (h : cT D n elt target ifs e1 xs ys) : cT D n elt target ifs ea (x :: xs) ys := h.imp fun z h => .skip a b h
theorem cT.take (a : bw D ea target x e1) (b : cb D n e1 ifs true) (c : Ev D n e1 elt v) (h : cT D n elt target ifs e1 xs ys) : cT D n elt target ifs ea (x :: xs) (v :: ys) := h.imp fun z h => .take a b c.fxT h
end
noncomputable def bL : Lv → Str → V → Lv
 | [], k, v => [(k, v)]
 | (x, u) :: r, k, v => match sq k x with
  | true => (x, v) :: r
  | false => (x, u) :: bL r k v
set_option tactic.hygienic true in
theorem eN {kvs : Lw} (hn : (kvs.map (·.1)).Nodup) {k : Str} {v : Value} : ∀ {xs : Lv} {M : Ap} {prog : Program} {w : World} {h : Heap} {x : V}, VRd prog w M h kvs xs → VR prog w M h v x → VRd prog w M h (stored kvs k v) (bL xs k x) := by
 intro xs M prog w h x r rv
 have key : ∀ {kvs : Lw} {xs : Lv}, (kvs.map (·.1)).Nodup → VRd prog w M h kvs xs →
   (kvs.any (fun kv => decide (kv.1 = k)) = true → VRd prog w M h (kvs.map fun kv => if kv.1 = k then (kv.1, v) else kv) (bL xs k x)) ∧ (kvs.any (fun kv => decide (kv.1 = k)) = false → VRd prog w M h (kvs ++ [(k, v)]) (bL xs k x)) := by
  intro kvs
  induction kvs with
  | nil => intro xs hn r; cases r; exact ⟨fun h => (nomatch h), fun z => .cons rv .nil⟩
  | cons p vs ih =>
   intro xs hn r
   cases r with | cons a r =>
   rename_i k0 v0 x0 xs
   rw [List.map_cons, List.nodup_cons] at hn
   obtain ⟨i1, i2⟩ := ih hn.2 r
   unfold bL
   by_cases hk : k = k0
   ·subst hk
    rw [bi]
    constructor
    ·intro _
     rw [List.map_cons, if_pos rfl]
     refine .cons rv ?_
     have hne : vs.map (fun kv => if kv.1 = k then (kv.1, v) else kv) = vs := by
      refine map_eq_self fun kv hkv => ?_
      rw [if_neg]
      intro e
      have h5 : kv.1 ∈ vs.map (·.1) := List.mem_map_of_mem hkv
      rw [e] at h5
      exact hn.1 h5
     rw [hne]; exact r
    ·intro h; simp at h
   ·rw [dE hk]
    have hk' : ¬ k0 = k := fun e => hk e.symm
    constructor
    ·intro h
     rw [List.map_cons, if_neg hk']
     refine .cons a (i1 ?_)
     simpa [hk'] using h
    ·intro h
     rw [List.cons_append]
     refine .cons a (i2 ?_)
     simpa [hk'] using h
 unfold stored
 obtain ⟨k1, k2⟩ := key hn r
 by_cases hb : kvs.any (fun kv => decide (kv.1 = k)) = true
 ·rw [if_pos hb]; exact k1 hb
 ·rw [if_neg hb]; exact k2 ((Bool.not_eq_true _).mp hb)
section
variable {D : Std} {n : Nat} {M M' F W : Ap} {env : Env} {ea ea' : ao} {s s' : Shared} {A : Around} {E : Ee}
theorem aE : cb D n ea [] true := fun {_ _ _ _ s _ _} _ _ => wpAny_tests_nil ⟨rfl, A6' _, Kp.refl' s⟩
theorem aY {e : Expr} {x : V} {b : Bool} (h : Ev D n ea e x) (hb : dT D x b) : cb D n ea [e] b := fun z z z z z z z hA R => wpAny_tests_one (h.tr hA R hb)
theorem ItW.toK {target : Expr} {h₀ : Heap} {I : Addr} {s₁ : Shared} {xs : List V} {fp : List Addr} {P : Nat → Value → Prop} {St : Nat → Heap → Prop} (T : ItW D M A h₀ I s₁ xs fp P St) (hI : h₀.objs.size ≤ I) (hW : ∀ b, W b → M b) :
  ItK D M W A target h₀ I s₁ xs fp [I] (fun i v z => P i v) (fun i v h => P i v ∧ St (i + 1) h) St where
 T := KTurns.ofWalks T.W fun i v s Q E st h => T.go target i v s Q E st h
 fpI := fun b hb => (T.fpI b hb).imp (fun e => by simp [e]) fun h q => h (hW b q)
 fpS := T.fpS
 wrN := fun b hb => by rw [C1' hb]; exact hI
 st := T.st
 self := fun s Q E st h => T.W.self 0 s Q E st h
 item := fun M₁ i v h p km k => by
  obtain ⟨y, e, r⟩ := T.item M₁ i v h p km k
  exact ⟨y, e, .val r⟩
theorem iB {R : Result → Shared → Prop} {elt target iter : Expr} {ifs : List Expr} {scope : Scope} {pos : Pos} {it acc : Value} {env : Env} (I : Nat → Shared → Prop)
  (turn : ∀ n s, I n s → wpAny (model D.prog D.w) A (pyNext it) (fun r s₁ => match r with
   | none => R (.ok .next) s₁
   | some v => wpAny (model D.prog D.w) A (letOwnedTupleGo target it v) (fun z s₁' => wpAny (model D.prog D.w) A (assign target env v) (fun z s₂ =>
     wpAny (model D.prog D.w) A (forIn ifs true fun c r => if r = true then do let ok ← isTrue c env (eval c env); pure (ForInStep.yield ok) else pure (ForInStep.yield r)) (fun ok s₃ =>
      if ok = true then wpAny (model D.prog D.w) A (eval elt env) (fun x s₄ =>
       wpAny (model D.prog D.w) A (call (.builtin "list.append") [acc, x]) (fun z s₅ => ∃ m, m < n ∧ I m s₅) (notedBy (model D.prog D.w) A env fun e s' => R (.error e) s') s₄) (notedBy (model D.prog D.w) A env fun e s' => R (.error e) s') s₃
      else ∃ m, m < n ∧ I m s₃) (notedBy (model D.prog D.w) A env fun e s' => R (.error e) s') s₂) (notedBy (model D.prog D.w) A env fun e s' => R (.error e) s') s₁') (notedBy (model D.prog D.w) A env fun e s' => R (.error e) s') s₁) (notedBy (model D.prog D.w) A env fun e s' => R (.error e) s') s)
  (n : Nat) (h : I n s) : codeAny (model D.prog D.w) A (.compLoop (.ListComp elt [⟨target, iter, ifs, 0⟩] scope pos) 0 it acc env) R s := by
 refine codeAny_loop rfl I (fun n s hI => ?_) n h
 show wpAny _ A ((compTurn (.ListComp elt [⟨target, iter, ifs, 0⟩] scope pos) 0 it acc env).onRaise (fun x => do noteFrame x env; theTreesLotGoes x)) _ _ s
 refine wpAny_noted ?_
 rw [compTurn_list]
 refine Wb (wpAny_standAt (Wb (wpAny_mono (turn n s hI) (fun r s₁ h₁ => ?_) fun z z h' => h')))
 cases r with
 | none => exact Wq h₁
 | some v =>
  refine Wb (wpAny_mono h₁ (fun z s₁' h₁' => ?_) fun z z h' => h')
  refine Wb (wpAny_mono h₁' (fun z s₂ h₂ => Wb (wpAny_mono h₂ (fun ok s₃ h₃ => ?_) fun z z h' => h')) fun z z h' => h')
  cases ok with
  | false => exact Wq ⟨rfl, h₃⟩
  | true =>
   exact Wb (Wb (wpAny_mono h₃ (fun x s₄ h₄ => Wb (wpAny_mono h₄ (fun z s₅ h₅ => Wq (Wq ⟨rfl, h₅⟩)) fun z z h' => h')) fun z z h' => h'))
theorem d5 {R : Result → Shared → Prop} {kx vx target iter : Expr} {ifs : List Expr} {scope : Scope} {pos : Pos} {it : Value} {d : Addr} {env : Env} (I : Nat → Shared → Prop)
  (turn : ∀ n s, I n s → wpAny (model D.prog D.w) A (pyNext it) (fun r s₁ => match r with
   | none => R (.ok .next) s₁
   | some v => wpAny (model D.prog D.w) A (letOwnedTupleGo target it v) (fun z s₁' => wpAny (model D.prog D.w) A (assign target env v) (fun z s₂ =>
     wpAny (model D.prog D.w) A (forIn ifs true fun c r => if r = true then do let ok ← isTrue c env (eval c env); pure (ForInStep.yield ok) else pure (ForInStep.yield r)) (fun ok s₃ =>
      if ok = true then wpAny (model D.prog D.w) A (eval kx env) (fun kv s₄ => wpAny (model D.prog D.w) A (eval vx env) (fun vv s₅ =>
       wpAny (model D.prog D.w) A (dictSet d kv vv) (fun z s₆ => ∃ m, m < n ∧ I m s₆) (notedBy (model D.prog D.w) A env fun e s' => R (.error e) s') s₅) (notedBy (model D.prog D.w) A env fun e s' => R (.error e) s') s₄) (notedBy (model D.prog D.w) A env fun e s' => R (.error e) s') s₃
      else ∃ m, m < n ∧ I m s₃) (notedBy (model D.prog D.w) A env fun e s' => R (.error e) s') s₂) (notedBy (model D.prog D.w) A env fun e s' => R (.error e) s') s₁') (notedBy (model D.prog D.w) A env fun e s' => R (.error e) s') s₁) (notedBy (model D.prog D.w) A env fun e s' => R (.error e) s') s)
  (n : Nat) (h : I n s) : codeAny (model D.prog D.w) A (.compLoop (.DictComp kx vx [⟨target, iter, ifs, 0⟩] scope pos) 0 it (.ref d) env) R s := by
 refine codeAny_loop rfl I (fun n s hI => ?_) n h
 show wpAny _ A ((compTurn (.DictComp kx vx [⟨target, iter, ifs, 0⟩] scope pos) 0 it (.ref d) env).onRaise (fun x => do noteFrame x env; theTreesLotGoes x)) _ _ s
 refine wpAny_noted ?_
 rw [compTurn_dict]
 refine Wb (wpAny_standAt (Wb (wpAny_mono (turn n s hI) (fun r s₁ h₁ => ?_) fun z z h' => h')))
 cases r with
 | none => exact Wq h₁
 | some v =>
  refine Wb (wpAny_mono h₁ (fun z s₁' h₁' => ?_) fun z z h' => h')
  refine Wb (wpAny_mono h₁' (fun z s₂ h₂ => Wb (wpAny_mono h₂ (fun ok s₃ h₃ => ?_) fun z z h' => h')) fun z z h' => h')
  cases ok with
  | false => exact Wq ⟨rfl, h₃⟩
  | true =>
   exact Wb (Wb (wpAny_mono h₃ (fun kv s₄ h₄ => Wb (B3' (wpAny_mono h₄ (fun vv s₅ h₅ => Wb (wpAny_standAt (B3' (wpAny_mono h₅ (fun z s₆ h₆ => Wq ⟨rfl, h₆⟩) fun z z h' => h')))) fun z z h' => h'))) fun z z h' => h'))
theorem aq.keeps {k : Nat} (h : aq (fun b => k ≤ b) s s') (hk : s.heap.objs.size ≤ k) : Keeps s s' := by
 obtain ⟨h', t, rfl, kk⟩ := h
 exact ⟨h', t, rfl, fun b o e => kk b o (Nat.not_le.mpr (A2' (A5' e) hk)) e⟩
theorem jO {tk : Nat} (hA : bb n A) {s₁ s₂ : Shared} {Wl : Ap} {target : Expr} {I : Addr} {xs : List V} {fp wr : List Addr} {P Md : Nat → Value → Heap → Prop} {St : Nat → Heap → Prop} {M₀ W₀ : Ap}
  (T : ItK D M₀ W₀ A target s₁.heap I s₂ xs fp wr P Md St) (hM0 : ∀ b, M b → M₀ b ∨ s₁.heap.get? b = none) (hfp : ∀ b ∈ fp, ¬ W b) (hwr : ∀ b ∈ wr, M b ∧ ¬ F b) (hWl : ∀ b, Wl b → M₀ b) {i : Nat} (hi : i ≤ xs.length)
  (R : Rel D M F W env ea s) (ks : aq (fun b => Wl b ∨ s₁.heap.objs.size ≤ b) s₁ s) (st : St i s.heap) (hk : tk ≤ s.toks) {Q K : Shared → Prop}
  (hend : xs.drop i = [] → ∀ s', aq (fun b => b ∈ wr) s s' → s.heap.objs.size ≤ s'.heap.objs.size → tk ≤ s'.toks → Q s')
  (hitem : ∀ y, xs.drop i = y :: xs.drop (i + 1) → i < xs.length → ∃ e1, bw D ea target y e1 ∧ ∀ s', aq (fun b => b ∈ wr ∨ W b) s s' → s.heap.objs.size ≤ s'.heap.objs.size → tk ≤ s'.toks → Rel D M F W env e1 s' → St (i + 1) s'.heap → K s') :
  wpAny (model D.prog D.w) A (pyNext (.ref I)) (fun r s₁ => match r with
   | none => Q s₁
   | some v => wpAny (model D.prog D.w) A (letOwnedTupleGo target (.ref I) v) (fun z s₁' => wpAny (model D.prog D.w) A (assign target env v) (fun z s₂ => K s₂) E s₁') E s₁) E s := by
 by_cases hlt : i < xs.length
 ·refine B8' hk (aA (T.T.item i _ _ _ hlt st fun v h₁ t₁ hMd kk₁ hsz₁ hk1 => ?_))
  refine B8' hk1 (aA (T.T.go i v _ _ _ hMd fun h₂ hP st₂ kk₂ hsz₂ hk2 => ?_))
  have kX : aq (fun b => b ∈ wr) s { s with heap := h₂, toks := t₁ } := ⟨h₂, t₁, rfl, fun b o q e => kk₂ b o q (kk₁ b o q e)⟩
  have hz := A1' hsz₁ hsz₂
  obtain ⟨y, ey, ir⟩ := T.item M i v h₂ hP hM0 (fun b o q e => (ks.trans (kX.sub fun b hb => .inr (T.wrN b hb))).get (fun hb => hb.elim (fun hb => q (hWl b hb)) fun hb => A7' _ (A2' (A5' e) hb)) e)
  have hd : xs.drop i = y :: xs.drop (i + 1) := by
   obtain ⟨hi', he⟩ := List.getElem?_eq_some_iff.mp ey
   rw [← he]; exact List.drop_eq_getElem_cons hlt
  obtain ⟨e1, ht, k⟩ := hitem y hd hlt
  have R₂ := R.growX kX hwr hz (fun z q => q) (fun z q => .inl q) (R.dom.size hz) R.mb
  exact B8' hk2 (aA (ht hA.handled R₂ ir fun s₃ k₃ R₃ hsz₃ hk3 => k s₃ ((kX.sub fun b q => .inl q).trans (k₃.sub fun b q => .inr q)) (A1' hz hsz₃) hk3 R₃ (T.T.frame _ _ _ st₂ fun b hb o e => k₃.get (hfp b hb) e)))
 ·have hin : i = xs.length := Nat.le_antisymm hi (Nat.not_lt.mp hlt)
  subst hin
  exact B8' hk (aA (T.T.done _ _ _ st fun h₁ t₁ kk₁ hsz₁ hk1 => hend (List.drop_length ..) _ ⟨h₁, t₁, rfl, kk₁⟩ hsz₁ hk1))
end
end
section
theorem iq (k : Str) (v : V) : ∀ l : Lv, (bL l k v).length ≤ l.length + 1
 | [] => A6' _
 | (x, u) :: r => by
  unfold bL
  split
  ·exact Nat.le_succ _
  ·rw [List.length_cons, List.length_cons]; exact Nat.succ_le_succ (iq k v r)
theorem DictOf.nodup {K : Type} [DecidableEq K] {prog : Program} {w : World} {knd : PySem.KeyKind prog w K} {h : Heap} {a : Addr} {kvs : List (K × Value)} (x : h.DictOf knd a kvs) : (kvs.map (·.1)).Nodup := by
 obtain ⟨o, es, ep, _, _, _, _, _, r⟩ := x
 exact r
inductive d7 (D : Std) (n : Nat) (kx vx target : Expr) (ifs : List Expr) : ao → Lv → List V → Lv → Prop
 | nil {ea acc} : d7 D n kx vx target ifs ea acc [] acc
 | skip {ea e1 acc x xs ys} : bw D ea target x e1 → cb D n e1 ifs false → d7 D n kx vx target ifs e1 acc xs ys → d7 D n kx vx target ifs ea acc (x :: xs) ys
 | take {ea e1 acc x xs k v ys} : bw D ea target x e1 → cb D n e1 ifs true → Ev D n e1 kx (.str k) → Ev D n e1 vx v → d7 D n kx vx target ifs e1 (bL acc k v) xs ys → d7 D n kx vx target ifs ea acc (x :: xs) ys
noncomputable def dP (D : Std) (n : Nat) (ea : ao) (target it : Expr) (xs : List V) : Prop := (∀ env x, foldedSetIterable it env x = pure x) ∧ ∀ {M F W : Ap} {env : Env} {s : Shared} {A : Around} {E : Ee}, bb n A → Rel D M F W env ea s →
 wpAny (model D.prog D.w) A (eval it env) (fun x s₁ => wpAny (model D.prog D.w) A (pyIter x) (mq D M W A target s xs) E s₁) E s
section
variable {D : Std} {n : Nat} {M M' F W : Ap} {env : Env} {ea ea' : ao} {s s' : Shared} {A : Around} {E : Ee}
theorem VRd.mono' {prog : Program} {w : World} {h h' : Heap} {vs : Lw} {xs : Lv} (r : VRd prog w M h vs xs) (k : ∀ b o, ¬ M b → h.get? b = some o → h'.get? b = some o) : VRd prog w M h' vs xs := r.mono k fun z q => .inl q
theorem dI {target e : Expr} {v : V} {xs : List V} (h : Ev D n ea e v) (i : fA v = some xs) : dP D n ea target e xs := ⟨h.pl.fold, fun hA R => au (h.ev hA R) fun x s₁ g =>
 wF hA.handled (R.dom.size g.1) g.2.2 i fun o fp P St TW => ⟨_, _, _, _, _, _, s₁, rfl, g.1, g.2.1, aC .., Kp.push' s₁ o s₁.toks, TW.toK (A6' _) R.wm⟩⟩
end
inductive CY (tk : Nat) (D : Std) (n : Nat) (M F W Wl : Ap) (env : Env) (elt target : Expr) (ifs : List Expr) (s₁ : Shared) (acc : Addr) (St : Nat → Heap → Prop) (xs ys : List V) (ea3 : ao) (q : Nat) (s' : Shared) : Prop
 | mk (i : Nat) (ea' : ao) (done rest : List V) (vs : Array Value) (m : Nat) (hq : q = xs.length - i) (hi : i ≤ xs.length) (hy : ys = done ++ rest) (ec : er tk D n elt target ifs ea' (xs.drop i) rest ea3) (hk : tk ≤ s'.toks) (R : Rel D M F W env ea' s')
   (ks : aq (fun b => Wl b ∨ s₁.heap.objs.size ≤ b) s₁ s') (st : St i s'.heap) (ha : s'.heap.get? acc = some { cls := .type "list", data := .seq vs m }) (rv : VRs D.prog D.w M s'.heap vs.toList done)
section
variable {D : Std} {n : Nat} {M M' F W : Ap} {env : Env} {ea ea' : ao} {s s' : Shared} {A : Around} {E : Ee}
theorem eD {tk : Nat} (hA : bb n A) {s₁ : Shared} {Wl : Ap} {target : Expr} {I acc : Addr} {s₂ : Shared} {xs : List V} {fp wr : List Addr} {P Md : Nat → Value → Heap → Prop} {St : Nat → Heap → Prop} {M₀ W₀ : Ap}
  (T : ItK D M₀ W₀ A target s₁.heap I s₂ xs fp wr P Md St) (hM0 : ∀ b, M b → M₀ b ∨ s₁.heap.get? b = none)
  (hfp : ∀ b ∈ fp, ¬ W b ∧ b ≠ acc) (hwr : ∀ b ∈ wr, M b ∧ ¬ F b) (hWk : ∀ b, W b → Wl b ∨ s₁.heap.objs.size ≤ b) (hWl : ∀ b, Wl b → M₀ b) (hacc : M acc ∧ ¬ F acc ∧ s₁.heap.objs.size ≤ acc)
  {elt iter : Expr} {ifs : List Expr} {scope : Scope} {pos : Pos} {ys : List V} {ea3 : ao} {RR : Result → Shared → Prop}
  (hR : ∀ s', aq (fun b => Wl b ∨ s₁.heap.objs.size ≤ b) s₁ s' → Rel D M F W env ea3 s' → tk ≤ s'.toks → (∃ vs m, s'.heap.get? acc = some { cls := .type "list", data := .seq vs m } ∧ VRs D.prog D.w M s'.heap vs.toList ys) → RR (.ok .next) s')
  (R : Rel D M F W env ea s) (ks : aq (fun b => Wl b ∨ s₁.heap.objs.size ≤ b) s₁ s) (st : St 0 s.heap) (hac : ∃ m, s.heap.get? acc = some { cls := .type "list", data := .seq #[] m }) (hl : ys.length ≤ 100000)
  (htk : tk ≤ s.toks) (e : er tk D n elt target ifs ea xs ys ea3) :
  codeAny (model D.prog D.w) A (.compLoop (.ListComp elt [⟨target, iter, ifs, 0⟩] scope pos) 0 (.ref I) (.ref acc) env) RR s := by
 obtain ⟨Inv, hI⟩ : ∃ I : Nat → Shared → Prop, ∀ q s', CY tk D n M F W Wl env elt target ifs s₁ acc St xs ys ea3 q s' ↔ I q s' := ⟨_, fun z z => .rfl⟩
 refine iB Inv ?_ xs.length ?_
 ·intro q s' hq
  obtain ⟨i, ea', done, rest, vs, m, rfl, hi, rfl, ec, hk0, R', ks', st', ha, rv⟩ := (hI _ _).mpr hq
  have wrk : ∀ b, b ∈ wr → Wl b ∨ s₁.heap.objs.size ≤ b := fun b hb => .inr (T.wrN b hb)
  have nacc : ¬ (acc ∈ wr ∨ W acc) := fun hb => hb.elim (fun hb => (hfp _ (T.T.sub _ hb)).2 rfl) fun hw => hacc.2.1 (R'.wf _ hw)
  have nM : ∀ b, ¬ M b → ¬ (b ∈ wr ∨ W b) := fun b q hb => hb.elim (fun hb => q (hwr b hb).1) fun hw => q (R'.wm _ hw)
  refine jO hA T hM0 (fun b hb => (hfp b hb).1) hwr hWl hi R' ks' st' hk0 (fun hd s'' k hz hk => ?_) fun y hd hlt => ?_
  ·rw [hd] at ec
   cases ec
   refine hR _ (ks'.trans (k.sub wrk)) (R'.growX k hwr hz (fun z q => q) (fun z q => .inl q) (R'.dom.size hz) R'.mb) hk ⟨vs, m, k.get (fun hb => nacc (.inl hb)) ha, ?_⟩
   rw [List.append_nil]
   exact rv.mono' fun b o q e => k.get (fun hb => nM b q (.inl hb)) e
  ·rw [hd] at ec
   have lt := Nat.sub_succ_lt_self _ _ hlt
   cases ec with
   | skip ea1 et ec =>
    refine ⟨_, ea1, fun s₃ k₃ hz₃ hk3 R₃ st₃ => B8' hk3 (au (et hA R₃) fun b s₄ g hk4 => ?_)⟩
    obtain ⟨rfl, hsz₄, k₄⟩ := g
    rw [if_neg (by decide)]
    exact ⟨_, lt, (hI _ _).mp (.mk (i + 1) _ done rest vs m rfl hlt rfl ec hk4 (R₃.keeps k₄ hsz₄) ((ks'.trans (k₃.sub fun b q => q.elim (wrk b) (hWk b))).trans (Kp.toW k₄)) (T.T.frame _ _ _ st₃ fun b z o e => Kp.get k₄ e) (Kp.get k₄ (k₃.get nacc ha)) (rv.mono' fun b o q e => Kp.get k₄ (k₃.get (nM b q) e)))⟩
   | @take _ _ e2 _ _ _ u us ea1 et eu ec =>
    refine ⟨_, ea1, fun s₃ k₃ hz₃ hk3 R₃ st₃ => B8' hk3 (au (et hA R₃) fun b s₄ g hk4 => ?_)⟩
    obtain ⟨rfl, hsz₄, k₄⟩ := g
    rw [if_pos rfl]
    refine B8' hk4 (au (eu hA (R₃.keeps k₄ hsz₄) hk4) fun uv s₅ g₅ hk5 => ?_)
    have R₅ := g₅.2.2.1
    have k45 : aq W s₃ s₅ := (Kp.toW k₄).trans g₅.2.1
    have k5 := k₃.trans (k45.sub fun b q => Or.inr q)
    have hlen : vs.size ≤ sizeLine := by
     have h1 := rv.length
     rw [Array.length_toList] at h1
     rw [List.length_append] at hl
     rw [aX]; lia
    refine B8' hk5 (aA (wpAny_list_append_plain ⟨m, k5.get nacc ha⟩ (fun h₆ hp₆ hs₆ hsz₆ hk6 => ?_) hlen))
    obtain ⟨m₆, hp₆⟩ := hp₆
    have kX : aq (fun b => b = acc) s₅ { s₅ with heap := h₆ } := ⟨h₆, s₅.toks, rfl, fun b o q e => (hs₆.2 b q).trans e⟩
    have R₆ := R₅.growX kX (fun b hb => hb ▸ ⟨hacc.1, hacc.2.1⟩) hsz₆ (fun z q => q) (fun z q => .inl q) (R₅.dom.size hsz₆) R₅.mb
    have kM : ∀ b o, ¬ M b → s₅.heap.get? b = some o → h₆.get? b = some o := fun b o q e => kX.get (s' := { s₅ with heap := h₆ }) (fun hb => q (hb ▸ hacc.1)) e
    refine ⟨_, lt, (hI _ _).mp (.mk (i + 1) e2 (done ++ [u]) us (vs.push uv) m₆ rfl hlt (by rw [List.append_assoc]; rfl) ec hk6 R₆ ((ks'.trans (k5.sub fun b q => q.elim (wrk b) (hWk b))).trans (kX.sub fun b hb => .inr (hb ▸ hacc.2.2))) ?_ hp₆ ?_)⟩
    ·exact T.T.frame _ _ _ st₃ fun b hb o e => kX.get (s' := { s₅ with heap := h₆ }) (hfp b hb).2 (k45.get (hfp b hb).1 e)
    ·rw [Array.toList_push]
     exact VRs.append (.cons (g₅.2.2.2.mono kM fun z q => .inl q) .nil) (rv.mono' fun b o q e => kM b o q (k5.get (nM b q) e))
 ·obtain ⟨m, ha⟩ := hac
  exact (hI _ _).mp <| .mk 0 ea [] ys #[] m rfl (A9' _) rfl (by rw [List.drop_zero]; exact e) htk R ks st ha .nil
end
inductive CS (D : Std) (n : Nat) (M F W : Ap) (env : Env) (kx vx target : Expr) (ifs : List Expr) (s₁ : Shared) (acc : Addr) (St : Nat → Heap → Prop) (xs : List V) (ys : Lv) (q : Nat) (s' : Shared) : Prop
 | mk (i : Nat) (ea' : ao) (done : Lv) (kvs : Lw) (hq : q = xs.length - i) (hi : i ≤ xs.length) (hdl : done.length ≤ i) (ec : d7 D n kx vx target ifs ea' done (xs.drop i) ys) (R : Rel D M F W env ea' s')
   (ks : aq (fun b => False ∨ s₁.heap.objs.size ≤ b) s₁ s') (st : St i s'.heap) (ha : s'.heap.DictOf (PySem.strKind D.prog D.w) acc kvs) (rv : VRd D.prog D.w M s'.heap kvs done)
section
variable {D : Std} {n : Nat} {M M' F W : Ap} {env : Env} {ea ea' : ao} {s s' : Shared} {A : Around} {E : Ee}
theorem mC (hA : bb n A) {s₁ : Shared} {target : Expr} {I acc : Addr} {s₂ : Shared} {xs : List V} {fp wr : List Addr} {P Md : Nat → Value → Heap → Prop} {St : Nat → Heap → Prop} {M₀ W₀ : Ap}
  (T : ItK D M₀ W₀ A target s₁.heap I s₂ xs fp wr P Md St) (hM0 : ∀ b, M b → M₀ b ∨ s₁.heap.get? b = none)
  (hfp : ∀ b ∈ fp, ¬ W b ∧ b ≠ acc) (hwr : ∀ b ∈ wr, M b ∧ ¬ F b) (hWk : ∀ b, W b → s₁.heap.objs.size ≤ b) (hacc : M acc ∧ ¬ F acc ∧ s₁.heap.objs.size ≤ acc)
  {kx vx iter : Expr} {ifs : List Expr} {scope : Scope} {pos : Pos} {ys : Lv} {RR : Result → Shared → Prop}
  (hR : ∀ s', aq (fun b => s₁.heap.objs.size ≤ b) s₁ s' → (∃ ea', Rel D M F W env ea' s') → (∃ kvs, s'.heap.DictOf (PySem.strKind D.prog D.w) acc kvs ∧ VRd D.prog D.w M s'.heap kvs ys) → RR (.ok .next) s')
  (R : Rel D M F W env ea s) (ks : aq (fun b => s₁.heap.objs.size ≤ b) s₁ s) (st : St 0 s.heap) (hac : s.heap.DictOf (PySem.strKind D.prog D.w) acc []) (hl : xs.length ≤ 100000)
  (e : d7 D n kx vx target ifs ea [] xs ys) :
  codeAny (model D.prog D.w) A (.compLoop (.DictComp kx vx [⟨target, iter, ifs, 0⟩] scope pos) 0 (.ref I) (.ref acc) env) RR s := by
 obtain ⟨Inv, hI⟩ : ∃ I : Nat → Shared → Prop, ∀ q s', CS D n M F W env kx vx target ifs s₁ acc St xs ys q s' ↔ I q s' := ⟨_, fun z z => .rfl⟩
 refine d5 Inv ?_ xs.length ((hI _ _).mp (.mk 0 ea [] [] rfl (A9' _) (A9' _) (by rw [List.drop_zero]; exact e) R (ks.sub fun b q => .inr q) st hac .nil))
 intro q s' hq
 obtain ⟨i, ea', done, kvs, rfl, hi, hdl, ec, R', ks', st', ha, rv⟩ := (hI _ _).mpr hq
 have wrk : ∀ b, b ∈ wr → False ∨ s₁.heap.objs.size ≤ b := fun b hb => .inr (T.wrN b hb)
 have nacc : ¬ (acc ∈ wr ∨ W acc) := fun hb => hb.elim (fun hb => (hfp _ (T.T.sub _ hb)).2 rfl) fun hw => hacc.2.1 (R'.wf _ hw)
 have nM : ∀ b, ¬ M b → ¬ (b ∈ wr ∨ W b) := fun b q hb => hb.elim (fun hb => q (hwr b hb).1) fun hw => q (R'.wm _ hw)
 refine jO hA T hM0 (fun b hb => (hfp b hb).1) hwr (fun b q => q.elim) hi R' ks' st' (A9' _) (fun hd s'' k hz z => ?_) fun y hd hlt => ?_
 ·rw [hd] at ec
  cases ec
  exact hR _ ((ks'.trans (k.sub wrk)).sub fun b q => q.elim (fun q => q.elim) id) ⟨_, R'.growX k hwr hz (fun z q => q) (fun z q => .inl q) (R'.dom.size hz) R'.mb⟩ ⟨kvs, DictOf.at' ha fun o => k.get fun hb => nacc (.inl hb), rv.mono' fun b o q e => k.get (fun hb => nM b q (.inl hb)) e⟩
 ·rw [hd] at ec
  have lt := Nat.sub_succ_lt_self _ _ hlt
  cases ec with
  | skip ea1 et ec =>
   refine ⟨_, ea1, fun s₃ k₃ hz₃ z R₃ st₃ => au (et hA R₃) fun b s₄ g => ?_⟩
   obtain ⟨rfl, hsz₄, k₄⟩ := g
   rw [if_neg (by decide)]
   exact ⟨_, lt, (hI _ _).mp (.mk (i + 1) _ done kvs rfl hlt (B6' hdl) ec (R₃.keeps k₄ hsz₄) ((ks'.trans (k₃.sub fun b q => q.elim (wrk b) fun q => .inr (hWk b q))).trans (Kp.toW k₄)) (T.T.frame _ _ _ st₃ fun b z o e => Kp.get k₄ e) (DictOf.at' (h' := s₄.heap) ha fun o e => Kp.get k₄ (k₃.get nacc e)) (rv.mono' fun b o q e => Kp.get k₄ (k₃.get (nM b q) e)))⟩
  | @take _ _ _ _ _ kk u _ ea1 et ek eu ec =>
   refine ⟨_, ea1, fun s₃ k₃ hz₃ z R₃ st₃ => au (et hA R₃) fun b s₄ g => ?_⟩
   obtain ⟨rfl, hsz₄, k₄⟩ := g
   rw [if_pos rfl]
   refine au (ek.ev hA (R₃.keeps k₄ hsz₄)) fun kv s₅ g₅ => ?_
   have R₅ := (R₃.keeps k₄ hsz₄).keeps g₅.2.1 g₅.1
   obtain ⟨tk, rfl⟩ := g₅.2.2.str_inv
   refine au (eu.ev hA R₅) fun uv s₆ g₆ => ?_
   have R₆ := R₅.keeps g₆.2.1 g₆.1
   have k6 := k₃.trans (Kp.toW (Kp.trans' (Kp.trans' k₄ g₅.2.1) g₆.2.1))
   have hlen : kvs.length ≤ sizeLine := by
    have h1 := rv.length
    rw [aX]; lia
   refine aA (wpAny_dictSet_pairs (knd := PySem.strKind D.prog D.w) (k := kk) (PySem.strKind_is _ _ _ _) (DictOf.at' (h' := s₆.heap) ha fun o => k6.get nacc) (fun h₇ hp₇ hs₇ hsz₇ => ?_) hlen)
   have kX : aq (fun b => b = acc) s₆ { s₆ with heap := h₇, toks := s₆.toks + 1 } := ⟨h₇, _, rfl, fun b o q e => (hs₇.2 b q).trans e⟩
   have R₇ := R₆.growX kX (fun b hb => hb ▸ ⟨hacc.1, hacc.2.1⟩) hsz₇ (fun z q => q) (fun z q => .inl q) (R₆.dom.size hsz₇) R₆.mb
   have kM : ∀ b o, ¬ M b → s₆.heap.get? b = some o → h₇.get? b = some o := fun b o q e => kX.get (fun hb => q (hb ▸ hacc.1)) e
   refine ⟨_, lt, (hI _ _).mp (.mk (i + 1) _ (bL done kk u) (stored kvs kk uv) rfl hlt (A1' (iq ..) (Nat.succ_le_succ hdl)) ec R₇ ((ks'.trans (k6.sub fun b q => q.elim (wrk b) fun q => .inr (hWk b q))).trans (kX.sub fun b hb => .inr (hb ▸ hacc.2.2))) ?_ hp₇ ?_)⟩
   ·exact T.T.frame _ _ _ st₃ fun b hb o e => kX.get (hfp b hb).2 (Kp.get (Kp.trans' (Kp.trans' k₄ g₅.2.1) g₆.2.1) e)
   ·exact eN (DictOf.nodup ha) (rv.mono' fun b o q e => kM b o q (k6.get (nM b q) e)) (g₆.2.2.mono kM fun z q => .inl q)
inductive fQ (D : Std) (M : Ap) (s : Shared) (y : V) (acc : Value) (C : Addr) (s' : Shared) : Prop
 | mk (k : Keeps s s') (z : s.heap.objs.size ≤ s'.heap.objs.size) (c1 : s.heap.objs.size ≤ C) (c2 : C < s'.heap.objs.size) (hn : ∃ m, s'.heap.Ns C m) (r : VR D.prog D.w (fun b => M b ∨ b = C) s'.heap acc y)
theorem lQ (hA : bb n A) (R : Rel D M F W env ea s) {iter target : Expr} {ifs : List Expr} {scope : Scope} {xs : List V} (ei : dP D n ea target iter xs) (hc : cX ea scope = true)
  {e : Expr} (hcl : clausesOf e = [⟨target, iter, ifs, 0⟩]) {pos : Pos} {newAcc : Sem Value} {use : Option (Value → Sem Unit)} {y : V} {oacc : Obj} {Q : Ee}
  (hnew : ∀ {s : Shared} {Q : Ee}, Q (.ref s.heap.objs.size) { s with heap := s.heap.push oacc } → wpAny (model D.prog D.w) A newAcc Q E s) (hof : oacc.isFreed = false)
  (hstart : ∀ {I acc : Addr} {cenv : Env} {RR : Result → Shared → Prop} {s : Shared}, codeAny (model D.prog D.w) A (.compLoop e 0 (.ref I) (.ref acc) cenv) RR s → (∀ (Q : Ee) (E : Ee), Q (.ref I) s → wpAny (model D.prog D.w) A (pyIter (.ref I)) Q E s) → codeAny (model D.prog D.w) A (.compStart e 0 (.ref I) (.ref acc) cenv) RR s)
  (hloop : ∀ {M' F' W' : Ap} {cenv : Env} {s₁ s₂ s₄ : Shared} {I acc : Addr} {fp wr : List Addr} {P Md : Nat → Value → Heap → Prop} {St : Nat → Heap → Prop} {RR : Result → Shared → Prop},
   ItK D M W A target s₁.heap I s₂ xs fp wr P Md St → (∀ b, M' b → M b ∨ s₁.heap.get? b = none) → (∀ b, M b → b < s₁.heap.objs.size) → (∀ b ∈ fp, ¬ W' b ∧ b ≠ acc) → (∀ b ∈ wr, M' b ∧ ¬ F' b) → (∀ b, W' b → s₁.heap.objs.size ≤ b) → (M' acc ∧ ¬ F' acc ∧ s₁.heap.objs.size ≤ acc) →
   (∀ s', aq (fun b => s₁.heap.objs.size ≤ b) s₁ s' → (∃ ea', Rel D M' F' W' cenv ea' s') → (∀ M'' : Ap, (∀ b, M'' b → M' b) → ¬ M'' acc → VR D.prog D.w M'' s'.heap (.ref acc) y) → RR (.ok .next) s') →
   Rel D M' F' W' cenv (cenvOf ea scope) s₄ → aq (fun b => s₁.heap.objs.size ≤ b) s₁ s₄ → St 0 s₄.heap → s₄.heap.get? acc = some oacc → codeAny (model D.prog D.w) A (.compLoop e 0 (.ref I) (.ref acc) cenv) RR s₄)
  (hQ : ∀ acc C s', fQ D M s y acc C s' → compPost (model D.prog D.w) A E use Q acc C (.ok .next) s') :
  wpAny (model D.prog D.w) A (comprehension e scope env pos newAcc false (eval iter env) use) Q E s := by
 have hfold := ei.1 env
 have hit := ei.2 (E := E) hA R
 have hc' := hc
 obtain ⟨hk1, hk2⟩ := C4' hc'
 obtain ⟨hnd, hfo⟩ := C4' hk2
 have hkind : scope.kind = .function := by unfold xR at hk1; split at hk1; assumption; cases hk1
 obtain ⟨cl, hclos, h1, h2⟩ := b6 (env := env) scope fun x hm => by
  obtain ⟨a, u, e3, _⟩ := R.cex x (bI hfo hm)
  exact ⟨a, e3⟩
 refine wpAny_comprehension_free hcl hfold hclos hkind (fun x hx hl => by
  rw [← ig]; have := bq hnd (x := x.1) (k := x.2) hx; rw [hl] at this; exact this) ?_
 refine wpAny_mono hit (fun x s₀ h₀ => wpAny_mono h₀ (fun iv s₂ hI => ?_) fun z z x => x) fun z z x => x
 obtain ⟨I, fp, wr, P, Md, St, s₁, rfl, hsz₁, k₁, hsz₂, k₂, T⟩ := hI
 have R₁ := R.keeps k₁ hsz₁
 refine hnew ?_
 refine kl ?_
 have hk₃ : ∀ b o, s₂.heap.get? b = some o → (s₂.heap.push oacc).get? b = some o := fun b o e => A3' _ e
 have kp₃ : Keeps s₂ { s₂ with heap := s₂.heap.push oacc } := ⟨_, s₂.toks, rfl, hk₃⟩
 obtain ⟨kp, hlt, hns, Rc⟩ := ie (qual := env.qual) R₁ (s₃ := { s₂ with heap := s₂.heap.push oacc }) (Kp.trans' k₂ kp₃) (A1' hsz₂ (aC ..)) hc h1 h2
 dsimp only at kp hlt hns Rc
 generalize hH : pushCells ((s₂.heap.push oacc).push { cls := .type "dict", data := .dict #[] }) scope.names = H at kp hlt hns Rc ⊢
 have hC : (s₂.heap.push oacc).objs.size = s₂.heap.objs.size + 1 := Heap.size_push ..
 rw [hC] at hlt hns Rc ⊢
 have k₄ : aq (fun b => s₁.heap.objs.size ≤ b) s₁ { s₂ with heap := H } := Kp.toW (Kp.trans' (Kp.trans' k₂ kp₃) kp)
 have st₄ : St 0 H := T.T.frame _ _ _ T.st fun b z o e => Kp.get kp (hk₃ b o e)
 have ha₄ : H.get? s₂.heap.objs.size = some oacc := Kp.get kp (A4' _ hof)
 have hd0 : ∀ b, M b → b < s₁.heap.objs.size := R₁.dom
 refine hstart ?_ fun Q E hq => T.self _ _ _ st₄ hq
 refine hloop T ?_ hd0 ?_ ?_ ?_ ?_ ?_ Rc k₄ st₄ ha₄
 ·intro b q
  rcases q with q | q
  ·exact .inl q
  ·right
   cases e : s₁.heap.get? b with
   | none => rfl
   | some o => exact absurd (A5' e) (Nat.not_lt.mpr q.1)
 ·intro b hb
  have hs : @LT.lt Nat _ b s₂.heap.objs.size := T.fpS b hb
  exact ⟨fun q => by have q1 := q.1; lia, A8' hs⟩
 ·intro b hb
  have hs : @LT.lt Nat _ b s₂.heap.objs.size := T.fpS b (T.T.sub b hb)
  have hw : @LE.le Nat _ s₁.heap.objs.size b := T.wrN b hb
  refine ⟨.inr ⟨hw, Nat.lt_trans hs (Nat.lt_of_succ_lt hlt)⟩, fun q => ?_⟩
  rcases q with q | q
  ·have h9 : @LT.lt Nat _ b s₁.heap.objs.size := hd0 b (R.fm b q); exact Nat.not_le_of_lt ‹_› ‹_›
  ·have q1 := q.1; lia
 ·intro b q; have q1 := q.1; lia
 ·refine ⟨.inr ⟨hsz₂, Nat.lt_of_succ_lt hlt⟩, fun q => ?_, hsz₂⟩
  rcases q with q | q
  ·have h9 : @LT.lt Nat _ s₂.heap.objs.size s₁.heap.objs.size := hd0 _ (R.fm _ q); exact Nat.not_le_of_lt ‹_› ‹_›
  ·have q1 := q.1; exact A7' _ ‹_›
 ·intro s' ks' hR' hv
  obtain ⟨ea', R'⟩ := hR'
  obtain ⟨m, hm, _⟩ := R'.loc
  have hm : s'.heap.Ns (s₂.heap.objs.size + 1) m := hm
  refine hQ (.ref s₂.heap.objs.size) (s₂.heap.objs.size + 1) s' ⟨Kp.trans' k₁ (ks'.keeps (A6' _)), ?_, B6' (A1' hsz₁ hsz₂), hm.lt, ⟨m, hm⟩, hv _ ?_ ?_⟩
  ·have h8 : @LT.lt Nat _ (s₂.heap.objs.size + 1) s'.heap.objs.size := hm.lt
   lia
  ·intro b q
   rcases q with q | q
   ·exact .inl q
   ·exact .inr ⟨q ▸ B6' hsz₂, q ▸ hlt⟩
  ·intro q
   rcases q with q | q
   ·have h9 : @LT.lt Nat _ s₂.heap.objs.size s₁.heap.objs.size := hd0 _ q; exact Nat.not_le_of_lt ‹_› ‹_›
   ·exact absurd q (A8' (Nat.lt_succ_self _))
theorem b5 {acc : Value} {C : Addr} {y : V} (h : fQ D M s y acc C s') : compPost (model D.prog D.w) A E none (cz D M s y) acc C (.ok .next) s' := by
 obtain ⟨k, hz, h1, h2, ⟨m, hm⟩, rv⟩ := h
 refine ⟨m, hm, fun h' hs => ?_⟩
 have kk : ∀ b o, s.heap.get? b = some o → h'.get? b = some o := fun b o e => (hs.2 b (A8' (A2' (A5' e) h1))).trans (Kp.get k e)
 obtain ⟨h₁, t, rfl, _⟩ := k
 exact ⟨by rw [hs.1]; exact hz, ⟨h', t, rfl, kk⟩, rv.mono (fun b o q e => (hs.2 b fun e' => q (.inr e')).trans e) fun b q => .inl (.inl q)⟩
theorem du {Q : Ee} (h : Q (.ref s.heap.objs.size) { s with heap := s.heap.push { cls := .type "list", data := .seq #[] } }) : wpAny (model D.prog D.w) A (newList []) Q E s :=
 B7' h (by show 0 ≤ sizeLine; decide)
theorem eK {Q : Ee} (h : Q (.ref s.heap.objs.size) { s with heap := s.heap.push { cls := .type "dict", data := .dict #[] } }) : wpAny (model D.prog D.w) A newDict Q E s :=
 B7' h
theorem eU (hA : bb n A) (R : Rel D M F W env ea s) {elt iter target : Expr} {ifs : List Expr} {scope : Scope} {pos : Pos} {xs ys : List V} (hc : cX ea scope = true) (ei : dP D n ea target iter xs) (hl : xs.length ≤ 100000)
  (ec : cT D n elt target ifs (cenvOf ea scope) xs ys) {use : Option (Value → Sem Unit)} {p : Pos} {Q : Ee} (hQ : ∀ acc C s', fQ D M s (.list ys) acc C s' → compPost (model D.prog D.w) A E use Q acc C (.ok .next) s') :
  wpAny (model D.prog D.w) A (comprehension (.ListComp elt [⟨target, iter, ifs, 0⟩] scope pos) scope env p (newList []) false (eval iter env) use) Q E s := by
 refine lQ hA R ei hc rfl (y := .list ys) (oacc := { cls := .type "list", data := .seq #[] }) (fun h => du h) rfl (fun h hi => codeAny_compStart_list h (hi _ _ h)) ?_ hQ
 intro M' F' W' cenv s₁ s₂ s₄ I acc fp wr P Md St RR IT hM0 hd0 hfp hwr hWk hacc hR Rc ks st ha
 obtain ⟨e3, ex⟩ := ec
 refine eD (Wl := fun z => False) hA IT hM0 hfp hwr (fun b q => .inr (hWk b q)) (fun b q => q.elim) hacc (fun s' k' R' z hv => hR s' (k'.sub fun b q => q.elim (fun q => q.elim) id) ⟨_, R'⟩ fun M'' hM hn => ?_) Rc (ks.sub fun b q => .inr q) st ⟨_, ha⟩ (A1' ex.len hl) (A9' _) ex
 obtain ⟨vs, m, hg, rv⟩ := hv
 exact .list hn hg (rv.mono (fun z z z e => e) fun b q => .inl (hM b q))
theorem eV (hA : bb n A) (R : Rel D M F W env ea s) {kx vx iter target : Expr} {ifs : List Expr} {scope : Scope} {pos : Pos} {xs : List V} {ys : Lv} (hc : cX ea scope = true) (ei : dP D n ea target iter xs) (hl : xs.length ≤ 100000)
  (ec : d7 D n kx vx target ifs (cenvOf ea scope) [] xs ys) {use : Option (Value → Sem Unit)} {p : Pos} {Q : Ee} (hQ : ∀ acc C s', fQ D M s (.dict ys) acc C s' → compPost (model D.prog D.w) A E use Q acc C (.ok .next) s') :
  wpAny (model D.prog D.w) A (comprehension (.DictComp kx vx [⟨target, iter, ifs, 0⟩] scope pos) scope env p newDict false (eval iter env) use) Q E s := by
 have hbs := R.bs
 refine lQ hA R ei hc rfl (y := .dict ys) (oacc := { cls := .type "dict", data := .dict #[] }) (fun h => eK h) rfl (fun h hi => codeAny_compStart_dict h (hi _ _ h)) ?_ hQ
 intro M' F' W' cenv s₁ s₂ s₄ I acc fp wr P Md St RR IT hM0 hd0 hfp hwr hWk hacc hR Rc ks st ha
 refine mC hA IT hM0 hfp hwr hWk hacc (fun s' k' R' hv => hR s' k' R' fun M'' hM hn => ?_) Rc ks st ?_ hl ec
 ·obtain ⟨kvs, hg, rv⟩ := hv
  refine .dict hn hg ?_ (rv.mono (fun z z z e => e) fun b q => .inl (hM b q))
  rcases Rc.mb acc hacc.1 with q | q
  ·have q1 : @LE.le Nat _ D.base acc := q
   have q2 : @LT.lt Nat _ 1 D.base := D.b2
   have : acc ≠ 1 := by rintro rfl; exact Nat.not_le_of_lt ‹_› ‹_›
   exact beq_eq_false_iff_ne.mpr this
  ·rw [q]; exact D.tb
 ·obtain ⟨o, ho, hd⟩ := Heap.dictOf_iff.mp (Heap.DictOf.new (knd := PySem.strKind D.prog D.w) s.heap)
  rw [A4' _ rfl] at ho
  cases ho
  exact Heap.dictOf_iff.mpr ⟨_, ha, hd⟩
theorem lK (R : Rel D M F W env ea s) {t : Str} {tp : Pos} {y : V} (ea1 : dG D ea t y ea') {acc : Value} {C : Addr} (h : fQ D M s y acc C s') :
  compPost (model D.prog D.w) A E (some (assign (.Name t tp) env)) (fun z s₂ => s.heap.objs.size ≤ s₂.heap.objs.size ∧ aq W s s₂ ∧ Rel D M F W env ea' s₂) acc C (.ok .next) s' := by
 obtain ⟨k, hz, h1, h2, ⟨m, hm⟩, rv⟩ := h
 have hC : ∀ b, F b → b ≠ C := fun b q => A8' (A2' (R.dom b (R.fm b q)) h1)
 have R₁ : Rel D (fun b => M b ∨ b = C) F W env ea s' := by
  refine R.growX (X := fun z => False) (Kp.toW k) (fun b q => q.elim) hz (fun b q => .inl q) ?_ ?_ ?_
  ·intro b q
   rcases q with q | rfl
   ·exact .inl q
   ·right
    cases e : s.heap.get? b with
    | none => rfl
    | some o => exact absurd (A5' e) (Nat.not_lt.mpr h1)
  ·intro b q
   rcases q with q | rfl
   ·exact A2' (R.dom b q) hz
   ·exact h2
  ·intro b q
   rcases q with q | rfl
   ·exact R.mb b q
   ·exact .inl (A1' R.bs h1)
 show wpAny _ A (assign (.Name t tp) env acc) _ E s'
 refine aA (wpAny_assign_Name (ea1 R₁ rv fun s₂ k₂ R₂ hz₂ => ?_))
 refine ⟨m, hm.at' fun o => k₂.get fun hw => hC C (R.wf _ hw) rfl, fun h' hs => ?_⟩
 have kX : aq (fun b => b = C) s₂ { s₂ with heap := h' } := ⟨h', s₂.toks, rfl, fun b o q e => (hs.2 b q).trans e⟩
 have hz₃ : s₂.heap.objs.size ≤ h'.objs.size := by rw [hs.1]; exact A6' _
 refine ⟨A1' (A1' hz hz₂) hz₃, ?_, (R₂.growX kX (fun b hb => ⟨.inr hb, fun q => hC b q hb⟩) hz₃ (fun z q => q) (fun z q => .inl q) (R₂.dom.size hz₃) R₂.mb).shrink (fun b q => .inl q) R.fm⟩
 have k3 := (Kp.toW (W := W) k).trans k₂
 obtain ⟨h₁, t₁, e₁, kk₁⟩ := k3
 subst e₁
 refine ⟨h', t₁, rfl, fun b o q e => (hs.2 b ?_).trans (kk₁ b o q e)⟩
 exact A8' (A2' (A5' e) h1)
theorem pe {elt iter target : Expr} {ifs : List Expr} {scope : Scope} {pos : Pos} {xs ys : List V} (hc : cX ea scope = true) (ei : dP D n ea target iter xs) (hl : xs.length ≤ 100000) (ec : cT D n elt target ifs (cenvOf ea scope) xs ys) : Ev D n ea (.ListComp elt [⟨target, iter, ifs, 0⟩] scope pos) (.list ys) := by
 have ev : ∀ {M F W : Ap} {env : Env} {s : Shared} {A : Around} {E : Ee}, bb n A → Rel D M F W env ea s → wpAny (model D.prog D.w) A (eval (.ListComp elt [⟨target, iter, ifs, 0⟩] scope pos) env) (cz D M s (.list ys)) E s :=
  fun hA R => by rw [eval_ListComp]; exact eU hA R hc ei hl ec fun acc C s' hE => b5 hE
 refine ⟨⟨fun z z => rfl, fun z z => rfl, fun z => rfl, fun z z z z z => rfl, fun z z z => rfl⟩, ev, ub (fun z z => rfl) ev, fun {M F W env s A E y p sp ea'} hA R a => ?_⟩
 obtain ⟨b, hs⟩ : ∃ b, swapsWith (.ListComp elt [⟨target, iter, ifs, 0⟩] scope pos) (some (.Name y p)) sp.line env = (pure b : Sem Bool) := ⟨_, rfl⟩
 cases b with
 | false => exact wpAny_Assign_Name (au (ev hA R) fun z z g => aA (a (R.keeps g.2.1 g.1) g.2.2 fun z k R' hz => ⟨rfl, A1' g.1 hz, (Kp.toW g.2.1).trans k, R'⟩)) hs
 | true =>
  rw [exec_Assign_Name_used _ _ _ _ hs]
  refine Wb (wpAny_standAt (Wb ?_))
  show wpAny _ A (do let _ ← comprehension (.ListComp elt [⟨target, iter, ifs, 0⟩] scope pos) scope env _ (newList []) false (eval iter env) (some (assign (.Name y p) env))) _ E s
  exact Wb (au (eU hA R hc ei hl ec (Q := fun z s₂ => s.heap.objs.size ≤ s₂.heap.objs.size ∧ aq W s s₂ ∧ Rel D M F W env ea' s₂) fun acc C s' hE => lK R a hE) fun z z q => Wq (Wq ⟨rfl, q⟩))
theorem xo {kx vx iter target : Expr} {ifs : List Expr} {scope : Scope} {pos : Pos} {xs : List V} {ys : Lv} (hc : cX ea scope = true) (ei : dP D n ea target iter xs) (hl : xs.length ≤ 100000) (ec : d7 D n kx vx target ifs (cenvOf ea scope) [] xs ys) : Ev D n ea (.DictComp kx vx [⟨target, iter, ifs, 0⟩] scope pos) (.dict ys) := by
 have ev : ∀ {M F W : Ap} {env : Env} {s : Shared} {A : Around} {E : Ee}, bb n A → Rel D M F W env ea s → wpAny (model D.prog D.w) A (eval (.DictComp kx vx [⟨target, iter, ifs, 0⟩] scope pos) env) (cz D M s (.dict ys)) E s :=
  fun {_ _ _ env s A E} hA R => by
   show wpAny _ A (comprehension (.DictComp kx vx [⟨target, iter, ifs, 0⟩] scope pos) scope env _ newDict false (eval iter env)) _ E s
   exact eV hA R hc ei hl ec fun acc C s' hE => b5 hE
 refine ⟨⟨fun z z => rfl, fun z z => rfl, fun z => rfl, fun z z z z z => rfl, fun z z z => rfl⟩, ev, ub (fun z z => rfl) ev, fun {M F W env s A E y p sp ea'} hA R a => ?_⟩
 obtain ⟨b, hs⟩ : ∃ b, swapsWith (.DictComp kx vx [⟨target, iter, ifs, 0⟩] scope pos) (some (.Name y p)) sp.line env = (pure b : Sem Bool) := ⟨_, rfl⟩
 cases b with
 | false => exact wpAny_Assign_Name (au (ev hA R) fun z z g => aA (a (R.keeps g.2.1 g.1) g.2.2 fun z k R' hz => ⟨rfl, A1' g.1 hz, (Kp.toW g.2.1).trans k, R'⟩)) hs
 | true =>
  rw [exec_Assign_Name_used _ _ _ _ hs]
  refine Wb (wpAny_standAt (Wb ?_))
  show wpAny _ A (do let _ ← comprehension (.DictComp kx vx [⟨target, iter, ifs, 0⟩] scope pos) scope env _ newDict false (eval iter env) (some (assign (.Name y p) env))) _ E s
  exact Wb (au (eV hA R hc ei hl ec (Q := fun z s₂ => s.heap.objs.size ≤ s₂.heap.objs.size ∧ aq W s s₂ ∧ Rel D M F W env ea' s₂) fun acc C s' hE => lK R a hE) fun z z q => Wq (Wq ⟨rfl, q⟩))
end
end
section
abbrev Evr (D : Std) (n : Nat) := (ea : ao) → (e : Expr) → EvC D n ea e
structure Tab (D : Std) (n : Nat) where
 cf : (x : Str) → (xs : List V) → Option { r : V // rD D n x xs r }
 mf : (m : Str) → (x : V) → (xs : List V) → Option { r : V // nk D n m x xs r }
 mm : (m : Str) → (mv : MV) → (xs : List V) → Option { r : V // qM D n m mv xs r }
 md : (x : Str) → (xs : List V) → Option { r : V // Cw D n x xs r }
 sp : Evr D n
 it : Evr D n → (ea : ao) → (target e : Expr) → Option { xs : List V // dP D n ea target e xs }
section
variable {D : Std} {n : Nat}
noncomputable def yc (ea : ao) (c : Const) (k : Nat) (p : Pos) : EvC D n ea (.Constant c k p) := match c with
 | .none => some ⟨.none, aK fun {_ _ s _ _} => wpAny_Constant_none ⟨Kp.refl' s, .none⟩⟩
 | .bool _ => some ⟨_, aK (wpAny_Constant_bool (aB _))⟩
 | .int _ => some ⟨_, aK (wpAny_Constant_int (aP _ _ _))⟩
 | .float _ => some ⟨_, aK (PySem.wpAny_Constant_float (cJ _ _ _))⟩
 | .str _ => some ⟨_, aK (Constant_str (aW _ _ _))⟩
 | _ => none
noncomputable def DI (T : Tab D n) {ea : ao} {l r : Expr} {op : Operator} {p : Pos} (a : { x : V // Ev D n ea l x }) (b : { x : V // Ev D n ea r x }) : EvC D n ea (.BinOp l op r p) := match op, a, b with
 | .Mod, ⟨.str x, ha⟩, ⟨.tup xs, hb⟩ => match T.md x xs with
  | some c => some ⟨c.1, AX ha hb c.2⟩
  | none => none
 | op, a, b => match CQ D.prog D.w op a.1 b.1 with
  | some c => some ⟨c.1, eh a.2 b.2 c.2⟩
  | none => none
noncomputable def vS (r : Evr D n) (ea : ao) (op : BoolOp) (p : Pos) : (es : List Expr) → EvC D n ea (.BoolOp op es p)
 | [] => none
 | [e] => match r ea e with
  | some a => some ⟨a.1, gU a.2⟩
  | none => none
 | e :: e₂ :: t => match r ea e with
  | none => none
  | some a => match yw D a.1, op with
   | some ⟨true, h⟩, .And => match vS r ea .And p (e₂ :: t) with
    | some b => some ⟨b.1, w3 a.2 h rfl b.2⟩
    | none => none
   | some ⟨false, h⟩, .And => some ⟨a.1, ju a.2 h rfl⟩
   | some ⟨false, h⟩, .Or => match vS r ea .Or p (e₂ :: t) with
    | some b => some ⟨b.1, w3 a.2 h rfl b.2⟩
    | none => none
   | some ⟨true, h⟩, .Or => some ⟨a.1, ju a.2 h rfl⟩
   | none, _ => none
noncomputable def vY (r : Evr D n) (ea : ao) : (o : Option Expr) → Option { p : Option Int // gO D n ea o p }
 | none => some ⟨none, fZ⟩
 | some e => match r ea e with
  | some ⟨.int i, h⟩ => some ⟨some i, d8 h⟩
  | _ => none
noncomputable def sj (r : Evr D n) (ea : ao) : (ifs : List Expr) → Option { b : Bool // cb D n ea ifs b }
 | [] => some ⟨true, aE⟩
 | [e] => match r ea e with
  | some a => match yw D a.1 with
   | some b => some ⟨b.1, aY a.2 b.2⟩
   | none => none
  | none => none
 | _ => none
noncomputable def nQ (r : Evr D n) (elt target : Expr) (ifs : List Expr) : (ea : ao) → (xs : List V) → Option { ys : List V // cT D n elt target ifs ea xs ys }
 | _, [] => some ⟨[], .nil⟩
 | ea, x :: xs => match asg D ea target x with
  | none => none
  | some e1 => match sj r e1.1 ifs with
   | none => none
   | some ⟨false, ht⟩ => match nQ r elt target ifs e1.1 xs with
    | some ys => some ⟨ys.1, .skip e1.2 ht ys.2⟩
    | none => none
   | some ⟨true, ht⟩ => match r e1.1 elt with
    | none => none
    | some v => match nQ r elt target ifs e1.1 xs with
     | some ys => some ⟨v.1 :: ys.1, .take e1.2 ht v.2 ys.2⟩
     | none => none
noncomputable def nG (r : Evr D n) (kx vx target : Expr) (ifs : List Expr) : (ea : ao) → (acc : Lv) → (xs : List V) → Option { ys : Lv // d7 D n kx vx target ifs ea acc xs ys }
 | _, acc, [] => some ⟨acc, .nil⟩
 | ea, acc, x :: xs => match asg D ea target x with
  | none => none
  | some e1 => match sj r e1.1 ifs with
   | none => none
   | some ⟨false, ht⟩ => match nG r kx vx target ifs e1.1 acc xs with
    | some ys => some ⟨ys.1, .skip e1.2 ht ys.2⟩
    | none => none
   | some ⟨true, ht⟩ => match r e1.1 kx with
    | some ⟨.str k, hk⟩ => match r e1.1 vx with
     | none => none
     | some v => match nG r kx vx target ifs e1.1 (bL acc k v.1) xs with
      | some ys => some ⟨ys.1, .take e1.2 ht hk v.2 ys.2⟩
      | none => none
    | _ => none
noncomputable def itC (T : Tab D n) (r : Evr D n) (ea : ao) (target e : Expr) : Option { xs : List V // dP D n ea target e xs } := match T.it r ea target e with
 | some xs => some xs
 | none => match r ea e with
  | none => none
  | some v => match i : fA v.1 with
   | some xs => some ⟨xs, dI v.2 i⟩
   | none => none
noncomputable def BP (T : Tab D n) (r : Evr D n) (ea : ao) (f : Expr) (args : List Expr) (pos : Pos) : EvC D n ea (.Call f args [] pos) := match f with
 | .Name x _ => match args with
  | [] => none
  | a :: as => match q1 : lk ea.names x with
   | some .globalImplicit => match q2 : sq x "__debug__" with
    | true => none
    | false => match q3 : D.gl x with
     | none => none
     | some _ => match evs (r ea) (a :: as) with
      | none => none
      | some vs => match T.cf x vs.1 with
       | some c => some ⟨c.1, ct q1 q2 q3 vs.2 c.2⟩
       | none => none
   | _ => none
 | .Attribute o m apos => match hl : (apos.endLine == pos.line) with
  | false => none
  | true => if hf : args.length < 20 then match evs (r ea) args with
   | none => none
   | some vs => match o with
    | .Name y yp => match e : lk ea.mo y with
     | some mv => match q2 : sq y "__debug__" with
      | true => none
      | false => match T.mm m mv vs.1 with
       | some c => some ⟨c.1, bx q2 e hl hf vs.2 c.2⟩
       | none => none
     | none => match r ea (.Name y yp) with
      | some v => match T.mf m v.1 vs.1 with
       | some c => some ⟨c.1, br v.2 hl hf vs.2 c.2⟩
       | none => none
      | none => none
    | o => match r ea o with
     | some v => match T.mf m v.1 vs.1 with
      | some c => some ⟨c.1, br v.2 hl hf vs.2 c.2⟩
      | none => none
     | none => none
   else none
 | _ => none
noncomputable def AZ (T : Tab D n) (r : Evr D n) (ea : ao) (e : Expr) : EvC D n ea e := match e with
 | .Constant c k p => yc ea c k p
 | .Name x _ => match hx : sq x "__debug__" with
  | true => none
  | false => match yq D ea x with
   | some v => some ⟨v.1, jj hx v.2⟩
   | none => none
 | .BinOp l _ rr _ => match r ea l, r ea rr with
  | some a, some b => DI T a b
  | _, _ => none
 | .Compare l [op] [rr] _ => match r ea l, r ea rr with
  | some a, some b => match Bt D.prog D.w op a.1 b.1 with
   | some c => some ⟨_, bo a.2 b.2 c.2⟩
   | none => none
  | _, _ => none
 | .BoolOp op vs p => vS r ea op p vs
 | .UnaryOp .USub x _ => match r ea x with
  | some ⟨.int _, h⟩ => some ⟨_, AR h⟩
  | _ => none
 | .UnaryOp .Not x _ => match r ea x with
  | some a => match yw D a.1 with
   | some b => some ⟨_, AM a.2 b.2⟩
   | none => none
  | none => none
 | .IfExp t b o _ => match r ea t with
  | some a => match yw D a.1 with
   | some c => match r ea (if c.1 = true then b else o) with
    | some y => some ⟨y.1, qY a.2 c.2 y.2⟩
    | none => none
   | none => none
  | none => none
 | .Tuple es _ _ => if hf : es.length ≤ 1000 then match evs (r ea) es with
  | some vs => some ⟨_, mO hf vs.2⟩
  | none => none
  else none
 | .List es _ => if hf : es.length ≤ 1000 then match evs (r ea) es with
  | some vs => some ⟨_, eW hf vs.2⟩
  | none => none
  else none
 | .Subscript v (.Slice lo hi st _) _ => match r ea v, vY r ea lo, vY r ea hi, vY r ea st with
  | some a, some l, some h, some t => match Dj D a.1 l.1 h.1 t.1 with
   | some c => some ⟨c.1, uj a.2 l.2 h.2 t.2 c.2⟩
   | none => none
  | _, _, _, _ => none
 | .Subscript v i _ => match r ea v, r ea i with
  | some a, some b => match DN D a.1 b.1 with
   | some c => some ⟨c.1, d6 a.2 b.2 c.2⟩
   | none => none
  | _, _ => none
 | .Call f args [] pos => BP T r ea f args pos
 | .ListComp elt [⟨target, it, ifs, 0⟩] scope _ => match hc : cX ea scope with
  | false => none
  | true => match itC T r ea target it with
   | none => none
   | some xs => if hl : xs.1.length ≤ 100000 then match nQ r elt target ifs (cenvOf ea scope) xs.1 with
    | some ys => some ⟨_, pe hc xs.2 hl ys.2⟩
    | none => none
    else none
 | .DictComp kx vx [⟨target, it, ifs, 0⟩] scope _ => match hc : cX ea scope with
  | false => none
  | true => match itC T r ea target it with
   | none => none
   | some xs => if hl : xs.1.length ≤ 100000 then match nG r kx vx target ifs (cenvOf ea scope) [] xs.1 with
    | some ys => some ⟨_, xo hc xs.2 hl ys.2⟩
    | none => none
    else none
 | _ => none
noncomputable def AO (T : Tab D n) (r : Evr D n) : Evr D n := fun ea e => match AZ T r ea e with
 | some x => some x
 | none => T.sp ea e
noncomputable def evD (T : Tab D n) : Nat → Evr D n
 | 0 => fun z z => none
 | k + 1 => AO T (evD T k)
end
end
section
inductive Out where
 | next (ea : ao)
 | ret (ea : ao) (v : V)
noncomputable def pO (D : Std) (M F W : Ap) (env : Env) (s : Shared) : Out → Flow → Shared → Prop
 | .next ea => Nx D M F W env s ea
 | .ret ea v => fun f s' => s.heap.objs.size ≤ s'.heap.objs.size ∧ aq W s s' ∧ Rel D M F W env ea s' ∧ ∃ u, f = .ret u ∧ VR D.prog D.w M s'.heap u v
noncomputable def eQ (D : Std) (n : Nat) (ea : ao) (st : Stmt) (o : Out) : Prop := ∀ ⦃M F W : Ap⦄ ⦃env : Env⦄ ⦃s : Shared⦄ ⦃A : Around⦄ ⦃E : Ee⦄, bb n A → Rel D M F W env ea s → wpAny (model D.prog D.w) A (exec st env) (pO D M F W env s o) E s
noncomputable def dF (D : Std) (n : Nat) (ea : ao) (b : List Stmt) (o : Out) : Prop := ∀ ⦃M F W : Ap⦄ ⦃env : Env⦄ ⦃s : Shared⦄ ⦃A : Around⦄ ⦃E : Ee⦄, bb n A → Rel D M F W env ea s → wpAny (model D.prog D.w) A (execs b env) (pO D M F W env s o) E s
inductive pN (D : Std) (target : Expr) (P : ao → Out → Prop) : ao → List V → Out → Prop
 | nil {ea} : pN D target P ea [] (.next ea)
 | next {ea e1 e2 x xs o} : bw D ea target x e1 → P e1 (.next e2) → pN D target P e2 xs o → pN D target P ea (x :: xs) o
 | ret {ea e1 e2 x xs v} : bw D ea target x e1 → P e1 (.ret e2 v) → pN D target P ea (x :: xs) (.ret e2 v)
abbrev im (D : Std) (n : Nat) (target : Expr) (body : List Stmt) := pN D target fun ea o => dF D n ea body o
noncomputable def BlF (D : Std) (n : Nat) (ea : ao) (b : List Stmt) (o : Out) : Prop := ∀ {M F W : Ap} {env : Env} {s : Shared} {A : Around} {E : Ee}, bb n A → A.frames = some [env] → env.frame = some env.locals → Rel D M F W env ea s → wpAny (model D.prog D.w) A (execs b env) (pO D M F W env s o) E s
noncomputable def StF (D : Std) (n : Nat) (ea : ao) (st : Stmt) (o : Out) : Prop := ∀ {M F W : Ap} {env : Env} {s : Shared} {A : Around} {E : Ee}, bb n A → A.frames = some [env] → env.frame = some env.locals → Rel D M F W env ea s → wpAny (model D.prog D.w) A (exec st env) (pO D M F W env s o) E s
section
variable {D : Std} {n : Nat} {M F W : Ap} {env : Env} {ea ea' e1 : ao} {s s' : Shared} {A : Around} {E : Ee}
theorem pO.then {s₁ : Shared} {o : Out} {f : Flow} (k : aq W s s₁) (hz : s.heap.objs.size ≤ s₁.heap.objs.size) (g : pO D M F W env s₁ o f s') : pO D M F W env s o f s' := by
 cases o with
 | next ea => exact ⟨g.1, A1' hz g.2.1, k.trans g.2.2.1, g.2.2.2⟩
 | ret ea v => exact ⟨A1' hz g.1, k.trans g.2.1, g.2.2⟩
theorem cY : dF D n ea [] (.next ea) := fun {_ _ _ _ s _ _} _ R => wpAny_execs_nil ⟨rfl, A6' _, aq.refl s, R⟩
theorem a7 {st : Stmt} {b : List Stmt} {o : Out} (h : eQ D n ea st (.next e1)) (hb : dF D n e1 b o) : dF D n ea (st :: b) o := fun z z z z z z z hA R =>
 B2' (au (h hA R) fun f s₁ g => by
  obtain ⟨rfl, hz, k, R₁⟩ := g
  exact au (hb hA R₁) fun z z g₂ => g₂.then k hz)
theorem bR {st : Stmt} {b : List Stmt} {v : V} (h : eQ D n ea st (.ret e1 v)) : dF D n ea (st :: b) (.ret e1 v) := fun z z z z z z z hA R =>
 B2' (au (h hA R) fun f s₁ g => by
  obtain ⟨g1, g2, g3, u, rfl, g4⟩ := g
  exact ⟨g1, g2, g3, u, rfl, g4⟩)
theorem bA {x : Str} {p pos : Pos} {value : Expr} {v : V} (h : Ev D n ea value v) (a : dG D ea x v e1) : eQ D n ea (.Assign [.Name x p] value pos) (.next e1) := fun z z z z z z z hA R => h.nm hA R a
noncomputable def o9 : Expr → Bool
 | .Tuple _ _ _ => false
 | _ => true
theorem jI {value : Expr} (h : o9 value = true) (es : List Expr) (k : Nat) (p : Pos) (line : Nat) (env : Env) : swapsWithSole [.Tuple es k p] value line env = pure false ∧ swappedStores [.Tuple es k p] value env = pure none := by
 cases value <;> first | exact ⟨rfl, rfl⟩ | cases h
theorem w7 {es : List Expr} {k : Nat} {p pos : Pos} {value : Expr} {v : V} (h : Ev D n ea value v) (hp : o9 value = true) (a : bw D ea (.Tuple es k p) v e1) : eQ D n ea (.Assign [.Tuple es k p] value pos) (.next e1) := fun {_ _ _ env _ _ _} hA R =>
 Assign_Tuple (au (h.ev hA R) fun u s₁ g => aA (a hA.handled (R.keeps g.2.1 g.1) (.val g.2.2) fun s₂ k₂ R₂ hz₂ => ⟨rfl, A1' g.1 hz₂, (Kp.toW g.2.1).trans k₂, R₂⟩)) (jI hp _ _ _ _ env).1 (jI hp _ _ _ 0 env).2
theorem nD {x : Str} {p pos : Pos} {value : Expr} {v : V} (h : FxE D n ea value e1 v) (a : dG D e1 x v ea') : eQ D n ea (.Assign [.Name x p] value pos) (.next ea') := fun z z z z z z z hA R =>
 wpAny_Assign_Name (au (h.ev hA R) fun z z g => aA (a g.2.2.1 g.2.2.2 fun z k R' hz => ⟨rfl, A1' g.1 hz, g.2.1.trans k, R'⟩)) (h.swN _ _ _ _)
theorem sE {es : List Expr} {k : Nat} {p pos : Pos} {value : Expr} {v : V} (h : FxE D n ea value e1 v) (a : bw D e1 (.Tuple es k p) v ea') : eQ D n ea (.Assign [.Tuple es k p] value pos) (.next ea') := fun {_ _ _ env _ _ _} hA R =>
 Assign_Tuple (au (h.ev hA R) fun u s₁ g => aA (a hA.handled g.2.2.1 (.val g.2.2.2) fun s₂ k₂ R₂ hz₂ => ⟨rfl, A1' g.1 hz₂, g.2.1.trans k₂, R₂⟩)) (h.swT _ _ _ _ env).1 (h.swT es k p 0 env).2
theorem hV {pos : Pos} {value : Expr} {v : V} (h : FxE D n ea value e1 v) : eQ D n ea (.Expr value pos) (.next e1) := fun {_ _ _ env _ _ _} hA R =>
 wpAny_Expr_any (au (h.ev hA R) fun z z g => ⟨rfl, g.1, g.2.1, g.2.2.1⟩) (by unfold interactive; rw [R.fn]; rfl) (h.swE _ env)
theorem dm {e : Expr} {p : Pos} {v : V} (h : Ev D n ea e v) : eQ D n ea (.Return (some e) p) (.ret ea v) := fun z z z z z z z hA R =>
 wpAny_Return_some (au (h.ev hA R) fun u s₁ g => ⟨g.1, Kp.toW g.2.1, R.keeps g.2.1 g.1, u, rfl, g.2.2⟩)
theorem fi {t : Expr} {b o : List Stmt} {p : Pos} {v : V} {c : Bool} {r : Out} (h : Ev D n ea t v) (hc : dT D v c) (hb : dF D n ea (if c = true then b else o) r) : eQ D n ea (.If t b o p) r := fun {_ _ _ _ _ _ E} hA R =>
 wpAny_If (au (h.tr hA R hc) fun c' s₁ g => by
  obtain ⟨rfl, hz, k⟩ := g
  have := au (hb (E := E) hA (R.keeps k hz)) fun z z g₂ => g₂.then (Kp.toW k) hz
  cases c' <;> exact this)
set_option tactic.hygienic true in
theorem se {y : Str} {yp p pos : Pos} {i value : Expr} {kvs : Lv} {k : Str} {v : V} (hmw : ea.mw = true) (hy : sq y "__debug__" = false) (hmo : lk ea.mo y = some (.dic kvs)) (hv : Ev D n ea value v) (hi : Ev D n ea i (.str k)) (hl : kvs.length ≤ 10000) :
  eQ D n ea (.Assign [.Subscript (.Name y yp) i p] value pos) (.next { ea with mo := [(y, .dic (bL kvs k v))] }) := fun {M F W env s _ _} hA R => by
 refine wpAny_Assign_Subscript (au (hv.ev hA R) fun u s₁ g => ?_) (hv.pl.swS _ _ _ _ _)
 obtain ⟨hz, k1, ru⟩ := g
 have R₁ := R.keeps k1 hz
 refine wpAny_Name ?_ (by simpa using aJ hy)
 refine au (bJ R₁ hmo) fun ov s₂ q => ?_
 obtain ⟨rfl, a, l, rfl, ne, hF, hw, mobj, hh⟩ := q
 refine au (hi.ev hA R₁) fun iv s₃ g => ?_
 obtain ⟨hz₃, k₃, ri⟩ := g
 have R₃ := R₁.keeps k₃ hz₃
 obtain ⟨tk, rfl⟩ := ri.str_inv
 have mobj₃ := mobj.keep (X := fun z => False) (fun b q => q.elim) (fun q => q) (Kp.toW k₃)
 have hh₃ := hh.keeps k₃
 cases mobj₃ with | dic hd hm rd =>
 rename_i kv0
 have hlen : kv0.length ≤ sizeLine := by
  have h1 := rd.length
  rw [aX]; lia
 refine aA (wpAny_setItem_pairs (knd := PySem.strKind D.prog D.w) (k := k) (PySem.strKind_is _ _ _ _) hd (fun h' hd' hs hz₄ => ?_) hlen)
 have kX : aq (fun b => b = a) s₃ { s₃ with heap := h', toks := s₃.toks + 1 } := ⟨h', _, rfl, fun b o q e => (hs.2 b q).trans e⟩
 have kM : ∀ b o, ¬ M b → s₃.heap.get? b = some o → h'.get? b = some o := fun b o q e => kX.get (fun hb => q (hb ▸ R.fm _ hF)) e
 have R₄ := R₃.mutate hh₃ ne hF hw (.dic hd hm rd) kX hz₄ (.dic hd' hm (eN (DictOf.nodup hd) (rd.mono' kM) ((ru.keeps fun b o e => Kp.get k₃ e).mono kM fun z q => .inl q)))
 exact ⟨rfl, A1' (A1' hz hz₃) hz₄, ((Kp.toW (Kp.trans' k1 k₃)).trans (kX.sub fun b hb => hb ▸ hw.1 hmw)), R₄⟩
end
inductive DJ (D : Std) (P0 : ao → Out → Prop) (M F W : Ap) (env : Env) (target : Expr) (s₁ : Shared) (St : Nat → Heap → Prop) (xs : List V) (out : Out) (q : Nat) (s' : Shared) : Prop
 | mk (i : Nat) (ea' : ao) (hq : q = xs.length - i) (hi : i ≤ xs.length) (ec : pN D target P0 ea' (xs.drop i) out) (R : Rel D M F W env ea' s') (ks : aq (fun b => W b ∨ s₁.heap.objs.size ≤ b) s₁ s') (st : St i s'.heap) (hz : s₁.heap.objs.size ≤ s'.heap.objs.size)
section
variable {D : Std} {n : Nat} {M F W : Ap} {env : Env} {ea ea' e1 : ao} {s s' : Shared} {A : Around} {E : Ee}
theorem nU (hA : bb n A) {s₁ : Shared} {target : Expr} {I : Addr} {s₂ : Shared} {xs : List V} {fp wr : List Addr} {P Md : Nat → Value → Heap → Prop} {St : Nat → Heap → Prop} {M₀ W₀ : Ap}
  (T : ItK D M₀ W₀ A target s₁.heap I s₂ xs fp wr P Md St) (hM0 : ∀ b, M b → M₀ b ∨ s₁.heap.get? b = none)
  (hfp : ∀ b ∈ fp, ¬ W b) (hwr : ∀ b ∈ wr, M b ∧ ¬ F b) (hWM : ∀ b, W b → M₀ b)
  {P0 : ao → Out → Prop} {body : List Stmt} (hP0 : ∀ {ea o}, P0 ea o → ∀ {s : Shared} {E : Ee}, Rel D M F W env ea s → wpAny (model D.prog D.w) A (execs body env) (pO D M F W env s o) E s) {RR : Result → Shared → Prop} {out : Out}
  (hR : ∀ f s', s₁.heap.objs.size ≤ s'.heap.objs.size → aq (fun b => W b ∨ s₁.heap.objs.size ≤ b) s₁ s' → (match out with
   | .next ea' => f = .next ∧ Rel D M F W env ea' s'
   | .ret ea' v => Rel D M F W env ea' s' ∧ ∃ u, f = .ret u ∧ VR D.prog D.w M s'.heap u v) → RR (.ok f) s')
  (R : Rel D M F W env ea s) (ks : aq (fun b => W b ∨ s₁.heap.objs.size ≤ b) s₁ s) (st : St 0 s.heap) (hz0 : s₁.heap.objs.size ≤ s.heap.objs.size) (e : pN D target P0 ea xs out) :
  codeAny (model D.prog D.w) A (.forLoop target (.ref I) body [] env) RR s := by
 obtain ⟨Inv, hv⟩ : ∃ J : Nat → Shared → Prop, ∀ q s', DJ D P0 M F W env target s₁ St xs out q s' ↔ J q s' := ⟨_, fun z z => .rfl⟩
 refine codeAny_forLoop_any Inv ?_ xs.length ((hv _ _).mp (.mk 0 ea rfl (A9' _) e R ks st hz0))
 intro q s' hq
 obtain ⟨i, ea', rfl, hi, ec, R', ks', st', hzz⟩ := (hv _ _).mpr hq
 have wrk : ∀ b, b ∈ wr → W b ∨ s₁.heap.objs.size ≤ b := fun b hb => .inr (T.wrN b hb)
 refine jO hA T hM0 hfp hwr hWM hi R' ks' st' (A9' _) (fun hd s'' k hz z => ?_) fun y hd hlt => ?_
 ·rw [hd] at ec
  cases ec
  exact wpAny_execs_nil (hR _ _ (A1' hzz hz) (ks'.trans (k.sub wrk)) ⟨rfl, R'.growX k hwr hz (fun z q => q) (fun z q => .inl q) (R'.dom.size hz) R'.mb⟩)
 ·rw [hd] at ec
  cases ec with
  | next ha hb hl =>
   refine ⟨_, ha, fun s₃ k₃ hz₃ z R₃ st₃ => au (hP0 hb R₃) fun f s₄ g => ?_⟩
   obtain ⟨rfl, hz, k₄, R₄⟩ := g
   exact ⟨_, Nat.sub_succ_lt_self _ _ hlt, (hv _ _).mp <| .mk (i + 1) _ rfl hlt hl R₄ ((ks'.trans (k₃.sub fun b q => q.elim (wrk b) .inl)).trans (k₄.sub fun b q => .inl q)) (T.T.frame _ _ _ st₃ fun b hb o e => k₄.get (hfp b hb) e) (A1' (A1' hzz hz₃) hz)⟩
  | ret ha hb =>
   refine ⟨_, ha, fun s₃ k₃ hz₃ z R₃ st₃ => au (hP0 hb R₃) fun f s₄ g => ?_⟩
   obtain ⟨hz, k₄, hSt, u, rfl, rv⟩ := g
   exact hR _ _ (A1' (A1' hzz hz₃) hz) ((ks'.trans (k₃.sub fun b q => q.elim (wrk b) .inl)).trans (k₄.sub fun b q => .inl q)) ⟨hSt, u, rfl, rv⟩
theorem oV {P0 : ao → Out → Prop} {target it : Expr} {body : List Stmt} {pos : Pos} {xs : List V} {out : Out} (ei : dP D n ea target it xs) (hA : bb n A) (hP0 : ∀ {ea o}, P0 ea o → ∀ {M F W : Ap} {s : Shared} {E : Ee}, Rel D M F W env ea s → wpAny (model D.prog D.w) A (execs body env) (pO D M F W env s o) E s) (e : pN D target P0 ea xs out) (R : Rel D M F W env ea s) : wpAny (model D.prog D.w) A (exec (.For target it body [] pos) env) (pO D M F W env s out) E s := by
 refine wpAny_For (au (ei.2 hA R) fun x s₀ h₀ => au h₀ fun iv s₂ hI => ?_) (ei.1 env)
 obtain ⟨I, fp, wr, P, Md, St, s₁, rfl, hsz₁, k₁, hsz₂, k₂, T⟩ := hI
 have R₁ := R.keeps k₁ hsz₁
 have hd0 : ∀ b, M b → @LT.lt Nat _ b s₁.heap.objs.size := R₁.dom
 have hM2 : ∀ b, (M b ∨ (s₁.heap.objs.size ≤ b ∧ b < s₂.heap.objs.size)) → M b ∨ s₁.heap.get? b = none := fun b q => by
  rcases q with q | q
  ·exact .inl q
  ·right
   cases e : s₁.heap.get? b with
   | none => rfl
   | some o => exact absurd (A5' e) (Nat.not_lt.mpr q.1)
 have R₂ : Rel D (fun b => M b ∨ (s₁.heap.objs.size ≤ b ∧ b < s₂.heap.objs.size)) F W env ea s₂ := by
  refine R₁.growX (X := fun z => False) (Kp.toW k₂) (fun b q => q.elim) hsz₂ (fun b q => .inl q) hM2 ?_ ?_
  ·intro b q
   rcases q with q | q
   ·exact A2' (hd0 b q) hsz₂
   ·exact q.2
  ·intro b q
   rcases q with q | q
   ·exact R₁.mb b q
   ·exact .inl (A1' R₁.bs q.1)
 refine nU hA (s₁ := s₁) (P0 := P0) T hM2 ?_ ?_ (fun b q => R.wm b q) (out := out) (fun h => hP0 h) ?_ R₂ (Kp.toW k₂) T.st hsz₂ e
 ·intro b hb q
  rcases T.fpI b hb with h | h
  ·have h1 : @LE.le Nat _ s₁.heap.objs.size b := T.wrN b h
   have h2 := hd0 b (R.wm b q)
   exact Nat.not_le_of_lt ‹_› ‹_›
  ·exact h q
 ·intro b hb
  have h1 : @LE.le Nat _ s₁.heap.objs.size b := T.wrN b hb
  refine ⟨.inr ⟨h1, T.fpS b (T.T.sub b hb)⟩, fun q => ?_⟩
  have h2 := hd0 b (R.fm b q)
  exact Nat.not_le_of_lt ‹_› ‹_›
 ·intro f s' hz' k' ho
  have kk : aq W s s' := by
   have k3 : aq (fun b => W b ∨ s₁.heap.objs.size ≤ b) s s' := (Kp.toW k₁).trans k'
   obtain ⟨h', t, rfl, kk⟩ := k3
   refine ⟨h', t, rfl, fun b o q e => kk b o (fun x => ?_) e⟩
   rcases x with x | x
   ·exact q x
   ·exact A7' _ (A2' (A5' e) (A1' hsz₁ x))
  cases out with
  | next ea' =>
   obtain ⟨rfl, R'⟩ := ho
   exact ⟨rfl, A1' hsz₁ hz', kk, R'.shrink (fun b q => .inl q) R.fm⟩
  | ret ea' v =>
   obtain ⟨R', u, rfl, rv⟩ := ho
   exact ⟨A1' hsz₁ hz', kk, R'.shrink (fun b q => .inl q) R.fm, u, rfl, rv.mono (fun z z z e => e) fun b q => .inl (.inl q)⟩
theorem fT {target it : Expr} {body : List Stmt} {pos : Pos} {xs : List V} {out : Out} (ei : dP D n ea target it xs) (e : im D n target body ea xs out) : eQ D n ea (.For target it body [] pos) out := fun z z z z z z z hA R =>
 oV ei hA (fun h => h hA) e R
theorem rk {st : Stmt} {b : List Stmt} {o : Out} (h : StF D n ea st (.next e1)) (hb : BlF D n e1 b o) : BlF D n ea (st :: b) o := fun hA h1 h2 R =>
 B2' (au (h hA h1 h2 R) fun f s₁ g => by
  obtain ⟨rfl, hz, k, R₁⟩ := g
  exact au (hb hA h1 h2 R₁) fun z z g₂ => g₂.then k hz)
theorem vV {target it : Expr} {body : List Stmt} {pos : Pos} {xs : List V} {out : Out} (ei : dP D n ea target it xs) (e : pN D target (fun ea o => BlF D n ea body o) ea xs out) : StF D n ea (.For target it body [] pos) out := fun hA h1 h2 R =>
 oV ei hA (fun h => h hA h1 h2) e R
end
section
variable {D : Std} {n : Nat}
structure Fx (D : Std) (n : Nat) where
 ms : (m : Str) → (mv : MV) → (xs : List V) → Option { p : MV × V // rB D n m mv xs p.1 p.2 }
 sp : Evr D n → (ea : ao) → (e : Expr) → Option { p : ao × V // FxE D n ea e p.1 p.2 }
 st : Evr D n → ((ea : ao) → (b : List Stmt) → Option { o : Out // dF D n ea b o }) → (ea : ao) → (s : Stmt) → Option { o : Out // eQ D n ea s o }
abbrev Exr (D : Std) (n : Nat) := (ea : ao) → (b : List Stmt) → Option { o : Out // dF D n ea b o }
noncomputable def fxE (X : Fx D n) (r : Evr D n) (ea : ao) (e : Expr) : Option { p : ao × V // FxE D n ea e p.1 p.2 } := match e with
 | .Call (.Attribute (.Name y yp) m apos) args [] pos => match h1 : ea.mw, h2 : sq y "__debug__", h3 : (apos.endLine == pos.line), h4 : lk ea.mo y with
  | true, false, true, some mv => if hf : args.length < 20 then match evs (r ea) args with
   | some vs => match X.ms m mv vs.1 with
    | some c => some ⟨(_, c.1.2), dU h1 h2 h4 h3 hf vs.2 c.2⟩
    | none => none
   | none => none
   else none
  | _, _, _, _ => none
 | e => X.sp r ea e
noncomputable def Cr (rs : Exr D n) (target : Expr) (body : List Stmt) : (ea : ao) → (xs : List V) → Option { o : Out // im D n target body ea xs o }
 | ea, [] => some ⟨.next ea, .nil⟩
 | ea, x :: xs => match asg D ea target x with
  | none => none
  | some e1 => match rs e1.1 body with
   | some ⟨.next e2, hb⟩ => match Cr rs target body e2 xs with
    | some o => some ⟨o.1, .next e1.2 hb o.2⟩
    | none => none
   | some ⟨.ret e2 v, hb⟩ => some ⟨.ret e2 v, .ret e1.2 hb⟩
   | none => none
noncomputable def Eb (X : Fx D n) (r : Evr D n) (ea : ao) (t value : Expr) (pos : Pos) : Option { o : Out // eQ D n ea (.Assign [t] value pos) o } := match t with
 | .Name x _ => match r ea value with
  | some v => match vC D ea x v.1 with
   | some e1 => some ⟨.next e1.1, bA v.2 e1.2⟩
   | none => none
  | none => match fxE X r ea value with
   | some v => match vC D v.1.1 x v.1.2 with
    | some e1 => some ⟨.next e1.1, nD v.2 e1.2⟩
    | none => none
   | none => none
 | .Tuple es k p => match r ea value with
  | some v => match hp : o9 value with
   | true => match asg D ea (.Tuple es k p) v.1 with
    | some e1 => some ⟨.next e1.1, w7 v.2 hp e1.2⟩
    | none => none
   | false => none
  | none => match fxE X r ea value with
   | some v => match asg D v.1.1 (.Tuple es k p) v.1.2 with
    | some e1 => some ⟨.next e1.1, sE v.2 e1.2⟩
    | none => none
   | none => none
 | .Subscript (.Name y _) i _ => match h1 : ea.mw, h2 : sq y "__debug__", h3 : lk ea.mo y with
  | true, false, some (.dic kvs) => match r ea value, r ea i with
   | some v, some ⟨.str k, hk⟩ => if hl : kvs.length ≤ 10000 then some ⟨_, se h1 h2 h3 v.2 hk hl⟩ else none
   | _, _ => none
  | _, _, _ => none
 | _ => none
noncomputable def stC (T : Tab D n) (X : Fx D n) (r : Evr D n) (rs : Exr D n) (ea : ao) (s : Stmt) : Option { o : Out // eQ D n ea s o } := match s with
 | .Assign [t] value pos => Eb X r ea t value pos
 | .If t b o _ => match r ea t with
  | some v => match yw D v.1 with
   | some c => match rs ea (if c.1 = true then b else o) with
    | some q => some ⟨q.1, fi v.2 c.2 q.2⟩
    | none => none
   | none => none
  | none => none
 | .Return (some e) _ => match r ea e with
  | some v => some ⟨_, dm v.2⟩
  | none => none
 | .For target it body [] _ => match itC T r ea target it with
  | some xs => match Cr rs target body ea xs.1 with
   | some o => some ⟨o.1, fT xs.2 o.2⟩
   | none => none
  | none => none
 | .Expr e _ => match fxE X r ea e with
  | some v => some ⟨_, hV v.2⟩
  | none => none
 | _ => none
noncomputable def m4 (T : Tab D n) (X : Fx D n) (r : Evr D n) (rs : Exr D n) (ea : ao) (s : Stmt) : Option { o : Out // eQ D n ea s o } := match stC T X r rs ea s with
 | some o => some o
 | none => X.st r rs ea s
noncomputable def ss (st : (ea : ao) → (s : Stmt) → Option { o : Out // eQ D n ea s o }) : (ea : ao) → (b : List Stmt) → Option { o : Out // dF D n ea b o }
 | ea, [] => some ⟨.next ea, cY⟩
 | ea, x :: b => match st ea x with
  | some ⟨.next e1, h⟩ => match ss st e1 b with
   | some o => some ⟨o.1, a7 h o.2⟩
   | none => none
  | some ⟨.ret e1 v, h⟩ => some ⟨.ret e1 v, bR h⟩
  | none => none
noncomputable def exD (T : Tab D n) (X : Fx D n) (ke : Nat) : Nat → Exr D n
 | 0 => fun z z => none
 | k + 1 => ss (m4 T X (evD T ke) (exD T X ke k))
end
end
section
structure dW (D : Std) (a : Addr) (fd : FuncData) (body : List Stmt) : Prop where
 «at» : ∀ h, D.St h → ∃ o, h.get? a = some o ∧ o.data = .func fd
 lim : ∀ h, D.St h → h.NoLimit
 code : ∀ h, D.St h → h.CodeRec fd.code fd.qualname
 body : fd.body = .stmts body
 clo : fd.closure = []
 glob : fd.globals = mainGlobals
 blt : fd.builtins = builtinsNs
 fn : fd.scope.kind = .function
 nc : fd.scope.isCoroutine = false
 ng : fd.scope.isGenerator = false
 nd : e7 fd.scope.names = true
 tb : D.tab < D.base
noncomputable def ue (A A₂ : Around) (env : Env) (c : Value) : Prop := (∀ l, A.frames = some l → A₂.frames = some (env :: l)) ∧ env.frame = some env.locals ∧ env.code = c
noncomputable def baseE (names : List (Str × NameKind)) : ao := { names, loc := [], cel := [], mo := [], cw := wo names, mw := true, tw := false }
inductive c9 (D : Std) : ao → Lv → ao → Prop
 | nil {ea} : c9 D ea [] ea
 | cons {ea e1 ea' x v r} : dG D ea x v e1 → c9 D e1 r ea' → c9 D ea ((x, v) :: r) ea'
noncomputable def yT (D : Std) : (ea : ao) → (l : Lv) → Option { ea' : ao // c9 D ea l ea' }
 | ea, [] => some ⟨ea, .nil⟩
 | ea, (x, v) :: r => match vC D ea x v with
  | some e => match yT D e.1 r with
   | some e2 => some ⟨e2.1, .cons e.2 e2.2⟩
   | none => none
  | none => none
section
variable {D : Std} {n : Nat} {M M' F F' W W' : Ap} {env : Env} {ea ea' e1 : ao} {s s' : Shared} {A : Around} {E : Ee}
theorem gB {env : Env} (f : Str × Value → PUnit → Sem (ForInStep PUnit)) (hf : ∀ n v u, f (n, v) u = (do storeName env n v; pure (.yield ⟨⟩))) {Q : PUnit → Shared → Prop} (ps : List Str) : ∀ {vals : List Value} {xs : List V} {ea : ao} {s : Shared}, ps.length = vals.length → Rel D M F W env ea s → c9 D ea (ps.zip xs) ea' → VRs D.prog D.w M s.heap vals xs →
  (∀ s', aq W s s' → Rel D M F W env ea' s' → Q ⟨⟩ s') → wpAny (model D.prog D.w) A (forIn (ps.zip vals) PUnit.unit f) Q E s := by
 induction ps with
 | nil =>
  intro vals xs ea s hl R e r h
  rw [List.zip_nil_left] at e ⊢
  cases e
  rw [List.forIn_nil]
  exact Wq (h s (aq.refl s) R)
 | cons p ps ih =>
  intro vals xs ea s hl R e r h
  cases r with
  | nil => simp at hl
  | cons a r =>
   rw [List.zip_cons_cons] at e ⊢
   cases e with | cons ea1 e =>
   rw [List.forIn_cons, hf]
   refine Wb (Wb (ea1 R a fun s₁ k₁ R₁ => Wq ?_))
   exact ih (by simpa using hl) R₁ e (r.mono' fun b o q e => k₁.get (fun hw => q (R.wm _ hw)) e) fun s₂ k₂ R₂ => h s₂ (k₁.trans k₂) R₂
theorem lA {a : Addr} {fd : FuncData} {body : List Stmt} (FA : dW D a fd body) (hst : D.St s.heap) (hd : Dom M s) (hmb : ∀ b, M b → D.base ≤ b ∨ b = D.tab) (hbs : D.base ≤ s.heap.objs.size) {qual : Str} {func : Option Addr} :
  Keeps s { s with heap := pushCells (s.heap.push { cls := .type "frame", data := .dict #[] }) fd.scope.names } ∧
  Rel D (fun b => M b ∨ (s.heap.objs.size ≤ b ∧ b < (pushCells (s.heap.push { cls := .type "frame", data := .dict #[] }) fd.scope.names).objs.size))
   (fun b => s.heap.objs.size ≤ b ∧ b < (pushCells (s.heap.push { cls := .type "frame", data := .dict #[] }) fd.scope.names).objs.size)
   (fun b => s.heap.objs.size ≤ b ∧ b < (pushCells (s.heap.push { cls := .type "frame", data := .dict #[] }) fd.scope.names).objs.size)
   (newEnv fd.scope s.heap.objs.size fd.globals (cellsFrom (s.heap.objs.size + 1) fd.scope.names fd.closure) qual func fd.code none fd.builtins) (baseE fd.scope.names)
   { s with heap := pushCells (s.heap.push { cls := .type "frame", data := .dict #[] }) fd.scope.names } := by
 rw [FA.clo, FA.glob, FA.blt]
 generalize hH : pushCells (s.heap.push { cls := .type "frame", data := .dict #[] }) fd.scope.names = H
 have kk : ∀ b o, s.heap.get? b = some o → H.get? b = some o := fun b o e => hH ▸ pushCells_keeps _ _ b o (A3' _ e)
 have kp : Keeps s { s with heap := H } := ⟨H, s.toks, rfl, kk⟩
 have hns : H.Ns s.heap.objs.size fun z => none := hH ▸ (Heap.Ns.new s.heap (.type "frame")).keeps (pushCells_keeps _ _)
 have hlt : s.heap.objs.size < H.objs.size := hns.lt
 have ok := cellsFrom_ok fd.scope.names (s.heap.push { cls := .type "frame", data := .dict #[] }) (s.heap.objs.size + 1) [] ⟨fun z z hm => (nomatch hm), List.Pairwise.nil⟩ (by rw [Heap.size_push]; exact A6' _)
 rw [Heap.size_push, hH] at ok
 generalize hO : cellsFrom (s.heap.objs.size + 1) fd.scope.names [] = own at ok
 have ownMem : ∀ {x c}, own.lookup x = some c → (x, NameKind.cell) ∈ fd.scope.names := fun h => cy (hO ▸ mem_of_lookup h)
 have ownAt : ∀ {x c}, own.lookup x = some c → H.IsCell c none ∧ s.heap.objs.size + 1 ≤ c := fun h => ok.empty _ _ (mem_of_lookup h)
 refine ⟨kp, ?_⟩
 exact {
  fn := FA.fn
  nm := rfl
  glb := rfl
  blt := rfl
  cap := fun x y a ex ey => name_of_addr ok.apart (mem_of_lookup ex) (mem_of_lookup ey)
  cex := fun x e => by
   obtain ⟨c, hcl⟩ : ∃ c, own.lookup x = some c := hO ▸ em (.inl (fY e))
   exact ⟨c, none, hcl, (ownAt hcl).1, fun z => ⟨Nat.le_of_succ_le (ownAt hcl).2, (ownAt hcl).1.lt⟩⟩
  loc := ⟨fun z => none, hns, fun x v e => (nomatch e), fun x mv e => (nomatch e)⟩
  cel := fun x v e => (nomatch e)
  clF := fun x a e => ⟨Nat.le_of_succ_le (ownAt e).2, (ownAt e).1.lt⟩
  st := D.stb _ _ (fun b o z z e => kk b o e) hst
  dom := fun b q => by
   rcases q with q | q
   ·exact Nat.lt_trans (hd b q) hlt
   ·exact q.2
  bs := A1' hbs (Nat.le_of_lt hlt)
  wf := fun b q => q
  fm := fun b q => .inr q
  mb := fun b q => by
   rcases q with q | q
   ·exact hmb b q
   ·exact .inl (A1' hbs q.1)
  ml := ⟨A6' _, hlt⟩
  tw := fun h => (nomatch h) }
noncomputable def gy (D : Std) (n : Nat) (ea : ao) (body : List Stmt) (r : V) : Prop := ∀ {M F W : Ap} {env : Env} {s : Shared} {A : Around} {E : Ee}, bb n A → Rel D M F W env ea s →
 wpAny (model D.prog D.w) A (execs body env) (fun f s' => ∃ u, f = .ret u ∧ aq (fun b => W b ∨ s.heap.objs.size ≤ b) s s' ∧ ∀ M₀ : Ap, (∀ b, M₀ b → M b ∧ ¬ F b) → VR D.prog D.w M₀ s'.heap u r) E s
theorem g9 {body : List Stmt} {r : V} (h : dF D n ea body (.ret e1 r)) : gy D n ea body r := fun hA R => au (h hA R) fun f s' g => by
 obtain ⟨_, kw, _, u, rfl, rv⟩ := g
 exact ⟨u, rfl, kw.sub fun b q => .inl q, fun M₀ h0 => rv.mono (fun z z z e => e) fun b q => .inl (h0 b q).1⟩
theorem dt {a : Addr} {fd : FuncData} {body : List Stmt} (FA : dW D a fd body) (hA : bb (n + 1) A) (hst : D.St s.heap) (hd : Dom M s) (hmb : ∀ b, M b → D.base ≤ b ∨ b = D.tab) (hbs : D.base ≤ s.heap.objs.size) {ps : List Str} {xs : List V} {ag : Args}
  (hbind : ∀ E' : Ee, wpAny (model D.prog D.w) A.in1 (bindArgs fd ag) (fun b s' => s.heap.objs.size ≤ s'.heap.objs.size ∧ Keeps s s' ∧ ∃ vals, b = ps.zip vals ∧ ps.length = vals.length ∧ VRs D.prog D.w M s'.heap vals xs) E' s) (ha : c9 D (baseE fd.scope.names) (ps.zip xs) ea)
  {RR : Result → Shared → Prop} (hb : ∀ {M₂ F₂ W₂ : Ap} {env : Env} {s₂ : Shared} {A₂ : Around}, bb n A₂ → Rel D M₂ F₂ W₂ env ea s₂ → (∀ b, M b → M₂ b ∧ ¬ F₂ b) → s.heap.objs.size ≤ s₂.heap.objs.size → aq (fun b => s.heap.objs.size ≤ b) s s₂ → (∀ b, F₂ b → s.heap.objs.size ≤ b) → (∀ b, F₂ b → W₂ b) → ue A A₂ env fd.code ∧ (∀ b, M₂ b → M b ∨ s.heap.objs.size ≤ b) →
   wpAny (model D.prog D.w) A₂ (execs body env) (fun f s' => RR (.ok (.ret (match f with | .ret v => v | _ => .none))) s') (fun e s' => wpAny (model D.prog D.w) A₂ (leaving env e) (fun z s'' => RR (.error e) s'') (fun e' s'' => RR (.error e') s'') s') s₂) :
  codeAny (model D.prog D.w) A (.call (.ref a) ag) RR s := by
 obtain ⟨o, ho, hdat⟩ := FA.at _ hst
 refine codeAny_call_function (by have := hA.depth; lia) ho hdat FA.nc FA.ng FA.body (FA.code _ hst) ?_
 refine au (hbind _) fun b s₁ h₁ => ?_
 obtain ⟨hz, k0, vals, rfl, hl, rv⟩ := h₁
 have hst := D.stb _ _ (fun b o z z e => Kp.get k0 e) hst
 have hd₁ := hd.size hz
 simp only [newFunctionEnv, Option.isSome_none, Bool.false_eq_true, if_false]
 refine Wb (wpAny_alloc ?_)
 refine Wb (wpAny_layCells _ (fun name kind cells => by cases hkc : kind == NameKind.cell <;> simp [hkc]) _ _ _ _ ?_)
 rw [show ({ s₁ with heap := s₁.heap.push { cls := .type "frame", data := .dict #[] } } : Shared).heap.objs.size = s₁.heap.objs.size + 1 from Heap.size_push ..]
 obtain ⟨kp, R⟩ := lA FA hst hd₁ hmb (A1' hbs hz) (qual := fd.qualname ++ ".<locals>.") (func := some a)
 dsimp only at kp R ⊢
 generalize hH : pushCells (s₁.heap.push { cls := .type "frame", data := .dict #[] }) fd.scope.names = H at kp R ⊢
 have rv₁ : VRs D.prog D.w (fun b => M b ∨ (s₁.heap.objs.size ≤ b ∧ b < H.objs.size)) H vals xs := rv.mono (fun b o z e => Kp.get kp e) fun b q => by
  rcases q with q | q
  ·exact .inl q
  ·right
   cases e : s₁.heap.get? b with
   | none => rfl
   | some o => exact absurd (A5' e) (Nat.not_lt.mpr q.1)
 refine Wb (gB (env := newEnv fd.scope s₁.heap.objs.size fd.globals (cellsFrom (s₁.heap.objs.size + 1) fd.scope.names fd.closure) (fd.qualname ++ ".<locals>.") (some a) fd.code none fd.builtins) _ (fun z z z => rfl) ps hl R ha rv₁ fun s₂ k₂ R₂ => Wq ?_)
 refine ⟨FA.lim _ R₂.st, codeAny_func ?_⟩
 have hA' : bb n (A.deeper (newEnv fd.scope s₁.heap.objs.size fd.globals (cellsFrom (s₁.heap.objs.size + 1) fd.scope.names fd.closure) (fd.qualname ++ ".<locals>.") (some a) fd.code none fd.builtins)) :=
  ⟨by have := hA.units; show A.units + 3 + 60 + 20 * n < cLine; lia, by have := hA.depth; show A.depth + 1 + 20 + 10 * n < recursionLimit; lia, hA.handled⟩
 have hz2 : s₁.heap.objs.size ≤ s₂.heap.objs.size := Nat.le_of_lt (R₂.dom _ (R₂.fm _ (R₂.wf _ R₂.ml)))
 exact hb hA' R₂ (fun b q => ⟨.inl q, fun q' => A7' _ (A2' (hd₁ b q) q'.1)⟩) (A1' hz hz2) (((Kp.toW k0).trans (Kp.toW kp)).trans (k₂.sub fun b q => A1' hz q.1)) (fun b q => A1' hz q.1) (fun b q => q) ⟨⟨fun z h => Around.frames_deeper h, rfl, rfl⟩, fun b q => q.imp id fun q => A1' hz q.1⟩
theorem gb {a : Addr} {fd : FuncData} {body : List Stmt} (FA : dW D a fd body) (hA : bb (n + 1) A) (hst : D.St s.heap) (hd : Dom M s) (hmb : ∀ b, M b → D.base ≤ b ∨ b = D.tab) (hbs : D.base ≤ s.heap.objs.size) {ps : List Str} {vals : List Value} {xs : List V} {r : V}
  {ag : Args} (hl : ps.length = vals.length) (hbind : bindArgs fd ag = pure (ps.zip vals)) (rv : VRs D.prog D.w M s.heap vals xs) (ha : c9 D (baseE fd.scope.names) (ps.zip xs) ea) (hb : gy D n ea body r) :
  wpAny (model D.prog D.w) A (call (.ref a) ag.pos ag.kw) (Got D.prog D.w M s r) E s := by
 refine wpAny_call (dt FA hA hst hd hmb hbs (ps := ps) (xs := xs) (fun E' => by rw [hbind]; exact Wq ⟨A6' _, Kp.refl' s, vals, rfl, hl, rv⟩) ha fun hA₂ R₂ hM hz k₂ hF z z => ?_)
 refine wpAny_mono (hb hA₂ R₂) (fun f s₃ g => ?_) fun z z x => x
 obtain ⟨u, rfl, kw, fin⟩ := g
 have k03 : aq (fun b => s.heap.objs.size ≤ b) s s₃ := k₂.trans (kw.sub fun b q => by
  rcases q with q | q
  ·exact hF _ (R₂.wf _ q)
  ·exact A1' hz q)
 exact ⟨k03.keeps (A6' _), fin M hM⟩
theorem Rel.widen (R : Rel D M F W env ea s) (h1 : ∀ b, F b → F' b) (h2 : ∀ b, W b → W' b) (h3 : ∀ b, W' b → F' b) (h4 : ∀ b, F' b → M b) (h5 : ea.mo = [] ∨ ea.mw = true) : Rel D M F' W' env ea s := by
 refine { R with cex := ?_, loc := ?_, clF := fun x a e => h1 _ (R.clF x a e), wf := h3, fm := h4, ml := h2 _ R.ml, tw := fun h => ⟨h2 _ (R.tw h).1, (R.tw h).2⟩ }
 ·intro x e
  obtain ⟨a, u, e1, c, e2⟩ := R.cex x e
  exact ⟨a, u, e1, c, fun h => h2 _ (e2 h)⟩
 ·obtain ⟨m, hm, hl, hu⟩ := R.loc
  refine ⟨m, hm, hl, fun x mv e => ?_⟩
  obtain ⟨a, l, ne, hF, hw, r, q⟩ := hu x mv e
  refine ⟨a, l, ne, h1 _ hF, ?_, r, q⟩
  rcases h5 with h5 | h5
  ·rw [h5] at e; cases e
  ·exact ⟨fun h => h2 _ (hw.1 h), fun h => by rw [h5] at h; cases h⟩
theorem Rel.own (R : Rel D M F W env ea s) (k : Keeps s s') (hsz : s.heap.objs.size ≤ s'.heap.objs.size) {l : Addr} (h1 : s.heap.objs.size ≤ l) (h2 : l < s'.heap.objs.size) : Rel D (fun b => M b ∨ b = l) F W env ea s' := by
 refine R.growX (X := fun z => False) (Kp.toW k) (fun b q => q.elim) hsz (fun b q => .inl q) ?_ ?_ ?_
 ·intro b q
  rcases q with q | rfl
  ·exact .inl q
  ·right
   cases e : s.heap.get? b with
   | none => rfl
   | some o => exact absurd (A5' e) (Nat.not_lt.mpr h1)
 ·intro b q
  rcases q with q | rfl
  ·exact A2' (R.dom b q) hsz
  ·exact h2
 ·intro b q
  rcases q with q | rfl
  ·exact R.mb b q
  ·exact .inl (A1' R.bs h1)
noncomputable def cF (ea : ao) (x : Str) (mv : MV) : ao := { ea with loc := rm ea.loc x, cel := rm ea.cel x, mo := [(x, mv)] }
set_option tactic.hygienic true in
theorem Rel.toMut (R : Rel D M F W env ea s) {x : Str} {a l : Addr} {mv : MV} (hx : (lk ea.names x = some .local ∧ lk ea.loc x = some (.sta (.ref a))) ∨ (lk ea.names x = some .cell ∧ lk ea.cel x = some (.sta (.ref a)))) (hl : l ≠ env.locals) (hF : F l) (hw : wh ea.mw W l) (r : cj D M s.heap a l mv) :
  Rel D M F W env (cF ea x mv) s := by
 refine { R with loc := ?_, cel := ?_ }
 ·obtain ⟨m, hm, hl', hu⟩ := R.loc
  refine ⟨m, hm, fun y v e => ?_, fun y mv' e => ?_⟩
  ·have e : lk (rm ea.loc x) y = some v := e
   rw [rT] at e
   split at e
   ·cases e
   ·exact hl' y v e
  ·have e : lk [(x, mv)] y = some mv' := e
   unfold lk at e
   split at e
   ·rename_i hq
    cases e
    have := aN.mp hq
    subst this
    refine ⟨a, l, hl, hF, hw, r, ?_⟩
    rcases hx with ⟨q1, q2⟩ | ⟨q1, q2⟩
    ·obtain ⟨vv, e1, rv⟩ := hl' y _ q2
     cases rv
     exact .inl ⟨q1, e1⟩
    ·obtain ⟨c, vv, e1, ic, rv⟩ := R.cel y _ q2
     cases rv
     exact .inr ⟨.inl q1, c, e1, ic⟩
   ·cases e
 ·intro y v e
  have e : lk (rm ea.cel x) y = some v := e
  rw [rT] at e
  split at e
  ·cases e
  ·exact R.cel y v e
noncomputable def cI (ea : ao) (x : Str) : Bool := match lk ea.names x with
 | some .local => true
 | some .cell => has x ea.cw
 | _ => false
set_option tactic.hygienic true in
theorem yz (R : Rel D M F W env ea s) {x : Str} {p : Pos} {value : Expr} {pos : Pos} {mv : MV} {Q : Flow → Shared → Prop} (hx : cI ea x = true) (hmw : ea.mw = true) (hc : gG value)
  (hv : wpAny (model D.prog D.w) A (eval value env) (fun u s' => s.heap.objs.size ≤ s'.heap.objs.size ∧ Keeps s s' ∧ ∃ a l, u = .ref a ∧ s.heap.objs.size ≤ l ∧ l < s'.heap.objs.size ∧ cj D (fun b => M b ∨ b = l) s'.heap a l mv) E s)
  (h : ∀ l s', s.heap.objs.size ≤ l → s.heap.objs.size ≤ s'.heap.objs.size → aq W s s' → Rel D (fun b => M b ∨ b = l) (fun b => F b ∨ b = l) (fun b => W b ∨ b = l) env (cF ea x mv) s' → Q .next s') :
  wpAny (model D.prog D.w) A (exec (.Assign [.Name x p] value pos) env) Q E s := by
 have hs := hc x p pos.line env
 refine wpAny_Assign_Name (wpAny_mono hv (fun u s₁ g => ?_) fun z z x => x) hs
 obtain ⟨hz, k, a, l, rfl, h1, h2, mobj⟩ := g
 have R₁ := R.own k hz h1 h2
 have rmup : ∀ {α : Type} (l : List (Str × α)) (v : α), rm (up l x v) x = rm l x := fun l v => by
  induction l with
  | nil => unfold up rm rm; rw [bi]
  | cons p r ih =>
   obtain ⟨k, u⟩ := p
   unfold up
   by_cases hk : x = k
   ·subst hk; rw [bi]; unfold rm; rw [bi]
   ·rw [dE hk]; unfold rm; rw [dE hk]; dsimp only; rw [ih]
 have oldW : ∀ c, F c → c ≠ l := fun c q e => by
  have : @LT.lt Nat _ c s.heap.objs.size := R.dom _ (R.fm _ q)
  rw [e] at this
  exact A7' _ (A2' this h1)
 have fin : ∀ (ea₂ : ao) s₂, s₁.heap.objs.size ≤ s₂.heap.objs.size → aq W s₁ s₂ → Rel D (fun b => M b ∨ b = l) F W env ea₂ s₂ →
   cF ea₂ x mv = cF ea x mv → ea₂.mw = true → ((lk ea₂.names x = some .local ∧ lk ea₂.loc x = some (.sta (.ref a))) ∨ (lk ea₂.names x = some .cell ∧ lk ea₂.cel x = some (.sta (.ref a)))) → Q .next s₂ := fun ea₂ s₂ hz₂ k₂ R₂ he hm₂ hx₂ => by
  refine h l s₂ h1 (A1' hz hz₂) ((Kp.toW k).trans k₂) ?_
  rw [← he]
  have R₃ : Rel D (fun b => M b ∨ b = l) (fun b => F b ∨ b = l) (fun b => W b ∨ b = l) env ea₂ s₂ := R₂.widen (fun b q => .inl q) (fun b q => .inl q) (fun b q => q.imp (R.wf b) id) (fun b q => q.imp (R.fm b) id) (.inr hm₂)
  exact R₃.toMut hx₂ (fun e => oldW _ (R.wf _ R.ml) e.symm) (.inr rfl) ⟨fun z => .inr rfl, fun h => by rw [hm₂] at h; cases h⟩ (mobj.keep (X := W) (fun b q => .inl (R.wm b q)) (fun q => oldW _ (R.wf _ q) rfl) k₂)
 unfold cI at hx
 split at hx
 ·rename_i hk
  exact aA (dz R₁ (v := .sta (.ref a)) hk (.sta _) fun s₂ k₂ R₂ hz₂ => fin _ s₂ hz₂ k₂ R₂ (by unfold cF; dsimp only; rw [rmup]) hmw (.inl ⟨hk, by rw [iD, if_pos rfl]⟩))
 ·rename_i hk
  exact aA (lz R₁ (v := .sta (.ref a)) hk hx (.sta _) fun s₂ k₂ R₂ hz₂ => fin _ s₂ hz₂ k₂ R₂ (by unfold cF; dsimp only; rw [rmup]) hmw (.inr ⟨hk, by rw [iD, if_pos rfl]⟩))
 ·cases hx
end
end
section
noncomputable def gm (D : Std) (f : Value) (xs : List V) (r : V) : Prop := ∀ {M : Ap} {s : Shared} {A : Around} {E : Ee} {vs : List Value}, A.handled = none → VRs D.prog D.w M s.heap vs xs → wpAny (model D.prog D.w) A (call f vs) (Got D.prog D.w M s r) E s
inductive Bn where
 | len | sum | min | max | chr | ord | str | int | bytes
noncomputable def Bn.val : Bn → Value
 | .len => .builtin "len"
 | .sum => .builtin "sum"
 | .min => .builtin "min"
 | .max => .builtin "max"
 | .chr => .builtin "chr"
 | .ord => .builtin "ord"
 | .str => .type "str"
 | .int => .type "int"
 | .bytes => .type "bytes"
theorem Bn.noRef (b : Bn) (a : Addr) : b.val ≠ .ref a := by cases b <;> exact fun h => nomatch h
theorem gm.cf {D : Std} {n : Nat} {x : Str} {b : Bn} {xs : List V} {r : V} (h : gm D b.val xs r) (e : D.gl x = some b.val) : rD D n x xs r := fun hA z z z z e' rv => by
 cases e.symm.trans e'
 exact ⟨.inl b.noRef, h hA.handled rv⟩
section
variable {D : Std} {M F W : Ap} {env : Env} {ea ea' : ao} {s s' : Shared} {A : Around} {E : Ee}
theorem VRs.one {prog : Program} {w : World} {h : Heap} {vs : List Value} {x : V} (r : VRs prog w M h vs [x]) : ∃ v, vs = [v] ∧ VR prog w M h v x := by
 cases r with | cons a r =>
 cases r
 exact ⟨_, rfl, a⟩
theorem VRs.two {prog : Program} {w : World} {h : Heap} {vs : List Value} {x y : V} (r : VRs prog w M h vs [x, y]) : ∃ v u, vs = [v, u] ∧ VR prog w M h v x ∧ VR prog w M h u y := by
 cases r with | cons a r =>
 obtain ⟨u, rfl, b⟩ := r.one
 exact ⟨_, u, rfl, a, b⟩
theorem VRs.three {prog : Program} {w : World} {h : Heap} {vs : List Value} {x y z : V} (r : VRs prog w M h vs [x, y, z]) : ∃ v u t, vs = [v, u, t] ∧ VR prog w M h v x ∧ VR prog w M h u y ∧ VR prog w M h t z := by
 cases r with | cons a r =>
 obtain ⟨u, t, rfl, b, c⟩ := r.two
 exact ⟨_, u, t, rfl, a, b, c⟩
theorem cN {x : V} {v : Value} {h' : Heap} {tk : Nat} (k : ∀ b o, s.heap.get? b = some o → h'.get? b = some o) (r : VR D.prog D.w M h' v x) : Got D.prog D.w M s x v { s with heap := h', toks := tk } := ⟨⟨h', tk, rfl, k⟩, r⟩
theorem xX {x : Str} (h : x.length ≤ 100000) : gm D Bn.len.val [.str x] (.int (x.length : Int)) := fun z r => by
 obtain ⟨v, rfl, a⟩ := r.one
 obtain ⟨t, rfl⟩ := a.str_inv
 exact P.len_str (by lia) (aP _ _ _)
theorem sz {a b : Int} : gm D Bn.min.val [.int a, .int b] (.int (if b < a then b else a)) := fun hA r => by
 obtain ⟨v, u, rfl, x, y⟩ := r.two
 obtain ⟨t, rfl⟩ := x.int_inv
 obtain ⟨t2, rfl⟩ := y.int_inv
 refine min_two_ints hA fun h' tk k => cN k ?_
 split <;> exact .int _ _
theorem xG {a b c : Int} : gm D Bn.min.val [.int a, .int b, .int c] (.int (if b < a then if c < b then c else b else if c < a then c else a)) := fun hA r => by
 obtain ⟨v, u, t, rfl, x, y, z⟩ := r.three
 obtain ⟨t1, rfl⟩ := x.int_inv
 obtain ⟨t2, rfl⟩ := y.int_inv
 obtain ⟨t3, rfl⟩ := z.int_inv
 refine min_three_ints hA fun h' tk k => cN k ?_
 split <;> split <;> exact .int _ _
theorem wu {a b c : Int} : gm D Bn.max.val [.int a, .int b, .int c] (.int (if b > a then if c > b then c else b else if c > a then c else a)) := fun hA r => by
 obtain ⟨v, u, t, rfl, x, y, z⟩ := r.three
 obtain ⟨t1, rfl⟩ := x.int_inv
 obtain ⟨t2, rfl⟩ := y.int_inv
 obtain ⟨t3, rfl⟩ := z.int_inv
 refine max_three_ints hA fun h' tk k => cN k ?_
 split <;> split <;> exact .int _ _
theorem zB {i : Int} (h : 0 ≤ i ∧ i < 1114112) : gm D Bn.chr.val [.int i] (.str ⟨#[i.toNat]⟩) := fun z r => by
 obtain ⟨v, rfl, a⟩ := r.one
 obtain ⟨t, rfl⟩ := a.int_inv
 refine P.chr_of_int ?_ (aW _ _ _)
 simp only [Bool.or_eq_false_iff, decide_eq_false_iff_not]; lia
theorem zZ {x : Str} (h : x.length = 1) : gm D Bn.ord.val [.str x] (.int (x.cps.getD 0 0 : Nat)) := fun z r => by
 obtain ⟨v, rfl, a⟩ := r.one
 obtain ⟨t, rfl⟩ := a.str_inv
 exact ord_of_one h (aP _ _ _)
theorem Bi {a : Int} (h : a.natAbs.log2 < 1920) : gm D Bn.str.val [.int a] (.str (Str.ofString (toString a))) := fun z r => by
 obtain ⟨v, rfl, a⟩ := r.one
 obtain ⟨t, rfl⟩ := a.int_inv
 exact P.str_of_int h (aW _ _ _)
theorem wW {x : UInt64} {sg : Bool} {m : Nat} {e : Int} (h : Float64.decode x = .fin sg m e) : gm D Bn.int.val [.flt x] (.int (Float64.truncOf sg m e)) := fun z r => by
 obtain ⟨v, rfl, a⟩ := r.one
 obtain ⟨t, rfl⟩ := a.flt_inv
 exact call_int_float h (aP _ _ _)
noncomputable def j0 : (xs : List V) → Option { ns : List Int // xs = ns.map .int }
 | [] => some ⟨[], rfl⟩
 | .int i :: r => match j0 r with
  | some l => some ⟨i :: l.1, congrArg (List.cons (V.int i)) l.2⟩
  | none => none
 | _ => none
theorem iG {h : Heap} : ∀ {ns : List Int} {vs : List Value}, VRs D.prog D.w M h vs (ns.map .int) → IntsAre vs ns
 | [], _, r => by cases r; exact .nil
 | n :: ns, _, r => by
  cases r with | cons a r =>
  obtain ⟨t, rfl⟩ := a.int_inv
  exact .cons _ _ (iG r)
theorem uz {ns : List Int} (hr : ∀ n ∈ ns, 0 ≤ n ∧ n < 256) (hz : ns.length ≤ 100000) : gm D Bn.bytes.val [.list (ns.map .int)] (.byt (byteArr ns)) := fun hA r => by
 obtain ⟨v, rfl, a⟩ := r.one
 obtain ⟨l, items, k, rfl, hM, ho, rr⟩ := a.list_inv
 have hl := rr.length
 rw [List.length_map] at hl
 exact call_bytes_ints ⟨_, ho, rfl, _, rfl⟩ (iG rr) hr (by rw [hl, aX]; exact A1' ‹_› (by decide)) hA fun h' t k hk => cN hk (.byt _ _)
theorem mE {vs : List Value} {ns : List Int} (h : IntsAre vs ns) : ∃ ps : List (Int × Tok), vs = ps.map (fun p => .int p.1 p.2) ∧ ps.map (·.1) = ns := by
 induction h with
 | nil => exact ⟨[], rfl, rfl⟩
 | cons n t _ ih =>
  obtain ⟨ps, rfl, rfl⟩ := ih
  exact ⟨(n, t) :: ps, rfl, rfl⟩
theorem kf (xs : Array (Int × Tok)) : ∀ k, k ≤ xs.size → preSum (numAt xs) k = ((xs.toList.take k).map (·.1)).sum := by
 intro v0'
 induction v0' with
 | zero =>
  exact fun z => by simp [preSum]
 | succ k ih' =>
  exact fun h => by
   have hk : k < xs.size := h
   rw [preSum, ih' (Nat.le_of_succ_le h), List.take_add_one, List.map_append, List.sum_append]
   congr 1
   simp [numAt, hk]
theorem xW {ns : List Int} : gm D Bn.sum.val [.list (ns.map .int)] (.int ns.sum) := fun hA r => by
 obtain ⟨v, rfl, a⟩ := r.one
 obtain ⟨l, items, k, rfl, hM, ho, rr⟩ := a.list_inv
 obtain ⟨ps, h1, h2⟩ := mE (iG rr)
 have he : items = intItems ps.toArray := by
  apply Array.toList_inj.mp
  rw [h1]; simp [intItems]
 subst he
 refine sum_intListG hA ⟨_, ho, rfl, _, rfl⟩ fun h' tk t' hk => cN hk ?_
 rw [kf _ _ (A6' _)]
 have : (ps.toArray.toList.take ps.toArray.size).map (·.1) = ns := by simp [h2]
 rw [this]
 exact .int _ _
noncomputable def fAt (xs : List UInt64) (i : Nat) : UInt64 := xs.getD i 0
theorem yC {P : Nat → Value → Prop} {xs : List UInt64} (h : ∀ i v, P i v → ∃ t : Tok, v = Value.float (fAt xs i) t) : CmpOf D.prog D.w A .Gt P (fun i j => Float64.cmp (fAt xs i) (fAt xs j) == some Ordering.gt) := by
 intro i j vi vj s Q E hi hj hQ
 obtain ⟨t, rfl⟩ := h i vi hi
 obtain ⟨u, rfl⟩ := h j vj hj
 exact richCompare_gives (op := .Gt) (AutoFloatOps.typeIs_float s _ t) (AutoFloatOps.typeIs_float s _ u) F.slot_float_gt F.entry_float_gt (F.args_float_gt_2 _ _) (AutoFloatG4.float___gt___float_float_0 _ t _ u) (fun x => nomatch x) hQ
theorem xU {P : Nat → Value → Prop} {xs : List UInt64} (h : ∀ i v, P i v → ∃ t : Tok, v = Value.float (fAt xs i) t) : CmpOf D.prog D.w A .Lt P (fun i j => Float64.cmp (fAt xs i) (fAt xs j) == some Ordering.lt) := by
 intro i j vi vj s Q E hi hj hQ
 obtain ⟨t, rfl⟩ := h i vi hi
 obtain ⟨u, rfl⟩ := h j vj hj
 exact richCompare_gives (op := .Lt) (AutoFloatOps.typeIs_float s _ t) (AutoFloatOps.typeIs_float s _ u) F.slot_float_lt F.entry_float_lt (F.args_float_lt_2 _ _) (AutoFloatG5.float___lt___float_float_0 _ t _ u) (fun x => nomatch x) hQ
noncomputable def Dv (a b c : UInt64) : UInt64 := fAt [a, b, c] (argBest (fun i j => Float64.cmp (fAt [a, b, c] i) (fAt [a, b, c] j) == some Ordering.gt) 2)
noncomputable def Df (a b c : UInt64) : UInt64 := fAt [a, b, c] (argBest (fun i j => Float64.cmp (fAt [a, b, c] i) (fAt [a, b, c] j) == some Ordering.lt) 2)
theorem qG {a b c : UInt64} {t u x : Tok} : ∀ i v, (#[Value.float a t, Value.float b u, Value.float c x] : Array Value)[i]? = some v → ∃ t : Tok, v = Value.float (fAt [a, b, c] i) t := by
 intro i v h
 match i, h with
 | 0, h => cases h; exact ⟨t, rfl⟩
 | 1, h => cases h; exact ⟨u, rfl⟩
 | 2, h => cases h; exact ⟨x, rfl⟩
 | n + 3, h => simp at h
theorem x3 {a b c : UInt64} : gm D Bn.max.val [.flt a, .flt b, .flt c] (.flt (Dv a b c)) := fun {_ s A _ _} hA rv => by
 obtain ⟨v, u, z, rfl, p, q, r3⟩ := rv.three
 obtain ⟨t, rfl⟩ := p.flt_inv
 obtain ⟨u, rfl⟩ := q.flt_inv
 obtain ⟨x, rfl⟩ := r3.flt_inv
 have hT : (s.heap.push { cls := .type "tuple", data := .seq #[.float a t, .float b u, .float c x] }).IsTuple s.heap.objs.size #[.float a t, .float b u, .float c x] := ⟨_, A4' _ rfl, rfl, 0, rfl⟩
 refine call_max_three (wpAny_pyIter_tuple hT ?_)
 have hsz : (s.heap.push { cls := .type "tuple", data := .seq #[.float a t, .float b u, .float c x] }).objs.size = s.heap.objs.size + 1 := Heap.size_push ..
 refine ⟨_, [_, s.heap.objs.size], [_], _, _, _, _, rfl, Walks.tuple (A := A.in1) hA _ s.heap.objs.size (by rw [hsz]; exact A8' (Nat.lt_succ_self _)) #[.float a t, .float b u, .float c x],
  ⟨⟨_, A4' _ rfl, rfl, rfl⟩, hT.push _⟩, fun c hc => ?_, Nat.succ_pos 2, yC qG, fun v h' tk hP hk => ?_⟩
 ·show c < ((s.heap.push _).push _).objs.size
  rw [Heap.size_push, hsz]
  rcases C2' hc with rfl | hc
  ·rw [hsz]; exact Nat.lt_succ_self _
  ·rw [C1' hc]; exact B1' (Nat.lt_succ_self _)
 ·obtain ⟨t', rfl⟩ := qG _ _ hP
  refine cN (fun b o e => hk b o ?_ (A3' _ (A3' _ e))) (.flt _ _)
  rw [List.mem_singleton, hsz]
  exact A8' (B1' (A5' e))
theorem xz {a b c : UInt64} : gm D Bn.min.val [.flt a, .flt b, .flt c] (.flt (Df a b c)) := fun {_ s A _ _} hA rv => by
 obtain ⟨v, u, z, rfl, p, q, r3⟩ := rv.three
 obtain ⟨t, rfl⟩ := p.flt_inv
 obtain ⟨u, rfl⟩ := q.flt_inv
 obtain ⟨x, rfl⟩ := r3.flt_inv
 have hT : (s.heap.push { cls := .type "tuple", data := .seq #[.float a t, .float b u, .float c x] }).IsTuple s.heap.objs.size #[.float a t, .float b u, .float c x] := ⟨_, A4' _ rfl, rfl, 0, rfl⟩
 refine call_min_three (wpAny_pyIter_tuple hT ?_)
 have hsz : (s.heap.push { cls := .type "tuple", data := .seq #[.float a t, .float b u, .float c x] }).objs.size = s.heap.objs.size + 1 := Heap.size_push ..
 refine ⟨_, [_, s.heap.objs.size], [_], _, _, _, _, rfl, Walks.tuple (A := A.in1) hA _ s.heap.objs.size (by rw [hsz]; exact A8' (Nat.lt_succ_self _)) #[.float a t, .float b u, .float c x],
  ⟨⟨_, A4' _ rfl, rfl, rfl⟩, hT.push _⟩, fun c hc => ?_, Nat.succ_pos 2, xU qG, fun v h' tk hP hk => ?_⟩
 ·show c < ((s.heap.push _).push _).objs.size
  rw [Heap.size_push, hsz]
  rcases C2' hc with rfl | hc
  ·rw [hsz]; exact Nat.lt_succ_self _
  ·rw [C1' hc]; exact B1' (Nat.lt_succ_self _)
 ·obtain ⟨t', rfl⟩ := qG _ _ hP
  refine cN (fun b o e => hk b o ?_ (A3' _ (A3' _ e))) (.flt _ _)
  rw [List.mem_singleton, hsz]
  exact A8' (B1' (A5' e))
noncomputable def pf (D : Std) (b : Bn) (xs : List V) : Option { r : V // gm D b.val xs r } := match b, xs with
 | .len, [.str x] => if h : x.length ≤ 100000 then some ⟨_, xX h⟩ else none
 | .sum, [.list xs] => match j0 xs with
  | some ⟨ns, h⟩ => some ⟨.int ns.sum, h ▸ xW⟩
  | none => none
 | .min, [.int _, .int _] => some ⟨_, sz⟩
 | .min, [.int _, .int _, .int _] => some ⟨_, xG⟩
 | .max, [.int _, .int _, .int _] => some ⟨_, wu⟩
 | .min, [.flt _, .flt _, .flt _] => some ⟨_, xz⟩
 | .max, [.flt _, .flt _, .flt _] => some ⟨_, x3⟩
 | .chr, [.int i] => if h : 0 ≤ i ∧ i < 1114112 then some ⟨_, zB h⟩ else none
 | .ord, [.str x] => if h : x.length = 1 then some ⟨_, zZ h⟩ else none
 | .str, [.int a] => if h : a.natAbs.log2 < 1920 then some ⟨_, Bi h⟩ else none
 | .int, [.flt x] => match h : Float64.decode x with
  | .fin _ _ _ => some ⟨_, wW h⟩
  | _ => none
 | .bytes, [.list xs] => match j0 xs with
  | some ⟨ns, h⟩ => if hr : (∀ n ∈ ns, 0 ≤ n ∧ n < 256) ∧ ns.length ≤ 100000 then some ⟨.byt (byteArr ns), h ▸ uz hr.1 hr.2⟩ else none
  | none => none
 | _, _ => none
end
end
section
section
variable {D : Std} {n : Nat}
theorem jK {m : Str} {id : String} {x : Str} {xs : List V} {r : V} (slot : Slot "str" m id) (ty : typeOf (.builtin id) = pure (.type "method_descriptor"))
  (h : ∀ {M : Ap} {s : Shared} {A : Around} {E : Ee} {t : Tok} {vs : List Value}, Dom M s → VRs D.prog D.w M s.heap vs xs → wpAny (model D.prog D.w) A (call (.builtin id) (.str x t :: vs)) (Got D.prog D.w M s r) E s) : nk D n m (.str x) xs r :=
 ⟨"str", id, F.plainAttrs_str, slot, ty, fun r => by
  obtain ⟨t, rfl⟩ := r.str_inv
  exact ⟨typeIs_str _ _ _, fun z e => nomatch e⟩, fun z d rv r => by
  obtain ⟨t, rfl⟩ := rv.str_inv
  exact h d r⟩
noncomputable def iO (n : Nat) : Bool := Nat.ble n 100000
theorem fV {n : Nat} (h : iO n = true) : Builtin.Str.tooLong n = false := by
 have h := Nat.le_of_ble_eq_true h
 unfold Builtin.Str.tooLong
 simp only [decide_eq_false_iff_not]
 rw [aX]
 lia
theorem eI {x : Str} (h : iO (Txt.upper x).length = true) : nk D n "upper" (.str x) [] (.str (Txt.upper x)) :=
 jK F.slot_str_upper F.type_str_upper fun z r => by cases r; exact SC.upper (fV h) (aW _ _ _)
theorem kh {x : Str} (h : iO (Txt.lower x).length = true) : nk D n "lower" (.str x) [] (.str (Txt.lower x)) :=
 jK F.slot_str_lower F.type_str_lower fun z r => by cases r; exact SC.lower (fV h) (aW _ _ _)
theorem gK {x : Str} (h : iO (Txt.swapcase x).length = true) : nk D n "swapcase" (.str x) [] (.str (Txt.swapcase x)) :=
 jK F.slot_str_swapcase F.type_str_swapcase fun z r => by cases r; exact SC.swapcase (fV h) (aW _ _ _)
noncomputable def n9 : (xs : List V) → Option { ns : List Str // xs = ns.map .str }
 | [] => some ⟨[], rfl⟩
 | .str i :: r => match n9 r with
  | some l => some ⟨i :: l.1, congrArg (List.cons (V.str i)) l.2⟩
  | none => none
 | _ => none
theorem lC {M : Ap} {h : Heap} : ∀ {ns : List Str} {vs : List Value}, VRs D.prog D.w M h vs (ns.map .str) → ∃ l : List (Str × Tok), vs = strValues l ∧ l.map (fun x => Prod.fst x) = ns
 | [], _, r => by cases r; exact ⟨[], rfl, rfl⟩
 | x :: ns, _, r => by
  cases r with | cons a r =>
  obtain ⟨t, rfl⟩ := a.str_inv
  obtain ⟨l, h1, h2⟩ := lC r
  exact ⟨(x, t) :: l, by rw [h1]; rfl, by rw [← h2]; rfl⟩
theorem mi {x : Str} {ns : List Str} (h : JoinOk x ns = true) : nk D n "join" (.str x) [.list (ns.map .str)] (.str (Txt.join x ns)) :=
 jK F.slot_str_join F.type_str_join fun z r => by
  obtain ⟨v, rfl, a⟩ := r.one
  obtain ⟨l, items, k, rfl, hM, ho, rr⟩ := a.list_inv
  obtain ⟨ps, h1, h2⟩ := lC rr
  have he : items = (strValues ps).toArray := by apply Array.toList_inj.mp; rw [h1]
  subst he
  exact SC.join ⟨_, ho, rfl, _, rfl⟩ h2 h fun t' k => ⟨⟨_, k, rfl, fun z z e => e⟩, .str _ _⟩
theorem pw {M : Ap} {h : Heap} : ∀ (k : Nat) (ps : List Str), VRs D.prog D.w M h (strsFrom k ps) (ps.map .str)
 | _, [] => .nil
 | k, _ :: ps => .cons (.str _ _) (pw (k + 1) ps)
noncomputable def fS (x y : Str) : Bool := iO x.length && (!(decide (x.length < y.length) || decide (Builtin.Str.strKind x < Builtin.Str.strKind y)) && (!(y.length == 0) && (!(Builtin.Str.occurrences x y 0 x.length (x.length + 1)).isEmpty && iO (Builtin.Str.partsBetween x (Builtin.Str.occurrences x y 0 x.length (x.length + 1)) y.length).length)))
theorem oX {x y : Str} (h : fS x y = true) : nk D n "split" (.str x) [.str y] (.list ((Builtin.Str.partsBetween x (Builtin.Str.occurrences x y 0 x.length (x.length + 1)) y.length).map .str)) :=
 jK F.slot_str_split F.type_str_split fun d r => by
  obtain ⟨v, rfl, a⟩ := r.one
  obtain ⟨t, rfl⟩ := a.str_inv
  simp only [fS, Bool.and_eq_true, Bool.not_eq_true'] at h
  obtain ⟨h1, h2, h3, h4, h5⟩ := h
  have l1 := Nat.le_of_ble_eq_true h1
  have l5 := Nat.le_of_ble_eq_true h5
  refine call_meets F.slot_str_split (typeIs_str _ _ _) F.entry_str_split (F.args_str_split_2 _ _) (meets_str_split_sep x y _ t h2 h3 h4 (by rw [aX]; exact A1' ‹_› (by decide)) (by rw [aX]; exact A1' ‹_› (by decide))) ?_
  refine ⟨⟨_, _, rfl, fun b o e => A3' _ e⟩, .list d.new (A4' _ rfl) ?_⟩
  exact pw _ _
noncomputable def zm (D : Std) (n : Nat) (m x : Str) (xs : List V) : Option { r : V // nk D n m (.str x) xs r } := match xs with
 | [] => match h : sq m "upper" with
  | true => match h2 : iO (Txt.upper x).length with
   | true => some ⟨_, aN.mp h ▸ eI h2⟩
   | false => none
  | false => match h : sq m "lower" with
   | true => match h2 : iO (Txt.lower x).length with
    | true => some ⟨_, aN.mp h ▸ kh h2⟩
    | false => none
   | false => match h : sq m "swapcase" with
    | true => match h2 : iO (Txt.swapcase x).length with
     | true => some ⟨_, aN.mp h ▸ gK h2⟩
     | false => none
    | false => none
 | [.str y] => match h : sq m "split" with
  | true => match h2 : fS x y with
   | true => some ⟨_, aN.mp h ▸ oX h2⟩
   | false => none
  | false => none
 | [.list xs] => match h : sq m "join" with
  | true => match n9 xs with
   | some ⟨ns, e⟩ => match h2 : JoinOk x ns with
    | true => some ⟨.str (Txt.join x ns), aN.mp h ▸ e ▸ mi h2⟩
    | false => none
   | none => none
  | false => none
 | _ => none
end
end
section
section
variable {D : Std} {n : Nat} {M F W : Ap} {env : Env} {ea : ao} {s : Shared} {A : Around} {E : Ee}
theorem nq {f : Str} {p pos : Pos} {a : Expr} {as : List Expr} {vs : List V} {Q : Ee} (q1 : lk ea.names f = some .globalImplicit) (q2 : sq f "__debug__" = false) {fv : Value} (q3 : D.gl f = some fv) (hn : ∀ a, fv ≠ .ref a) (ev : Evs D n ea (a :: as) vs) (hA : bb n A) (R : Rel D M F W env ea s)
  (h : ∀ us s₁, CG D M s vs us s₁ → wpAny (model D.prog D.w) A (call fv us) Q E s₁) : wpAny (model D.prog D.w) A (eval (.Call (.Name f p) (a :: as) [] pos) env) Q E s := by
 rw [arm_eval_Call_Name']
 refine Wb (wpAny_Name ?_ (by simpa using aJ q2))
 unfold loadName
 simp only [Env.blockKind, R.fn, bt R q1, ScopeKind.isAnnotationScope, Bool.false_and, Bool.false_eq_true, if_false]
 exact D.glob R.st R.glb R.blt q3 (bT (ev.no pos env) (au (ev.ev pos hA R) fun us s₁ g => ⟨.inl hn, h us s₁ g⟩))
noncomputable def jr (k : Nat) : List V := (List.range k).map fun i => .int (i : Nat)
theorem rA {target : Expr} {f : Str} {p pos : Pos} {a : Expr} {k : Nat} (q1 : lk ea.names f = some .globalImplicit) (q2 : sq f "__debug__" = false) (q3 : D.gl f = some (.type "range")) (ha : Ev D n ea a (.int k)) (hk : k ≤ 100000) : dP D n ea target (.Call (.Name f p) [a] [] pos) (jr k) :=
 ⟨fun z z => rfl, fun {M F W env s A E} hA R => nq q1 q2 q3 (fun a e => nomatch e) (ai ha al) hA R fun us s₁ g => by
  obtain ⟨hz, k1, r⟩ := g
  obtain ⟨v, rfl, r1⟩ := r.one
  obtain ⟨t, rfl⟩ := r1.int_inv
  refine call_range_1 ?_
  have hsz : Builtin.Range.rangeSize 0 (k : Int) 1 = k := by rw [rangeSize_one]; split <;> lia
  refine wpAny_pyIter_range (IsRange.new ..) (small_one (by decide) (by decide) (by lia) (by lia)) ?_
  rw [hsz]
  generalize hH : s₁.heap.push { cls := .type "range", data := .fields #[.int 0 s₁.toks, .int (k : Int) t, .int 1 (s₁.toks + 1)] } = H
  have k2 : Keeps s₁ { s₁ with heap := H, toks := s₁.toks + 1 + 1 } := hH ▸ Kp.push' s₁ _ _
  have hz2 : s₁.heap.objs.size ≤ H.objs.size := by rw [← hH]; exact aC ..
  have Wk := Walks.range (prog := D.prog) (w := D.w) hA.handled H.objs.size 0 1 k
  have Wk' : Walks D.prog D.w A H.objs.size [H.objs.size] [H.objs.size] (jr k).length (fun i v => i < k ∧ ∃ t, v = .int i t) (fun i h => IsRangeIter h H.objs.size (0 + (i : Nat) * 1) ((k : Int) - (i : Nat)) 1) := by
   have hl : (jr k).length = k := by simp [jr]
   rw [hl]
   exact { Wk with item := fun i s Q E hi st hQ => Wk.item i s Q E hi st fun v h' tk hP st' hk => hQ v h' tk ⟨hi, by obtain ⟨t, e⟩ := hP; exact ⟨t, by rw [e, Int.mul_one, Int.zero_add]⟩⟩ st' hk }
  refine ⟨H.objs.size, [H.objs.size], [H.objs.size], _, _, _, { s₁ with heap := H, toks := s₁.toks + 1 + 1 }, rfl, A1' hz hz2, Kp.trans' k1 k2, aC .., Kp.push' _ _ _,
   ⟨KTurns.ofWalks (target := target) Wk' fun i v s Q E st h => jn st rfl (by decide) h, fun b hb => .inl hb, fun b hb => ?_, fun b hb => ?_, ?_, fun s Q E st h => Wk.self 0 s Q E st h, fun M₁ i v h p z z => ?_⟩⟩
  ·rw [C1' hb]; exact A5' (A4' _ rfl)
  ·rw [C1' hb]; exact A6' _
  ·show IsRangeIter _ _ (0 + ((0 : Nat) : Int) * 1) ((k : Int) - ((0 : Nat) : Int)) 1
   rw [show (0 : Int) + ((0 : Nat) : Int) * 1 = 0 from rfl, show (k : Int) - ((0 : Nat) : Int) = k by rfl]
   exact A4' _ rfl
  ·obtain ⟨hi, t, rfl⟩ := p
   exact ⟨.int i, by simp [jr, hi], .val (.int _ _)⟩⟩
noncomputable def fq : Nat → List V → List V
 | _, [] => []
 | i, x :: xs => .tup [.int i, x] :: fq (i + 1) xs
theorem jg : ∀ (i : Nat) (xs : List V), (fq i xs).length = xs.length
 | _, [] => rfl
 | i, _ :: xs => congrArg Nat.succ (jg (i + 1) xs)
theorem jx : ∀ (k : Nat) (xs : List V) (i : Nat) (x : V), xs[i]? = some x → (fq k xs)[i]? = some (.tup [.int ((k + i : Nat) : Int), x])
 | _, [], _, _, e => (nomatch e)
 | k, _ :: xs, 0, x, e => by cases e; rfl
 | k, _ :: xs, i + 1, x, e => by
  have := jx (k + 1) xs i x (by simpa using e)
  rw [show k + 1 + i = k + (i + 1) by exact Nat.add_right_comm ..] at this
  exact this
theorem jp {es : List Expr} {tk : Nat} {tp : Pos} {s₁ s₂ : Shared} {l : Addr} {vs : Array Value} {xs : List V} {U : Nat → Heap → Prop} {Mid : Nat → Addr → Heap → Prop} (R : Rel D M F W env ea s)
  (Wk : WalksT D.prog D.w A (s₁.heap.objs.size + 1) [s₁.heap.objs.size + 1, s₁.heap.objs.size, l] [s₁.heap.objs.size + 1, s₁.heap.objs.size] vs.size (fun i vals => ∃ t x, vs[i]? = some x ∧ vals = #[.int i t, x]) U Mid)
  (rr : VRs D.prog D.w M s₁.heap vs.toList xs) (hM : ¬ M l) (hll : l < s₁.heap.objs.size) (hz : s.heap.objs.size ≤ s₁.heap.objs.size) (k1 : Keeps s s₁) (hs : s₂.heap.objs.size = s₁.heap.objs.size + 2) (k2 : Keeps s₁ s₂) (hU : U 0 s₂.heap) :
  mq D M W A (.Tuple es tk tp) s (fq 0 xs) (.ref (s₁.heap.objs.size + 1)) s₂ := by
 have KT := KTurns.ofWalksU (elts := es) (k := tk) (pos := tp) Wk.toU
 rw [show vs.size = (fq 0 xs).length by rw [jg, ← rr.length, Array.length_toList]] at KT
 generalize hZ : s₁.heap.objs.size = z at *
 have h1 : z ≤ s₂.heap.objs.size := hs ▸ Nat.le_add_right ..
 refine ⟨_, _, _, _, _, _, s₁, rfl, by rw [hZ]; exact hz, k1, by rw [hZ]; exact h1, k2, KT, inC (.inl (.head _)) (inC (.inl (.tail _ (.head _))) (inC (.inr fun q => hM (R.wm _ q)) inN)), ?_, ?_, hU, fun s Q E st h => Wk.toU.self 0 s Q E st h, fun M₁ i v h p km k => ?_⟩
 ·rw [hs]
  exact inC (Nat.lt_succ_self _) (inC (B1' (Nat.lt_succ_self _)) (inC (B1' (B1' hll)) inN))
 ·rw [hZ]
  exact inC (Nat.le_succ _) (inC (A6' _) inN)
 ·obtain ⟨T, vals, rfl, ⟨t, x, hx, rfl⟩, o, hT, hc, n', hd⟩ := p
  obtain ⟨y, ey, ry⟩ := (rr.mono k km).get' (Array.getElem?_toList ▸ hx)
  exact ⟨_, by have := jx 0 xs i y ey; rw [Nat.zero_add] at this; exact this, .own rfl hT hc hd (.cons (.int _ _) (.cons ry .nil))⟩
theorem pE {es : List Expr} {tk : Nat} {tp : Pos} {f : Str} {p pos : Pos} {a : Expr} {xs : List V} (q1 : lk ea.names f = some .globalImplicit) (q2 : sq f "__debug__" = false) (q3 : D.gl f = some (.type "enumerate")) (ha : Ev D n ea a (.list xs)) : dP D n ea (.Tuple es tk tp) (.Call (.Name f p) [a] [] pos) (fq 0 xs) :=
 ⟨fun z z => rfl, fun {M F W env s A E} hA R => nq q1 q2 q3 (fun a e => nomatch e) (ai ha al) hA R fun us s₁ g => by
  obtain ⟨hz, k1, r⟩ := g
  obtain ⟨v, rfl, r1⟩ := r.one
  obtain ⟨l, vs, m, rfl, hM, ho, rr⟩ := r1.list_inv
  have hll := A5' ho
  have ne1 : l ≠ s₁.heap.objs.size := A8' hll
  have ne2 : l ≠ s₁.heap.objs.size + 1 := A8' (B1' hll)
  have ne3 : s₁.heap.objs.size + 1 ≠ s₁.heap.objs.size := Nat.succ_ne_self _
  refine call_enumerate_list ⟨_, ho, rfl, m, rfl⟩ fun h' he hi hs hk => ?_
  refine wpAny_pyIter_enum he ?_
  exact jp (s₂ := { s₁ with heap := h' }) R (WalksT.enumerate (prog := D.prog) (w := D.w) hA.handled (s₁.heap.objs.size + 1) s₁.heap.objs.size l ne3 ne2 ne1 vs) rr hM hll hz k1 hs ⟨h', s₁.toks, rfl, hk⟩ ⟨⟨_, he⟩, hi, ⟨_, hk _ _ ho, rfl, m, rfl⟩⟩⟩
end
end
section
section
variable {prog : Program} {w : World} {A : Around} {E : Ee} {s : Shared}
theorem eJ {it t : Addr} {i : Nat} {items} {x : Value} {Q : Ee} (hit : s.heap.IsTupleIter it t i) (ht : s.heap.IsTuple t items) (hx : items[i]? = some x)
  (hQ : ∀ h', h'.IsTupleIter it t (i + 1) → Heap.SameBut it s.heap h' → Q x { s with heap := h' }) : wpAny (model prog w) A (Builtin.SmallTypes.nextOf (.ref it)) Q E s := by
 obtain ⟨o, ho, hc, hd⟩ := id hit
 obtain ⟨ol, hol, _, nl, hdl⟩ := ht
 unfold Builtin.SmallTypes.nextOf
 refine Wb (wpAny_callSpecial?_slot (name := Str.ofString "__next__") hit.typeIs F.slot_tuple_iterator_next
  (wpAny_call_entry F.slot_tuple_iterator_next hit.typeIs F.entry_tuple_iterator_next ?_ (F.args_tuple_iterator_next_1 _)))
 show wpAny _ _ (field (.ref it) 0 >>= _) _ _ s
 refine Wb (wpAny_field ho hd (x := .ref t) rfl ?_)
 show wpAny _ _ (if (Value.ref t == Value.none) = true then _ else _) _ _ s
 rw [if_neg (show ¬ ((Value.ref t == Value.none) = true) from Bool.false_ne_true)]
 show wpAny _ _ (field (.ref it) 1 >>= _) _ _ s
 refine Wb (wpAny_field ho hd (x := .int i 0) rfl ?_)
 show wpAny _ _ (seqItems? (.ref t) >>= _) _ _ s
 refine Wb (wpAny_seqItems hol hdl ?_)
 simp only [Int.toNat_natCast, hx]
 refine Wb (wpAny_setField ho hd (by simp) (Wq ⟨x, rfl, Wq (hQ _ ?_ (Heap.SameBut.update ..))⟩))
 exact ⟨_, Heap.get?_update_self _ ho (Obj.isFreed_of_fields (Obj.data_mapFields hd _)), (Obj.cls_mapFields ..).trans hc, by
  rw [Obj.data_mapFields hd]; simp [rawInt]⟩
theorem fb {it t : Addr} {i : Nat} {items} {Q : Ee} (hh : A.handled = none) (hit : s.heap.IsTupleIter it t i) (ht : s.heap.IsTuple t items) (hx : items[i]? = none)
  (hE : ∀ h' e, Heap.ExtBut it s.heap h' → (∃ o, h'.get? e = some o ∧ o.cls = .type "StopIteration") → E (.ref e) { s with heap := h' }) : wpAny (model prog w) A (Builtin.SmallTypes.nextOf (.ref it)) Q E s := by
 obtain ⟨o, ho, hc, hd⟩ := id hit
 obtain ⟨ol, hol, _, nl, hdl⟩ := ht
 unfold Builtin.SmallTypes.nextOf
 refine Wb (wpAny_callSpecial?_slot (name := Str.ofString "__next__") hit.typeIs F.slot_tuple_iterator_next
  (wpAny_call_entry F.slot_tuple_iterator_next hit.typeIs F.entry_tuple_iterator_next ?_ (F.args_tuple_iterator_next_1 _)))
 show wpAny _ _ (field (.ref it) 0 >>= _) _ _ s
 refine Wb (wpAny_field ho hd (x := .ref t) rfl ?_)
 show wpAny _ _ (if (Value.ref t == Value.none) = true then _ else _) _ _ s
 rw [if_neg (show ¬ ((Value.ref t == Value.none) = true) from Bool.false_ne_true)]
 show wpAny _ _ (field (.ref it) 1 >>= _) _ _ s
 refine Wb (wpAny_field ho hd (x := .int i 0) rfl ?_)
 show wpAny _ _ (seqItems? (.ref t) >>= _) _ _ s
 refine Wb (wpAny_seqItems hol hdl ?_)
 simp only [Int.toNat_natCast, hx]
 refine Wb (wpAny_rule (Wb (wpAny_setField ho hd (by simp) ?_)))
 show wpAny _ _ (newExc (.type "StopIteration") [] >>= _) _ _ _
 refine Wb ?_
 simp only [newExc, newTuple]
 refine Wb (B7' ?_ (by size_fits))
 refine wpAny_bind (m := firstArgMember _ _) (wpAny_of_eq (a := Value.none) (by first | rfl | (simp only [firstArgMember]; rfl)) ?_)
 refine B7' ?_ (by size_fits)
 simp only [raiseNew]
 refine Wb (wpAny_handled ?_)
 first | rw [show A.in1.handled = none from hh] | rw [hh]
 refine Wb (Wq (wpAny_throw ?_))
 exact hE _ _ (((Heap.SameBut.update ..).extBut.push _).push _) ⟨_, A4' _ rfl, rfl⟩
theorem m0 (hh : A.handled = none) (it l : Addr) (hne : l ≠ it) (items : Array Value) :
  Draws prog w A it [it, l] items.size (fun i v => items[i]? = some v) (fun i h => h.IsTupleIter it l i ∧ h.IsTuple l items) where
 live := fun z z st => let ⟨o, ho, _⟩ := st.1; ⟨o, ho⟩
 frame := fun z z z st hk => ⟨st.1.at fun o e => hk it (by simp) o e, st.2.at fun o e => hk l (by simp) o e⟩
 item := fun i s Q E hi st hQ => by
  refine eJ st.1 st.2 (x := items[i]) (by simp [hi]) fun h' hit' hs' => ?_
  exact hQ _ h' s.toks (by simp [hi]) ⟨hit', st.2.extBut hs'.extBut hne⟩ hs'
 done := fun s Q E st hE => fb hh st.1 st.2 (by simp) hE
theorem oN {c : Value} {Q : Bool → Shared → Prop} (h : ∀ b, Q b s) : wpAny (model prog w) A (Builtin.SmallTypes.calledThroughType c) Q E s := Wb (wpAny_stack_any fun z => Wq (h _))
theorem gq (l : Addr) (items : Array Value) :
  Meets (Builtin.«enumerate.__new__» ⟨[.type "enumerate", .ref l], []⟩) (fun z R s => (∃ o n, s.heap.get? l = some o ∧ o.cls = .type "tuple" ∧ o.data = .seq items n) ∧
   R (.ok (.ret (.ref (s.heap.push { cls := .type "tuple_iterator", data := .fields #[.ref l, .int 0 0] }).objs.size)))
    { s with heap := (s.heap.push { cls := .type "tuple_iterator", data := .fields #[.ref l, .int 0 0] }).push { cls := .type "enumerate", data := .fields #[.none, .bool false, .ref s.heap.objs.size, rawInt 0, .none, .none] } }) :=
 .of_wp fun prog w A R s h => by
  obtain ⟨hp, g, d, tk, os⟩ := s; obtain ⟨⟨⟨oc, od, odt, os'⟩, n, hl, hc, hdt⟩, h⟩ := h
  have hc : oc = .type "tuple" := hc
  have hdt : odt = .seq items n := hdt
  subst hc hdt
  have hsub := sub_enumerate
  have hL : Heap.IsTuple (Shared.heap ⟨hp, g, d, tk, os⟩) l items := ⟨_, hl, rfl, n, rfl⟩
  wp_walk using AutoSeq1.wpAny_loadPart' hl, oN
  intro b
  cases b <;> (wp_walk using AutoSeq1.wpAny_loadPart' hl, wpAny_pyIter_tuple hL; exact ⟨_, rfl, h⟩)
end
section
variable {D : Std} {n : Nat} {ea : ao}
theorem rJ {es : List Expr} {tk : Nat} {tp : Pos} {f : Str} {p pos : Pos} {a : Expr} {xs : List V} (q1 : lk ea.names f = some .globalImplicit) (q2 : sq f "__debug__" = false) (q3 : D.gl f = some (.type "enumerate")) (ha : Ev D n ea a (.tup xs)) : dP D n ea (.Tuple es tk tp) (.Call (.Name f p) [a] [] pos) (fq 0 xs) :=
 ⟨fun z z => rfl, fun {M _ W env s A E} hA R => nq q1 q2 q3 (fun a e => nomatch e) (ai ha al) hA R fun us s₁ g => by
  obtain ⟨hz, k1, r⟩ := g
  obtain ⟨v, rfl, r1⟩ := r.one
  obtain ⟨l, vs, m, o, rfl, hM, ho, hc, hd, rr⟩ := r1.tup_inv
  have hll := A5' ho
  have ne1 : l ≠ s₁.heap.objs.size := A8' hll
  have ne2 : l ≠ s₁.heap.objs.size + 1 := A8' (B1' hll)
  have ne3 : s₁.heap.objs.size + 1 ≠ s₁.heap.objs.size := Nat.succ_ne_self _
  refine callType_new F.called_enumerate (by decide) (F.typeCall_enumerate_1 _) (F.newCall_enumerate_1 _) (fun obj => F.args_object_init_2 obj _) F.entry_enumerate_new (gq l vs) ⟨⟨o, m, ho, hc, hd⟩, ?_⟩
  generalize hH : s₁.heap.push { cls := .type "tuple_iterator", data := .fields #[.ref l, .int 0 0] } = H
  have hz1 : H.objs.size = s₁.heap.objs.size + 1 := by rw [← hH]; exact Heap.size_push ..
  have k2 : ∀ b o, s₁.heap.get? b = some o → H.get? b = some o := fun b o e => by rw [← hH]; exact A3' _ e
  have hit : H.IsTupleIter s₁.heap.objs.size l 0 := by rw [← hH]; exact ⟨_, A4' _ rfl, rfl, rfl⟩
  generalize hH2 : H.push { cls := .type "enumerate", data := .fields #[.none, .bool false, .ref s₁.heap.objs.size, rawInt 0, .none, .none] } = H2
  have hz2 : H2.objs.size = s₁.heap.objs.size + 2 := by rw [← hH2, Heap.size_push, hz1]
  have k3 : ∀ b o, H.get? b = some o → H2.get? b = some o := fun b o e => by rw [← hH2]; exact A3' _ e
  have he : IsEnum H2 (s₁.heap.objs.size + 1) s₁.heap.objs.size 0 .none := by
   have := A4' H (o := { cls := .type "enumerate", data := .fields #[.none, .bool false, .ref s₁.heap.objs.size, rawInt 0, .none, .none] }) rfl
   rw [hH2, hz1] at this; exact this
  rw [hz1]
  refine ⟨⟨_, he, rfl⟩, wpAny_pyIter_enum (s := { s₁ with heap := H2 }) he ?_⟩
  refine jp (s₂ := { s₁ with heap := H2 }) R (WalksT.enumerateD (prog := D.prog) (w := D.w) (A := A) (m0 (A := A.in1) hA.handled s₁.heap.objs.size l ne1 vs) (s₁.heap.objs.size + 1) ne3 (by simp [ne3, ne2.symm]) (List.mem_cons_self ..)) rr hM hll hz k1 hz2 ⟨H2, s₁.toks, rfl, fun b o e => k3 b o (k2 b o e)⟩ ⟨⟨_, he⟩, ?_, ⟨o, k3 _ _ (k2 _ _ ho), hc, m, hd⟩⟩
  obtain ⟨o', e', c', d'⟩ := hit
  exact ⟨o', k3 _ _ e', c', d'⟩⟩
noncomputable def Bv (hr : D.gl "range" = some (.type "range")) (he : D.gl "enumerate" = some (.type "enumerate")) (r : Evr D n) (ea : ao) (target e : Expr) : Option { xs : List V // dP D n ea target e xs } := match e with
 | .Call (.Name f _) [a] [] _ => match q1 : lk ea.names f, q2 : sq f "__debug__" with
  | some .globalImplicit, false => match h : sq f "range" with
   | true => match r ea a with
    | some ⟨.int (.ofNat k), ha⟩ => if hk : k ≤ 100000 then some ⟨_, rA q1 q2 ((aN.mp h).symm ▸ hr) ha hk⟩ else none
    | _ => none
   | false => match h : sq f "enumerate" with
    | true => match target, r ea a with
     | .Tuple _ _ _, some ⟨.list xs, ha⟩ => some ⟨_, pE q1 q2 ((aN.mp h).symm ▸ he) ha⟩
     | .Tuple _ _ _, some ⟨.tup xs, ha⟩ => some ⟨_, rJ q1 q2 ((aN.mp h).symm ▸ he) ha⟩
     | _, _ => none
    | false => none
  | _, _ => none
 | _ => none
end
end
section
noncomputable def il : Nat → Sre.M → Option Sre.M
 | 0, _ => none
 | k + 1, m => match (m.runFor Builtin.Re.reTurnSteps).outcome.isSome with
  | true => some (m.runFor Builtin.Re.reTurnSteps)
  | false => il k (m.runFor Builtin.Re.reTurnSteps)
section
variable {M : Model} {A : Around} {E : Ee} {s : Shared}
theorem lW {Q : Sre.M → Shared → Prop} {m' : Sre.M} (h : Q m' s) : ∀ {k K : Nat} {m : Sre.M}, k ≤ K → il k m = some m' → wpAny M A (Builtin.Re.reDrive K m) Q E s
 | 0, _, _, _, e => (nomatch e)
 | k + 1, 0, _, l, _ => absurd l (Nat.not_succ_le_zero k)
 | k + 1, K + 1, m, l, e => by
  unfold il at e
  unfold Builtin.Re.reDrive
  dsimp only
  cases q : (m.runFor Builtin.Re.reTurnSteps).outcome.isSome with
  | true =>
   rw [q] at e
   cases e
   rw [if_pos rfl]
   exact Wq h
  | false =>
   rw [q] at e
   rw [if_neg (by decide)]
   exact Wb (wpAny_rule (lW h (Nat.le_of_succ_le_succ l) e))
theorem rP {f : Nat → Bool} {g : Nat → String} (b : Nat → PUnit → Sem (ForInStep PUnit)) (hb : ∀ i u, b i u = if f i = true then rule (g i) >>= fun z => pure (.yield ⟨⟩) else pure (.yield ⟨⟩)) {Q : PUnit → Shared → Prop} (h : Q ⟨⟩ s) : ∀ (l : List Nat), wpAny M A (forIn l PUnit.unit b) Q E s := by
 intro v0'
 induction v0' with
 | nil =>
  exact  by rw [List.forIn_nil]; exact Wq h
 | cons i l ih' =>
  exact  by
   rw [List.forIn_cons, hb]
   refine Wb ?_
   cases f i with
   | true => exact Wb (wpAny_rule (Wq (ih')))
   | false => exact Wq (ih')
noncomputable def c8 (k : Nat) (m : Sre.M) : Option (Option Sre.M) := match il k m with
 | some m' => match m'.outcome with
  | some .matched => some (some m')
  | some .failed => some none
  | _ => none
 | none => none
set_option tactic.hygienic true in
theorem dX {Q : Option Sre.M → Shared → Prop} {k : Nat} {m : Sre.M} {o : Option Sre.M} (hk : k ≤ 2 ^ 64) (e : c8 k m = some o) (h : Q o s) : wpAny M A (Builtin.Re.reRunToEnd m) Q E s := by
 unfold c8 at e
 unfold Builtin.Re.reRunToEnd
 cases q : il k m with
 | none => rw [q] at e; cases e
 | some m' =>
  rw [q] at e
  refine Wb (lW (m' := m') ?_ hk q)
  refine Wb (rP (f := fun i => m'.seen.has i) (g := fun i => Sre.names.getD i "") _ (fun i u => ?_) ?_ _)
  ·rfl
  ·dsimp only at e
   split at e
   ·rename_i q2; cases e; rw [q2]; exact Wq h
   ·rename_i q2; cases e; rw [q2]; exact Wq h
   ·cases e
end
end
section
set_option tactic.hygienic true in
theorem px {D : Std} {n : Nat} {xs : List V} {x : V} (hl : xs.length ≤ 10000) : rB D n "append" (.lis xs) [x] (.lis (xs ++ [x])) .none := fun {M s A E a _ pl} hA st d hmb hbs hM mobj => by
 cases mobj with | lis ho r =>
 rename_i vs k
 refine getMethod_builtin (T := "list") ⟨_, ho, rfl⟩ F.plainAttrs_list F.slot_list_append F.type_list_append (fun b e => by cases e; exact ⟨_, ho, rfl⟩) ?_
 refine ⟨A6' _, Kp.refl' s, fun s₂ us E k₂ hz₂ ru => ⟨.inl (fun a e => nomatch e), ?_⟩⟩
 obtain ⟨v, rfl, rv⟩ := ru.one
 have ho₂ := Kp.get k₂ ho
 have hlen : vs.size + 1 ≤ sizeLine := by
  have := r.length
  rw [Array.length_toList] at this
  rw [aX]; lia
 refine wpAny_list_append_plain ⟨_, ho₂⟩ (fun h₆ hp₆ hs₆ => ?_) (by lia)
 obtain ⟨m₆, hp₆⟩ := hp₆
 have kX : aq (fun b => b = a) s₂ { s₂ with heap := h₆ } := ⟨h₆, s₂.toks, rfl, fun b o q e => (hs₆.2 b q).trans e⟩
 have kM : ∀ b o, ¬ M b → s₂.heap.get? b = some o → h₆.get? b = some o := fun b o q e => kX.get (s' := { s₂ with heap := h₆ }) (fun hb => q (hb ▸ hM)) e
 refine ⟨kX, .lis hp₆ ?_, .none⟩
 rw [Array.toList_push]
 exact VRs.append (.cons (rv.mono kM fun z q => .inl q) .nil) ((r.keeps fun z z e => Kp.get k₂ e).mono' kM)
end
section
section
variable {D : Std} {n : Nat} {M F W : Ap} {env : Env} {ea ea' : ao} {s s' : Shared} {A : Around} {E : Ee}
theorem Rel.setMw (R : Rel D M F W env ea s) (h : ea.mo = []) (b : Bool) : Rel D M F W env { ea with mw := b } s :=
 { R with loc := let ⟨m, hm, hl, _⟩ := R.loc; ⟨m, hm, hl, fun x mv e => by
   have e : lk ea.mo x = some mv := e
   rw [h] at e; cases e⟩ }
noncomputable def di (names : List (Str × NameKind)) (p : Str) (mv : MV) (wr : Bool) : ao := { names, loc := [], cel := [], mo := [(p, mv)], cw := wo names, mw := wr, tw := false }
noncomputable def fu (D : Std) (M : Ap) (fd : FuncData) (ea' : ao) (p : Str) (wr : Bool) (a l : Addr) (mv : MV) (r : V) (s : Shared) : Ee := fun u s' => s.heap.objs.size ≤ s'.heap.objs.size ∧ aq (fun b => wr = true ∧ b = l) s s' ∧ VR D.prog D.w M s'.heap u r ∧
   ∀ ys zs, (∀ h, pushCells h fd.scope.names = h) → mv = .hdr ys → ea'.mw = true → lk ea'.mo p = some (.hdr zs) → cj D M s'.heap a l (.hdr zs)
noncomputable def yS (D : Std) (n : Nat) (ea : ao) (b : List Stmt) (ea' : ao) (r : V) : Prop := ∀ {M F W : Ap} {env : Env} {s : Shared} {A : Around} {E : Ee}, bb n A → Rel D M F W env ea s →
 wpAny (model D.prog D.w) A (execs b env) (fun f s' => s.heap.objs.size ≤ s'.heap.objs.size ∧ aq W s s' ∧ Rel D M F W env ea' s' ∧ VR D.prog D.w M s'.heap (match f with | .ret v => v | _ => .none) r) E s
theorem dF.fl {b : List Stmt} {r : V} (h : dF D n ea b (.ret ea' r)) : yS D n ea b ea' r := fun hA R => au (h hA R) fun f s' g => by
 obtain ⟨g1, g2, g3, u, rfl, g4⟩ := g
 exact ⟨g1, g2, g3, g4⟩
theorem mN {wr : Bool} {fa : Addr} {fd : FuncData} {body : List Stmt} (FA : dW D fa fd body) (hA : bb (n + 1) A) (hst : D.St s.heap) (hd : Dom M s) (hmb : ∀ b, M b → D.base ≤ b ∨ b = D.tab) (hbs : D.base ≤ s.heap.objs.size)
  {a l : Addr} {mv : MV} (hM : M l) (mobj : cj D M s.heap a l mv) {p : Str} (hp : lk fd.scope.names p = some .local) {ps : List Str} {us : List Value} {xs : List V} {r : V}
  (hl : ps.length = us.length) (rv : VRs D.prog D.w M s.heap us xs) (ha : c9 D (di fd.scope.names p mv wr) (ps.zip xs) ea) (hb : yS D n ea body ea' r) :
  wpAny (model D.prog D.w) A.in1 (newFunctionEnv fd.scope fd.globals fd.closure ((p :: ps).zip (.ref a :: us)) (fd.qualname ++ ".<locals>.") (some fa) fd.code none fd.builtins)
   (fun env s₂ => s₂.heap.NoLimit ∧ codeAny (model D.prog D.w) A (.func body env) (fun r' s' => match r' with | .ok (.ret v) => fu D M fd ea' p wr a l mv r s v s' | .ok _ => False | .error e => E e s') s₂) (fun e s' => E e s') s := by
 unfold fu
 simp only [newFunctionEnv, Option.isSome_none, Bool.false_eq_true, if_false]
 refine Wb (wpAny_alloc ?_)
 refine Wb (wpAny_layCells _ (fun name kind cells => by cases hkc : kind == NameKind.cell <;> simp [hkc]) _ _ _ _ ?_)
 rw [show ({ s with heap := s.heap.push { cls := .type "frame", data := .dict #[] } } : Shared).heap.objs.size = s.heap.objs.size + 1 from Heap.size_push ..]
 obtain ⟨kp, R⟩ := lA FA hst hd hmb hbs (qual := fd.qualname ++ ".<locals>.") (func := some fa)
 dsimp only at kp R ⊢
 generalize hH : pushCells (s.heap.push { cls := .type "frame", data := .dict #[] }) fd.scope.names = H at kp R ⊢
 have hM2 : ∀ b, (M b ∨ (s.heap.objs.size ≤ b ∧ b < H.objs.size)) → M b ∨ s.heap.get? b = none := fun b q => by
  rcases q with q | q
  ·exact .inl q
  ·right
   cases e : s.heap.get? b with
   | none => rfl
   | some o => exact absurd (A5' e) (Nat.not_lt.mpr q.1)
 have rv₁ : VRs D.prog D.w (fun b => M b ∨ (s.heap.objs.size ≤ b ∧ b < H.objs.size)) H us xs := rv.mono (fun b o z e => Kp.get kp e) hM2
 have mobj₁ : cj D (fun b => M b ∨ (s.heap.objs.size ≤ b ∧ b < H.objs.size)) H a l mv := mobj.grow (s' := { s with heap := H }) (fun b o z e => Kp.get kp e) hM2 fun o e => Kp.get kp e
 have hll : @LT.lt Nat _ l s.heap.objs.size := hd l hM
 have nl : ¬ ((s.heap.objs.size ≤ l ∧ l < H.objs.size)) := fun q => A7' _ (A2' hll q.1)
 have nL : l ≠ s.heap.objs.size := A8' hll
 rw [List.zip_cons_cons, List.forIn_cons]
 refine Wb (Wb (Wb (dz R (v := .sta (.ref a)) hp (.sta _) fun s₂ k₂ R₂ => Wq ?_)))
 dsimp only
 have mobj₂ := mobj₁.keep (s' := s₂) (s := { s with heap := H }) (X := fun b => s.heap.objs.size ≤ b ∧ b < H.objs.size) (fun b q => .inr q) nl k₂
 have rv₂ := rv₁.mono' (h' := s₂.heap) fun b o q e => k₂.get (fun hw => q (.inr hw)) e
 have R₃ := ((R₂.widen (F' := fun b => (s.heap.objs.size ≤ b ∧ b < H.objs.size) ∨ b = l) (W' := fun b => (s.heap.objs.size ≤ b ∧ b < H.objs.size) ∨ (wr = true ∧ b = l)) (fun b q => .inl q) (fun b q => .inl q) (fun b q => q.imp id (·.2)) (fun b q => q.elim .inr fun e => .inl (e ▸ hM)) (.inl rfl)).setMw rfl wr).toMut (x := p) (.inl ⟨hp, by rw [iD, if_pos rfl]⟩) nL (.inr rfl) ⟨fun h => .inr ⟨h, rfl⟩, fun h q => q.elim nl fun q => by rw [q.1] at h; cases h⟩ mobj₂
 have hE : rm (up ([] : Lv) p (V.sta (.ref a))) p = [] := by unfold up rm; rw [bi]; rfl
 unfold cF baseE at R₃
 dsimp only at R₃
 rw [hE] at R₃
 refine gB (env := newEnv fd.scope s.heap.objs.size fd.globals (cellsFrom (s.heap.objs.size + 1) fd.scope.names fd.closure) (fd.qualname ++ ".<locals>.") (some fa) fd.code none fd.builtins) _ (fun z z z => rfl) ps hl R₃ ha rv₂ fun s₃ k₃ R₄ => Wq ?_
 refine ⟨FA.lim _ R₄.st, codeAny_func ?_⟩
 have hA' : bb n (A.deeper (newEnv fd.scope s.heap.objs.size fd.globals (cellsFrom (s.heap.objs.size + 1) fd.scope.names fd.closure) (fd.qualname ++ ".<locals>.") (some fa) fd.code none fd.builtins)) :=
  ⟨by have := hA.units; show A.units + 3 + 60 + 20 * n < cLine; lia, by have := hA.depth; show A.depth + 1 + 20 + 10 * n < recursionLimit; lia, hA.handled⟩
 refine wpAny_mono (hb (E := fun e s' => wpAny (model D.prog D.w) (A.deeper (newEnv fd.scope s.heap.objs.size fd.globals (cellsFrom (s.heap.objs.size + 1) fd.scope.names fd.closure) (fd.qualname ++ ".<locals>.") (some fa) fd.code none fd.builtins)) (leaving (newEnv fd.scope s.heap.objs.size fd.globals (cellsFrom (s.heap.objs.size + 1) fd.scope.names fd.closure) (fd.qualname ++ ".<locals>.") (some fa) fd.code none fd.builtins) e) (fun z s'' => E e s'') (fun e' s'' => E e' s'') s') hA' R₄) (fun f s₄ g => ?_) fun z z x => x
 obtain ⟨hz₄, kw, R₅, rvu⟩ := g
 have hz2 : s.heap.objs.size ≤ s₃.heap.objs.size := Nat.le_of_lt (R₄.dom _ (R₄.fm _ (R₄.wf _ R₄.ml)))
 have k03 : aq (fun b => (s.heap.objs.size ≤ b ∧ b < H.objs.size) ∨ (wr = true ∧ b = l)) s s₄ := (((Kp.toW kp).trans (k₂.sub fun b q => .inl q)).trans k₃).trans kw
 refine ⟨A1' hz2 hz₄, ?_, rvu.mono (fun z z z e => e) fun b q => .inl (.inl q), fun ys zs hnc hmv hmw hmo => ?_⟩
 rotate_left
 ·subst hmv
  obtain ⟨_, _, _, hu⟩ := R₅.loc
  obtain ⟨a', l', ne, _, hw, r', _⟩ := hu p _ hmo
  have hHs : H.objs.size = s.heap.objs.size + 1 := by rw [← hH, hnc]; exact Heap.size_push ..
  have hll' : l' = l := by
   rcases hw.1 hmw with q | q
   ·have q1 : @LE.le Nat _ s.heap.objs.size l' := q.1
    have q2 : @LT.lt Nat _ l' H.objs.size := q.2
    rw [hHs] at q2
    exact absurd (Nat.le_antisymm (Nat.le_of_lt_succ q2) q1) ne
   ·exact q.2
  subst hll'
  cases mobj with | hdr ho hd' hm hx hl₀ rr ha' hdw =>
  cases r' with | hdr _ _ _ _ hl₁ rr₁ _ _ =>
  have kM : ∀ b o, ¬ M b → s.heap.get? b = some o → s₄.heap.get? b = some o := fun b o q e => k03.get (fun x => x.elim (fun x => A7' _ (A2' (A5' e) x.1)) fun x => q (x.2 ▸ hM)) e
  exact .hdr (kM _ _ ha' ho) (hd'.at' fun o e => kM _ _ hdw e) hm hx hl₁ (rr₁.mono (fun z z z e => e) fun b q => .inl (.inl q)) ha' hdw
 obtain ⟨h', t, rfl, kk⟩ := k03
 exact ⟨h', t, rfl, fun b o q e => kk b o (fun x => x.elim (fun x => A7' _ (A2' (A5' e) x.1)) q) e⟩
theorem gP {wr : Bool} {fa : Addr} {fd : FuncData} {body : List Stmt} (FA : dW D fa fd body) (hA : bb (n + 1) A) (hst : D.St s.heap) (hd : Dom M s) (hmb : ∀ b, M b → D.base ≤ b ∨ b = D.tab) (hbs : D.base ≤ s.heap.objs.size)
  {a l : Addr} {mv : MV} (hM : M l) (mobj : cj D M s.heap a l mv) {p : Str} (hp : lk fd.scope.names p = some .local) {ps : List Str} {xs : List V} {r : V} {ag : Args}
  (hbind : ∀ E' : Ee, wpAny (model D.prog D.w) A.in1 (bindArgs fd ag) (fun b s' => s.heap.objs.size ≤ s'.heap.objs.size ∧ Keeps s s' ∧ ∃ us, b = (p :: ps).zip (.ref a :: us) ∧ ps.length = us.length ∧ VRs D.prog D.w M s'.heap us xs) E' s) (ha : c9 D (di fd.scope.names p mv wr) (ps.zip xs) ea) (hb : yS D n ea body ea' r) :
  wpAny (model D.prog D.w) A (call (.ref fa) ag.pos ag.kw) (fu D M fd ea' p wr a l mv r s) E s := by
 obtain ⟨o, ho, hdat⟩ := FA.at _ hst
 refine wpAny_call (codeAny_call_function (by have := hA.depth; lia) ho hdat FA.nc FA.ng FA.body (FA.code _ hst) ?_)
 refine au (hbind _) fun b s₁ h₁ => ?_
 obtain ⟨hz, k, us, rfl, hl, rv⟩ := h₁
 refine au (mN FA hA (D.stb _ _ (fun b o z z e => Kp.get k e) hst) (hd.size hz) hmb (A1' hbs hz) hM (mobj.keep (X := fun z => False) (fun b q => q.elim) (fun q => q) (Kp.toW k)) hp hl rv ha hb) fun env s₂ h₂ => ⟨h₂.1, codeAny_mono h₂.2 fun r' s' g => ?_⟩
 rcases r' with e | f
 ·exact g
 ·cases f <;> first | exact g | exact ⟨A1' hz g.1, (Kp.toW k).trans g.2.1, g.2.2⟩
theorem jG {wr : Bool} {fa : Addr} {fd : FuncData} {body : List Stmt} (FA : dW D fa fd body) (hA : bb (n + 1) A) (hst : D.St s.heap) (hd : Dom M s) (hmb : ∀ b, M b → D.base ≤ b ∨ b = D.tab) (hbs : D.base ≤ s.heap.objs.size)
  {a l : Addr} {mv : MV} (hM : M l) (mobj : cj D M s.heap a l mv) {p : Str} (hp : lk fd.scope.names p = some .local) {ps : List Str} {us : List Value} {xs : List V} {r : V}
  {ag : Args} (hl : ps.length = us.length) (hbind : ∀ E' : Ee, wpAny (model D.prog D.w) A.in1 (bindArgs fd ag) (fun b s' => s = s' ∧ b = (p :: ps).zip (.ref a :: us)) E' s) (rv : VRs D.prog D.w M s.heap us xs) (ha : c9 D (di fd.scope.names p mv wr) (ps.zip xs) ea) (hb : dF D n ea body (.ret ea' r)) :
  wpAny (model D.prog D.w) A (call (.ref fa) ag.pos ag.kw) (fu D M fd ea' p wr a l mv r s) E s :=
 gP FA hA hst hd hmb hbs hM mobj hp (fun E' => au (hbind E') fun b s' h => by obtain ⟨rfl, rfl⟩ := h; exact ⟨A6' _, Kp.refl' s, us, rfl, hl, rv⟩) ha (dF.fl hb)
end
end
section
theorem Ns.look {h : Heap} {d : Addr} {m : Str → Option Value} (hn : h.Ns d m) : ∃ o, h.get? d = some o ∧ ∀ name, lookIn name o = some (m name) := by
 obtain ⟨o, es, ep, ho, hd, hk, hm⟩ := hn
 refine ⟨o, ho, fun name => ?_⟩
 unfold lookIn
 rw [hd]
 dsimp only
 rw [← hm name]
 unfold nsFind findBy
 have hr : es.toList.any (·.refKey) = false := by
  rw [List.any_eq_false]
  intro e he
  obtain ⟨k, t, q⟩ := hk e (Array.mem_toList_iff.mp he)
  simp [DictEntry.refKey, q]
 rw [hr]
 rw [Array.find?_toList]
 cases es.find? (fun e => e.key.isStr name) <;> rfl
structure HdK (D : Std) where
 K : Frag
 C : Addr
 inn : ∀ h, D.St h → K.In h
 obj : ∀ d, (D.hobj d).cls = .ref C ∧ (D.hobj d).dict = some d ∧ notCls (D.hobj d) = true
 ga : findIn K (.ref C) "__getattribute__" = some (some (.builtin "object.__getattribute__"))
 gt : findIn K (.ref C) "__getattr__" = some none
section
variable {D : Std} {M : Ap} {s : Shared} {A : Around} {E : Ee}
set_option tactic.hygienic true in
theorem HdK.inst (X : HdK D) {h : Heap} {a l : Addr} {xs : List V} (mobj : cj D M h a l (.hdr xs)) : ∃ ox o, InstAt h a ox X.C (some o) ∧ lookIn "_headers" o = some (some (.ref l)) ∧ ∀ x : Str, x ≠ "_headers" → lookIn x o = some none := by
 cases mobj with | hdr ho hd hm hx hl r ha hdw =>
 rename_i d vs n m
 obtain ⟨o, h1, h2⟩ := Ns.look hd
 obtain ⟨q1, q2, q3⟩ := X.obj d
 exact ⟨_, o, ⟨ho, q1, q3, by rw [q2]; exact h1⟩, by rw [h2, hm], fun x hne => by rw [h2, hx x hne]⟩
theorem HdK.method (X : HdK D) (st : D.St s.heap) {a l f : Addr} {xs : List V} (mobj : cj D M s.heap a l (.hdr xs)) {name : Str} (hn : name ≠ "_headers") (hf : findIn X.K (.ref X.C) name = some (some (.ref f))) (ht : typeIn X.K (.ref f) = some (.type "function"))
  {pl : Sem Bool} {Q : Value × List Value → Shared → Prop} (h : Q (.ref f, [.ref a]) s) : wpAny (model D.prog D.w) A (getMethod (.ref a) name pl) Q E s := by
 obtain ⟨ox, o, I, _, h2⟩ := X.inst mobj
 exact method_fn (X.inn _ st) I X.ga X.gt hf ht (by show Option.map _ (lookIn name o) = _; rw [h2 name hn]; rfl) h
end
end
section
local macro_rules | `($n:num) => `(nat_lit $n)
open PySem.Challenge (pw_wv0036_01)
noncomputable def fI : List Obj → Nat → BT → BT
 | [], _, t => t
 | o :: r, n, t => fI r (Nat.succ n) (t.ins n o)
noncomputable def stm (i : Nat) : Stmt := pw_wv0036_01.main.body.getD i (.Pass ⟨0, 0, 0, 0⟩)
structure Sp where
 t : Expr
 v : Expr
 b : List Stmt
 o : List Stmt
 hs : List ExceptHandler
 ar : Arguments
 sc : Scope
noncomputable def noX : Expr := .Name "" ⟨0, 0, 0, 0⟩
noncomputable def sp : Stmt → Sp
 | .For t i b _ _ => ⟨t, i, b, [], [], default, default⟩
 | .If t b o _ => ⟨noX, t, b, o, [], default, default⟩
 | .Assign ts v _ => ⟨ts.getD 0 noX, v, [], [], [], default, default⟩
 | .Expr v _ => ⟨noX, v, [], [], [], default, default⟩
 | .Return v _ => ⟨noX, v.getD noX, [], [], [], default, default⟩
 | .Raise v _ _ => ⟨noX, v.getD noX, [], [], [], default, default⟩
 | .Try b hs _ _ _ => ⟨noX, noX, b, [], hs, default, default⟩
 | .ClassDef _ _ _ b _ _ _ _ _ _ _ => ⟨noX, noX, b, [], [], default, default⟩
 | .FunctionDef _ a b _ _ _ c _ _ _ => ⟨noX, noX, b, [], [], a, c⟩
 | _ => ⟨noX, noX, [], [], [], default, default⟩
structure Xp where
 es : List Expr
 f : Expr
 gs : List Comprehension
 sc : Scope
 ks : List Keyword
 ar : Arguments
 k : Nat
noncomputable def xq (es : List Expr) (f : Expr) : Xp := ⟨es, f, [], default, [], default, 0⟩
noncomputable def xp : Expr → Xp
 | .Call f as ks _ => ⟨as, f, [], default, ks, default, 0⟩
 | .Attribute o _ _ => xq [] o
 | .BinOp l _ r _ => xq [l, r] noX
 | .Compare l _ rs _ => xq (l :: rs) noX
 | .BoolOp _ es _ => xq es noX
 | .UnaryOp _ e _ => xq [e] noX
 | .IfExp t b o _ => xq [t, b, o] noX
 | .Subscript o i _ => xq [o, i] noX
 | .Tuple es k _ => ⟨es, noX, [], default, [], default, k⟩
 | .List es _ => xq es noX
 | .JoinedStr es _ => xq es noX
 | .FormattedValue v _ _ _ => xq [v] noX
 | .Constant _ k _ => ⟨[], noX, [], default, [], default, k⟩
 | .Lambda a b c _ => ⟨[b], noX, [], c, [], a, 0⟩
 | .ListComp e gs c _ => ⟨[e], noX, gs, c, [], default, 0⟩
 | .DictComp k v gs c _ => ⟨[k, v], noX, gs, c, [], default, 0⟩
 | _ => xq [] noX
noncomputable def bj (s : Stmt) (i : Nat) : Stmt := (sp s).b.getD i (.Pass ⟨0, 0, 0, 0⟩)
noncomputable def fnP (s : Stmt) : Arguments := (sp s).ar
noncomputable def fnB (s : Stmt) : List Stmt := (sp s).b
noncomputable def fnS (s : Stmt) : Scope := (sp s).sc
noncomputable def sv (x : String) (t : Nat) : Value := .str (.ofString x) t
noncomputable def iv (n : Nat) : Value := .int (Int.ofNat n) 0
noncomputable def ni (n t : Nat) : Value := .int (Int.ofNat n) t
noncomputable def rv (n : Nat) : Value := .ref n
noncomputable def kv (P : Params) (x : String) (t : Nat) (v : Value) : DictEntry := .mk (PyData.keyHash P (.ofString x)) (.str (.ofString x) t) v
noncomputable def ed {α : Type} (l : List α) (es : List (Nat × α)) : List α := es.foldl (fun l e => l.set e.1 e.2) l
noncomputable def fo (c : Value) (x y : String) (s : Stmt) (k : Nat) (d m cd : Value) : Obj := .mk c none (.func (.mk (.ofString x) (.ofString y) (fnP s) (.stmts (fnB s)) (fnS s) k [] d .none .none m none cd .none 0)) #[]
noncomputable def co (x y : String) (t l a p q : Nat) (u v w : Value) (r e : Nat) : Obj := .mk (.type "code") none (.fields #[sv x t, sv y (Nat.succ t), sv "/claim/cut.py" (Nat.succ (Nat.succ t)), iv l, iv a, iv 0, iv 0, iv 3, rv p, .bool true, iv 276, rv q, u, v, w, rv r, iv e, iv l, sv "/claim/cut.py" (Nat.succ e)]) #[]
noncomputable def sq' (c : String) (l : List Value) (n : Nat) : Obj := .mk (.type c) none (.seq (List.toArray l) n) #[]
noncomputable def o1 (P : Params) : Obj := (.mk (.type "dict") none (.dict #[kv P "builtins" 162 (rv 4), kv P "__main__" 163 (rv 5), kv P "_sre" 244 (rv 12)] 3) #[])
noncomputable def o2 (P : Params) : Obj := (.mk .none none (.dict #[kv P "\x69mport.loaded._sre" 183 (.bool true), kv P "class._frozen_importlib.BuiltinImporter" 185 (rv 14), kv P "watched.\x69mport" 206 (rv 18), kv P "class._frozen_importlib.ModuleSpec" 216 (rv 22), kv P "sys.modules.booked-epoch" 245 (iv 3), kv P "\x69mport.later-laid._sre" 270 (.bool true), kv P "watched.library" 272 (rv 27), kv P "watched.library-objects" 0 (sv "\u000c" 0), kv P "watched.library-deep._sre" 273 (sv "\u0004\u0000\u0000\u000b\u0004\u0000\u0000\u000b\u0004\u0000\u0000\u0003\u0004\u0000\u0000\u000b\u0008\u0004dict\u0002" 0)] 9) #[])
noncomputable def l3 (P : Params) : List DictEntry := [kv P "__name__" 165 (sv "law_wv0036_01" 2216), kv P "__doc__" 166 .none, kv P "__package__" 167 .none, kv P "__loader__" 168 (.builtin "__main__.__loader__#opaque"), kv P "__spec__" 169 .none, kv P "__annotations__" 170 (rv 6), kv P "__builtins__" 171 (rv 4), kv P "__file__" 173 (sv "/claim/cut.py" 172), kv P "__cached__" 174 .none, kv P "_sre" 275 (rv 12), kv P "tspecials" 317 (rv 36), kv P "_name_disallowed_re" 343 (rv 41), kv P "_value_disallowed_re" 377 (rv 46), kv P "_formatparam" 387 (rv 54), kv P "Headers" 545 (rv 175), kv P "rgb_to_hls" 566 (rv 186), kv P "rgb_to_hsv" 584 (rv 193), kv P "_QUOPRI_MAP" 1612 (rv 196), kv P "_QUOPRI_HEADER_MAP" 1613 (rv 201), kv P "_QUOPRI_BODY_MAP" 1614 (rv 203), kv P "ascii_lowercase" 1616 (sv "abcdefghijklmnopqrstuvwxyz" 1615), kv P "ascii_uppercase" 1618 (sv "ABCDEFGHIJKLMNOPQRSTUVWXYZ" 1617), kv P "ascii_letters" 1620 (sv "abcdefghijklmnopqrstuvwxyzABCDEFGHIJKLMNOPQRSTUVWXYZ" 1619), kv P "digits" 1622 (sv "0123456789" 1621), kv P "unquote" 2128 (rv 216), kv P "header_encode" 2138 (rv 224), kv P "_QUOPRI_BODY_ENCODE_MAP" 2139 (rv 226), kv P "_twin_re_1" 2164 (rv 234), kv P "_twin_re_2" 2206 (rv 239), kv P "CRLF" 2208 (sv "\r\n" 2207), kv P "quotedata" 2215 (rv 246), kv P "_law_steps" 2229 (rv 253), kv P "_law_parts" 2235 (rv 258), kv P "_law_refused" 2246 (rv 265), kv P "law" 2252 (rv 270)]
noncomputable def o3 (P : Params) : Obj := (.mk (.type "dict") none (.dict (List.toArray (l3 P)) 37) #[])
noncomputable def o4 : Obj := (.mk (.type "module") (some 0) .plain #[])
noncomputable def o5 : Obj := (.mk (.type "module") (some 3) .plain #[])
noncomputable def o6 : Obj := (.mk (.type "dict") none (.dict #[] 0) #[])
noncomputable def l29 : List Value := [iv 6, iv 0, rv 53, iv 15, iv 0, rv 60, iv 103, iv 0, rv 185, iv 126, iv 0, rv 192, iv 158, iv 0, rv 215, iv 160, iv 0, rv 223, iv 173, iv 0, rv 245, iv 176, iv 0, rv 252, iv 187, iv 0, rv 257, iv 194, iv 0, rv 264, iv 203, iv 0, rv 269]
noncomputable def o40 : Obj := sq' "tuple" [iv 14, iv 10, iv 4, iv 1, iv 1, iv 22, iv 0, iv 31, iv 16, iv 127, iv 0, iv 13, iv 7, iv 22, iv 0, iv 31, iv 16, iv 127, iv 0, iv 1] 0
noncomputable def o41 : Obj := (.mk (.type "re.Pattern") none (.fields #[sv "[\\x00-\\x1F\\x7F]" 319, ni 32 342, iv 0, .none, .none, rv 40, iv 0]) #[])
noncomputable def o45 : Obj := sq' "tuple" [iv 14, iv 14, iv 4, iv 1, iv 1, iv 9, iv 4294966783, iv 0, iv 0, iv 2147483648, iv 0, iv 0, iv 0, iv 0, iv 0, iv 13, iv 11, iv 9, iv 4294966783, iv 0, iv 0, iv 2147483648, iv 0, iv 0, iv 0, iv 0, iv 0, iv 1] 0
noncomputable def o46 : Obj := (.mk (.type "re.Pattern") none (.fields #[sv "[\\x00-\\x08\\x0A-\\x1F\\x7F]" 345, ni 32 376, iv 0, .none, .none, rv 45, iv 0]) #[])
noncomputable def o62 : Obj := sq' "tuple" [.none] 0
noncomputable def o68 : Obj := co "__init__" "Headers.__init__" 400 17 2 63 64 .none (rv 65) (rv 66) 67 407
noncomputable def o69 : Obj := fo (.type "function") "__init__" "Headers.__init__" (bj (stm 6) 0) 3 (rv 62) (sv "cpy313.wsgiref.headers" 282) (rv 68)
noncomputable def o75 : Obj := (.mk (.type "code") none (.fields #[sv "_convert_string_type" 410, sv "Headers._convert_string_type" 411, sv "/claim/cut.py" 412, iv 27, iv 2, iv 0, iv 1, iv 3, rv 70, .bool true, iv 276, rv 71, .none, rv 72, rv 73, rv 74, iv 417, iv 27, sv "/claim/cut.py" 418]) #[])
noncomputable def o76 : Obj := fo (.type "function") "_convert_string_type" "Headers._convert_string_type" (bj (stm 6) 1) 3 .none (sv "cpy313.wsgiref.headers" 282) (rv 75)
noncomputable def Cs : Obj := co "get_all" "Headers.get_all" 458 52 2 110 111 .none .none .none 112 461
noncomputable def pL : Obj := fo (.type "function") "get_all" "Headers.get_all" (bj (stm 6) 7) 3 .none (sv "cpy313.wsgiref.headers" 282) (rv 113)
noncomputable def uy : Obj := sq' "tuple" [.none] 0
noncomputable def Ca : Obj := co "get" "Headers.get" 464 56 3 116 117 .none (rv 118) (rv 119) 120 472
noncomputable def gp : Obj := fo (.type "function") "get" "Headers.get" (bj (stm 6) 8) 3 (rv 115) (sv "cpy313.wsgiref.headers" 282) (rv 121)
noncomputable def CI : Obj := co "items" "Headers.items" 487 69 1 133 134 .none (rv 135) (rv 136) 137 491
noncomputable def my : Obj := fo (.type "function") "items" "Headers.items" (bj (stm 6) 11) 3 .none (sv "cpy313.wsgiref.headers" 282) (rv 138)
noncomputable def Cv : Obj := co "setdefault" "Headers.setdefault" 514 81 3 159 160 .none (rv 161) (rv 162) 163 521
noncomputable def eF : Obj := fo (.type "function") "setdefault" "Headers.setdefault" (bj (stm 6) 15) 3 .none (sv "cpy313.wsgiref.headers" 282) (rv 164)
noncomputable def Ct : Obj := (.mk (.type "code") none (.fields #[sv "add_header" 524, sv "Headers.add_header" 525, sv "/claim/cut.py" 526, iv 89, iv 3, iv 0, iv 0, iv 11, rv 166, .bool true, iv 276, rv 167, .none, rv 168, rv 169, rv 170, iv 534, iv 89, sv "/claim/cut.py" 535]) #[])
noncomputable def i9 : Obj := fo (.type "function") "add_header" "Headers.add_header" (bj (stm 6) 16) 3 .none (sv "cpy313.wsgiref.headers" 282) (rv 171)
noncomputable def Cg (P : Params) : Obj := (.mk (.type "dict") none (.dict #[kv P "__module__" 395 (sv "cpy313.wsgiref.headers" 282), kv P "__firstlineno__" 399 (ni 15 398), kv P "__init__" 409 (rv 69), kv P "_convert_string_type" 419 (rv 76), kv P "__len__" 426 (rv 83), kv P "__setitem__" 435 (rv 90), kv P "__delitem__" 441 (rv 95), kv P "__getitem__" 449 (rv 102), kv P "__contains__" 457 (rv 109), kv P "get_all" 463 (rv 114), kv P "get" 474 (rv 122), kv P "keys" 480 (rv 127), kv P "values" 486 (rv 132), kv P "items" 493 (rv 139), kv P "__repr__" 500 (rv 146), kv P "__str__" 506 (rv 151), kv P "__bytes__" 513 (rv 158), kv P "setdefault" 523 (rv 165), kv P "add_header" 536 (rv 172), kv P "__static_attributes__" 538 (rv 173), kv P "__dict__" 540 (rv 176), kv P "__weakref__" 542 (rv 177), kv P "__doc__" 543 .none] 4) #[])
noncomputable def wk : Obj := (.mk (.type "type") none (.cls (.mk (.ofString "Headers") [.type "object"] [rv 175, .type "object"] 174 (.ofString "Headers") true [] [] false none false)) #[none, none, some (sv "Headers" 388), some (sv "Headers" 396), some (.builtin "object.__new__"), some (.bool true)])
noncomputable def Cy : Obj := co "rgb_to_hls" "rgb_to_hls" 548 103 3 180 181 .none (rv 182) (rv 183) 184 564
noncomputable def yZ : Obj := fo (.type "function") "rgb_to_hls" "rgb_to_hls" (stm 8) 3 .none (sv "cpy313.colorsys" 546) (rv 185)
noncomputable def CH : Obj := co "rgb_to_hsv" "rgb_to_hsv" 567 126 3 187 188 .none (rv 189) (rv 190) 191 582
noncomputable def yR : Obj := fo (.type "function") "rgb_to_hsv" "rgb_to_hsv" (stm 9) 3 .none (sv "cpy313.colorsys" 546) (rv 192)
noncomputable def r7 : List Value := [sv "=00" 591, sv "=01" 595, sv "=02" 599, sv "=03" 603, sv "=04" 607, sv "=05" 611, sv "=06" 615, sv "=07" 619, sv "=08" 623, sv "=09" 627, sv "=0A" 631, sv "=0B" 635, sv "=0C" 639, sv "=0D" 643, sv "=0E" 647, sv "=0F" 651, sv "=10" 655, sv "=11" 659, sv "=12" 663, sv "=13" 667, sv "=14" 671, sv "=15" 675, sv "=16" 679, sv "=17" 683, sv "=18" 687, sv "=19" 691, sv "=1A" 695, sv "=1B" 699, sv "=1C" 703, sv "=1D" 707, sv "=1E" 711, sv "=1F" 715, sv "=20" 719, sv "=21" 723, sv "=22" 727, sv "=23" 731, sv "=24" 735, sv "=25" 739, sv "=26" 743, sv "=27" 747, sv "=28" 751, sv "=29" 755, sv "=2A" 759, sv "=2B" 763, sv "=2C" 767, sv "=2D" 771, sv "=2E" 775, sv "=2F" 779, sv "=30" 783, sv "=31" 787, sv "=32" 791, sv "=33" 795, sv "=34" 799, sv "=35" 803, sv "=36" 807, sv "=37" 811, sv "=38" 815, sv "=39" 819, sv "=3A" 823, sv "=3B" 827, sv "=3C" 831, sv "=3D" 835, sv "=3E" 839, sv "=3F" 843, sv "=40" 847, sv "=41" 851, sv "=42" 855, sv "=43" 859, sv "=44" 863, sv "=45" 867, sv "=46" 871, sv "=47" 875, sv "=48" 879, sv "=49" 883, sv "=4A" 887, sv "=4B" 891, sv "=4C" 895, sv "=4D" 899, sv "=4E" 903, sv "=4F" 907, sv "=50" 911, sv "=51" 915, sv "=52" 919, sv "=53" 923, sv "=54" 927, sv "=55" 931, sv "=56" 935, sv "=57" 939, sv "=58" 943, sv "=59" 947, sv "=5A" 951, sv "=5B" 955, sv "=5C" 959, sv "=5D" 963, sv "=5E" 967, sv "=5F" 971, sv "=60" 975, sv "=61" 979, sv "=62" 983, sv "=63" 987, sv "=64" 991, sv "=65" 995, sv "=66" 999, sv "=67" 1003, sv "=68" 1007, sv "=69" 1011, sv "=6A" 1015, sv "=6B" 1019, sv "=6C" 1023, sv "=6D" 1027, sv "=6E" 1031, sv "=6F" 1035, sv "=70" 1039, sv "=71" 1043, sv "=72" 1047, sv "=73" 1051, sv "=74" 1055, sv "=75" 1059, sv "=76" 1063, sv "=77" 1067, sv "=78" 1071, sv "=79" 1075, sv "=7A" 1079, sv "=7B" 1083, sv "=7C" 1087, sv "=7D" 1091, sv "=7E" 1095, sv "=7F" 1099, sv "=80" 1103, sv "=81" 1107, sv "=82" 1111, sv "=83" 1115, sv "=84" 1119, sv "=85" 1123, sv "=86" 1127, sv "=87" 1131, sv "=88" 1135, sv "=89" 1139, sv "=8A" 1143, sv "=8B" 1147, sv "=8C" 1151, sv "=8D" 1155, sv "=8E" 1159, sv "=8F" 1163, sv "=90" 1167, sv "=91" 1171, sv "=92" 1175, sv "=93" 1179, sv "=94" 1183, sv "=95" 1187, sv "=96" 1191, sv "=97" 1195, sv "=98" 1199, sv "=99" 1203, sv "=9A" 1207, sv "=9B" 1211, sv "=9C" 1215, sv "=9D" 1219, sv "=9E" 1223, sv "=9F" 1227, sv "=A0" 1231, sv "=A1" 1235, sv "=A2" 1239, sv "=A3" 1243, sv "=A4" 1247, sv "=A5" 1251, sv "=A6" 1255, sv "=A7" 1259, sv "=A8" 1263, sv "=A9" 1267, sv "=AA" 1271, sv "=AB" 1275, sv "=AC" 1279, sv "=AD" 1283, sv "=AE" 1287, sv "=AF" 1291, sv "=B0" 1295, sv "=B1" 1299, sv "=B2" 1303, sv "=B3" 1307, sv "=B4" 1311, sv "=B5" 1315, sv "=B6" 1319, sv "=B7" 1323, sv "=B8" 1327, sv "=B9" 1331, sv "=BA" 1335, sv "=BB" 1339, sv "=BC" 1343, sv "=BD" 1347, sv "=BE" 1351, sv "=BF" 1355, sv "=C0" 1359, sv "=C1" 1363, sv "=C2" 1367, sv "=C3" 1371, sv "=C4" 1375, sv "=C5" 1379, sv "=C6" 1383, sv "=C7" 1387, sv "=C8" 1391, sv "=C9" 1395, sv "=CA" 1399, sv "=CB" 1403, sv "=CC" 1407, sv "=CD" 1411, sv "=CE" 1415, sv "=CF" 1419, sv "=D0" 1423, sv "=D1" 1427, sv "=D2" 1431, sv "=D3" 1435, sv "=D4" 1439, sv "=D5" 1443, sv "=D6" 1447, sv "=D7" 1451, sv "=D8" 1455, sv "=D9" 1459, sv "=DA" 1463, sv "=DB" 1467, sv "=DC" 1471, sv "=DD" 1475, sv "=DE" 1479, sv "=DF" 1483, sv "=E0" 1487, sv "=E1" 1491, sv "=E2" 1495, sv "=E3" 1499, sv "=E4" 1503, sv "=E5" 1507, sv "=E6" 1511, sv "=E7" 1515, sv "=E8" 1519, sv "=E9" 1523, sv "=EA" 1527, sv "=EB" 1531, sv "=EC" 1535, sv "=ED" 1539, sv "=EE" 1543, sv "=EF" 1547, sv "=F0" 1551, sv "=F1" 1555, sv "=F2" 1559, sv "=F3" 1563, sv "=F4" 1567, sv "=F5" 1571, sv "=F6" 1575, sv "=F7" 1579, sv "=F8" 1583, sv "=F9" 1587, sv "=FA" 1591, sv "=FB" 1595, sv "=FC" 1599, sv "=FD" 1603, sv "=FE" 1607, sv "=FF" 1611]
noncomputable def BX : List Value := ed (r7) [(32, sv "_" 1833), (33, sv "!" 1637), (42, sv "*" 1640), (43, sv "+" 1643), (45, sv "-" 1634), (47, sv "/" 1646), (48, sv "0" 1805), (49, sv "1" 1808), (50, sv "2" 1811), (51, sv "3" 1814), (52, sv "4" 1817), (53, sv "5" 1820), (54, sv "6" 1823), (55, sv "7" 1826), (56, sv "8" 1829), (57, sv "9" 1832), (65, sv "A" 1727), (66, sv "B" 1730), (67, sv "C" 1733), (68, sv "D" 1736), (69, sv "E" 1739), (70, sv "F" 1742), (71, sv "G" 1745), (72, sv "H" 1748), (73, sv "I" 1751), (74, sv "J" 1754), (75, sv "K" 1757), (76, sv "L" 1760), (77, sv "M" 1763), (78, sv "N" 1766), (79, sv "O" 1769), (80, sv "P" 1772), (81, sv "Q" 1775), (82, sv "R" 1778), (83, sv "S" 1781), (84, sv "T" 1784), (85, sv "U" 1787), (86, sv "V" 1790), (87, sv "W" 1793), (88, sv "X" 1796), (89, sv "Y" 1799), (90, sv "Z" 1802), (97, sv "a" 1649), (98, sv "b" 1652), (99, sv "c" 1655), (100, sv "d" 1658), (101, sv "e" 1661), (102, sv "f" 1664), (103, sv "g" 1667), (104, sv "h" 1670), (105, sv "i" 1673), (106, sv "j" 1676), (107, sv "k" 1679), (108, sv "l" 1682), (109, sv "m" 1685), (110, sv "n" 1688), (111, sv "o" 1691), (112, sv "p" 1694), (113, sv "q" 1697), (114, sv "r" 1700), (115, sv "s" 1703), (116, sv "t" 1706), (117, sv "u" 1709), (118, sv "v" 1712), (119, sv "w" 1715), (120, sv "x" 1718), (121, sv "y" 1721), (122, sv "z" 1724)]
noncomputable def yD : Obj := sq' "list" (BX) 0
noncomputable def Cz : Obj := co "unquote" "unquote" 2122 158 1 210 211 .none (rv 212) (rv 213) 214 2126
noncomputable def y0 : Obj := fo (.type "function") "unquote" "unquote" (stm 21) 3 .none (sv "cpy313.email.quoprimime" 1623) (rv 215)
noncomputable def Ci : Obj := sq' "tuple" [sv "iso-8859-1" 2129] 0
noncomputable def BU : Obj := co "header_encode" "header_encode" 2130 160 2 218 219 .none (rv 220) (rv 221) 222 2136
noncomputable def pM : Obj := fo (.type "function") "header_encode" "header_encode" (stm 22) 3 (rv 217) (sv "cpy313.email.quoprimime" 1623) (rv 223)
noncomputable def Ch : List Value := ed (r7) [(9, sv "\u0009" 2121), (10, sv "\n" 2146), (13, sv "\r" 2143), (32, sv " " 1839), (33, sv "!" 1842), (34, sv "\"" 1845), (35, sv "#" 1848), (36, sv "$" 1851), (37, sv "%" 1854), (38, sv "&" 1857), (39, sv "'" 1860), (40, sv "(" 1863), (41, sv ")" 1866), (42, sv "*" 1869), (43, sv "+" 1872), (44, sv "," 1875), (45, sv "-" 1878), (46, sv "." 1881), (47, sv "/" 1884), (48, sv "0" 1887), (49, sv "1" 1890), (50, sv "2" 1893), (51, sv "3" 1896), (52, sv "4" 1899), (53, sv "5" 1902), (54, sv "6" 1905), (55, sv "7" 1908), (56, sv "8" 1911), (57, sv "9" 1914), (58, sv ":" 1917), (59, sv ";" 1920), (60, sv "<" 1923), (62, sv ">" 1926), (63, sv "?" 1929), (64, sv "@" 1932), (65, sv "A" 1935), (66, sv "B" 1938), (67, sv "C" 1941), (68, sv "D" 1944), (69, sv "E" 1947), (70, sv "F" 1950), (71, sv "G" 1953), (72, sv "H" 1956), (73, sv "I" 1959), (74, sv "J" 1962), (75, sv "K" 1965), (76, sv "L" 1968), (77, sv "M" 1971), (78, sv "N" 1974), (79, sv "O" 1977), (80, sv "P" 1980), (81, sv "Q" 1983), (82, sv "R" 1986), (83, sv "S" 1989), (84, sv "T" 1992), (85, sv "U" 1995), (86, sv "V" 1998), (87, sv "W" 2001), (88, sv "X" 2004), (89, sv "Y" 2007), (90, sv "Z" 2010), (91, sv "[" 2013), (92, sv "\\" 2016), (93, sv "]" 2019), (94, sv "^" 2022), (95, sv "_" 2025), (96, sv "`" 2028), (97, sv "a" 2031), (98, sv "b" 2034), (99, sv "c" 2037), (100, sv "d" 2040), (101, sv "e" 2043), (102, sv "f" 2046), (103, sv "g" 2049), (104, sv "h" 2052), (105, sv "i" 2055), (106, sv "j" 2058), (107, sv "k" 2061), (108, sv "l" 2064), (109, sv "m" 2067), (110, sv "n" 2070), (111, sv "o" 2073), (112, sv "p" 2076), (113, sv "q" 2079), (114, sv "r" 2082), (115, sv "s" 2085), (116, sv "t" 2088), (117, sv "u" 2091), (118, sv "v" 2094), (119, sv "w" 2097), (120, sv "x" 2100), (121, sv "y" 2103), (122, sv "z" 2106), (123, sv "{" 2109), (124, sv "|" 2112), (125, sv "}" 2115), (126, sv "~" 2118)]
noncomputable def Bp : Obj := sq' "tuple" [iv 14, iv 4, iv 0, iv 1, iv 1, iv 6, iv 1, iv 16, iv 46, iv 1] 0
noncomputable def CL : Obj := (.mk (.type "re.Pattern") none (.fields #[sv "(?m)^\\." 2150, ni 40 2163, iv 0, .none, .none, rv 233, iv 0]) #[])
noncomputable def Am : Obj := sq' "tuple" [iv 14, iv 9, iv 4, iv 1, iv 2, iv 16, iv 10, iv 16, iv 13, iv 0, iv 7, iv 7, iv 16, iv 13, iv 16, iv 10, iv 15, iv 18, iv 5, iv 16, iv 10, iv 15, iv 13, iv 11, iv 16, iv 13, iv 5, iv 5, iv 0, iv 16, iv 10, iv 1, iv 15, iv 2, iv 0, iv 1] 0
noncomputable def CK : Obj := (.mk (.type "re.Pattern") none (.fields #[sv "(?:\\r\\n|\\n|\\r(?!\\n))" 2166, ni 32 2205, iv 0, .none, .none, rv 238, iv 0]) #[])
noncomputable def Cc : Obj := co "quotedata" "quotedata" 2209 173 1 240 241 .none (rv 242) (rv 243) 244 2213
noncomputable def vW : Obj := fo (.type "function") "quotedata" "quotedata" (stm 30) 3 .none (sv "cpy313.smtplib" 2147) (rv 245)
noncomputable def BW : Obj := co "_law_steps" "_law_steps" 2218 176 1 247 248 .none (rv 249) (rv 250) 251 2227
noncomputable def vB : Obj := fo (.type "function") "_law_steps" "_law_steps" (stm 32) 3 .none (sv "law_wv0036_01" 2216) (rv 252)
noncomputable def Cn : Obj := co "_law_parts" "_law_parts" 2230 187 2 254 255 .none .none .none 256 2233
noncomputable def tG : Obj := fo (.type "function") "_law_parts" "_law_parts" (stm 33) 3 .none (sv "law_wv0036_01" 2216) (rv 257)
noncomputable def BZ : Obj := co "_law_refused" "_law_refused" 2236 194 4 259 260 .none (rv 261) (rv 262) 263 2244
noncomputable def pB : Obj := fo (.type "function") "_law_refused" "_law_refused" (stm 34) 3 .none (sv "law_wv0036_01" 2216) (rv 264)
noncomputable def we : Obj := co "law" "law" 2247 203 1 266 267 .none .none .none 268 2250
noncomputable def uN : Obj := fo (.type "function") "law" "law" (stm 35) 3 .none (sv "law_wv0036_01" 2216) (rv 269)
noncomputable def fin (P : Params) : List Obj := [.mk (.type "dict") none (.dict #[kv P "__name__" 1 (sv "builtins" 160), kv P "__doc__" 2 (.builtin "builtins.__doc__:str#opaque"), kv P "__package__" 3 (.builtin "builtins.__package__:str#opaque"), kv P "__loader__" 4 (.builtin "builtins.__loader__:shared#opaque"), kv P "__spec__" 5 (.builtin "builtins.__spec__#opaque"), kv P "__build_class__" 6 (.builtin "__build_class__"), kv P "__import__" 7 (.builtin "__import__"), kv P "abs" 8 (.builtin "abs"), kv P "all" 9 (.builtin "all"), kv P "any" 10 (.builtin "any"), kv P "ascii" 11 (.builtin "ascii"), kv P "bin" 12 (.builtin "bin"), kv P "breakpoint" 13 (.builtin "breakpoint"), kv P "callable" 14 (.builtin "callable"), kv P "chr" 15 (.builtin "chr"), kv P "compile" 16 (.builtin "compile"), kv P "delattr" 17 (.builtin "delattr"), kv P "dir" 18 (.builtin "dir"), kv P "divmod" 19 (.builtin "divmod"), kv P "eval" 20 (.builtin "eval"), kv P "exec" 21 (.builtin "exec"), kv P "format" 22 (.builtin "format"), kv P "getattr" 23 (.builtin "getattr"), kv P "globals" 24 (.builtin "globals"), kv P "hasattr" 25 (.builtin "hasattr"), kv P "hash" 26 (.builtin "hash"), kv P "hex" 27 (.builtin "hex"), kv P "id" 28 (.builtin "id"), kv P "input" 29 (.builtin "input"), kv P "isinstance" 30 (.builtin "isinstance"), kv P "issubclass" 31 (.builtin "issubclass"), kv P "iter" 32 (.builtin "iter"), kv P "aiter" 33 (.builtin "aiter"), kv P "len" 34 (.builtin "len"), kv P "locals" 35 (.builtin "locals"), kv P "max" 36 (.builtin "max"), kv P "min" 37 (.builtin "min"), kv P "next" 38 (.builtin "next"), kv P "anext" 39 (.builtin "anext"), kv P "oct" 40 (.builtin "oct"), kv P "ord" 41 (.builtin "ord"), kv P "pow" 42 (.builtin "pow"), kv P "print" 43 (.builtin "print"), kv P "repr" 44 (.builtin "repr"), kv P "round" 45 (.builtin "round"), kv P "setattr" 46 (.builtin "setattr"), kv P "sorted" 47 (.builtin "sorted"), kv P "sum" 48 (.builtin "sum"), kv P "vars" 49 (.builtin "vars"), kv P "None" 50 .none, kv P "Ellipsis" 51 .ellipsis, kv P "NotImplemented" 52 .notImplemented, kv P "False" 53 (.bool false), kv P "True" 54 (.bool true), kv P "bool" 55 (.type "bool"), kv P "memoryview" 56 (.type "memoryview"), kv P "bytearray" 57 (.type "bytearray"), kv P "bytes" 58 (.type "bytes"), kv P "classmethod" 59 (.type "classmethod"), kv P "complex" 60 (.type "complex"), kv P "dict" 61 (.type "dict"), kv P "enumerate" 62 (.type "enumerate"), kv P "filter" 63 (.type "filter"), kv P "float" 64 (.type "float"), kv P "frozenset" 65 (.type "frozenset"), kv P "property" 66 (.type "property"), kv P "int" 67 (.type "int"), kv P "list" 68 (.type "list"), kv P "map" 69 (.type "map"), kv P "object" 70 (.type "object"), kv P "range" 71 (.type "range"), kv P "reversed" 72 (.type "reversed"), kv P "set" 73 (.type "set"), kv P "slice" 74 (.type "slice"), kv P "staticmethod" 75 (.type "staticmethod"), kv P "str" 76 (.type "str"), kv P "super" 77 (.type "super"), kv P "tuple" 78 (.type "tuple"), kv P "type" 79 (.type "type"), kv P "zip" 80 (.type "zip"), kv P "__debug__" 81 (.bool true), kv P "BaseException" 82 (.type "BaseException"), kv P "BaseExceptionGroup" 83 (.type "BaseExceptionGroup"), kv P "Exception" 84 (.type "Exception"), kv P "GeneratorExit" 85 (.type "GeneratorExit"), kv P "KeyboardInterrupt" 86 (.type "KeyboardInterrupt"), kv P "SystemExit" 87 (.type "SystemExit"), kv P "ArithmeticError" 88 (.type "ArithmeticError"), kv P "AssertionError" 89 (.type "AssertionError"), kv P "AttributeError" 90 (.type "AttributeError"), kv P "BufferError" 91 (.type "BufferError"), kv P "EOFError" 92 (.type "EOFError"), kv P "ImportError" 93 (.type "ImportError"), kv P "LookupError" 94 (.type "LookupError"), kv P "MemoryError" 95 (.type "MemoryError"), kv P "NameError" 96 (.type "NameError"), kv P "OSError" 97 (.type "OSError"), kv P "ReferenceError" 98 (.type "ReferenceError"), kv P "RuntimeError" 99 (.type "RuntimeError"), kv P "StopAsyncIteration" 100 (.type "StopAsyncIteration"), kv P "StopIteration" 101 (.type "StopIteration"), kv P "SyntaxError" 102 (.type "SyntaxError"), kv P "SystemError" 103 (.type "SystemError"), kv P "TypeError" 104 (.type "TypeError"), kv P "ValueError" 105 (.type "ValueError"), kv P "Warning" 106 (.type "Warning"), kv P "FloatingPointError" 107 (.type "FloatingPointError"), kv P "OverflowError" 108 (.type "OverflowError"), kv P "ZeroDivisionError" 109 (.type "ZeroDivisionError"), kv P "BytesWarning" 110 (.type "BytesWarning"), kv P "DeprecationWarning" 111 (.type "DeprecationWarning"), kv P "EncodingWarning" 112 (.type "EncodingWarning"), kv P "FutureWarning" 113 (.type "FutureWarning"), kv P "ImportWarning" 114 (.type "ImportWarning"), kv P "PendingDeprecationWarning" 115 (.type "PendingDeprecationWarning"), kv P "ResourceWarning" 116 (.type "ResourceWarning"), kv P "RuntimeWarning" 117 (.type "RuntimeWarning"), kv P "SyntaxWarning" 118 (.type "SyntaxWarning"), kv P "UnicodeWarning" 119 (.type "UnicodeWarning"), kv P "UserWarning" 120 (.type "UserWarning"), kv P "BlockingIOError" 121 (.type "BlockingIOError"), kv P "ChildProcessError" 122 (.type "ChildProcessError"), kv P "ConnectionError" 123 (.type "ConnectionError"), kv P "FileExistsError" 124 (.type "FileExistsError"), kv P "FileNotFoundError" 125 (.type "FileNotFoundError"), kv P "InterruptedError" 126 (.type "InterruptedError"), kv P "IsADirectoryError" 127 (.type "IsADirectoryError"), kv P "NotADirectoryError" 128 (.type "NotADirectoryError"), kv P "PermissionError" 129 (.type "PermissionError"), kv P "ProcessLookupError" 130 (.type "ProcessLookupError"), kv P "TimeoutError" 131 (.type "TimeoutError"), kv P "IndentationError" 132 (.type "IndentationError"), kv P "_IncompleteInputError" 133 (.type "_IncompleteInputError"), kv P "IndexError" 134 (.type "IndexError"), kv P "KeyError" 135 (.type "KeyError"), kv P "ModuleNotFoundError" 136 (.type "ModuleNotFoundError"), kv P "NotImplementedError" 137 (.type "NotImplementedError"), kv P "PythonFinalizationError" 138 (.type "PythonFinalizationError"), kv P "RecursionError" 139 (.type "RecursionError"), kv P "UnboundLocalError" 140 (.type "UnboundLocalError"), kv P "UnicodeError" 141 (.type "UnicodeError"), kv P "BrokenPipeError" 142 (.type "BrokenPipeError"), kv P "ConnectionAbortedError" 143 (.type "ConnectionAbortedError"), kv P "ConnectionRefusedError" 144 (.type "ConnectionRefusedError"), kv P "ConnectionResetError" 145 (.type "ConnectionResetError"), kv P "TabError" 146 (.type "TabError"), kv P "UnicodeDecodeError" 147 (.type "UnicodeDecodeError"), kv P "UnicodeEncodeError" 148 (.type "UnicodeEncodeError"), kv P "UnicodeTranslateError" 149 (.type "UnicodeTranslateError"), kv P "ExceptionGroup" 150 (.type "ExceptionGroup"), kv P "EnvironmentError" 151 (.type "OSError"), kv P "IOError" 152 (.type "OSError"), kv P "open" 153 (.builtin "open"), kv P "quit" 154 (.builtin "builtins.quit#opaque"), kv P "exit" 155 (.builtin "builtins.exit#opaque"), kv P "copyright" 156 (.builtin "builtins.copyright#opaque"), kv P "credits" 157 (.builtin "builtins.credits#opaque"), kv P "license" 158 (.builtin "builtins.license#opaque"), kv P "help" 159 (.builtin "builtins.help#opaque")] 159) #[], o1 P, o2 P, o3 P, o4, o5, o6, sq' "tuple" [] 0, .mk .none none (.fields #[]) #[], .mk (.type "code") none (.fields #[sv "<module>" 176, sv "<module>" 177, sv "/claim/cut.py" 178, iv 1, iv 0, iv 0, iv 0, iv 0, rv 7, .bool false, iv 175, rv 8, .none, .none, .none, .none, iv 179, iv 1, sv "/claim/cut.py" 180]) #[], .mk (.type "frame") none .plain #[some (rv 9), some (rv 3), some (rv 3), none, some (sv "__main__" 164), none, some (rv 0)], .mk (.type "dict") none (.dict #[kv P "__name__" 247 (sv "_sre" 246), kv P "__doc__" 248 .none, kv P "__package__" 250 (sv "" 249), kv P "__loader__" 251 (.builtin "off-the-table:_sre.__loader__:shared#opaque"), kv P "__spec__" 252 (.builtin "off-the-table:_sre.__spec__:shared#opaque"), kv P "compile" 253 (.builtin "_sre.compile"), kv P "template" 254 (.builtin "off-the-table:_sre.template:shared#opaque"), kv P "getcodesize" 255 (.builtin "off-the-table:_sre.getcodesize:shared#opaque"), kv P "ascii_iscased" 256 (.builtin "off-the-table:_sre.ascii_iscased:shared#opaque"), kv P "unicode_iscased" 257 (.builtin "off-the-table:_sre.unicode_iscased:shared#opaque"), kv P "ascii_tolower" 258 (.builtin "off-the-table:_sre.ascii_tolower:shared#opaque"), kv P "unicode_tolower" 259 (.builtin "off-the-table:_sre.unicode_tolower:shared#opaque"), kv P "MAGIC" 261 (ni 20230612 260), kv P "CODESIZE" 263 (ni 4 262), kv P "MAXREPEAT" 265 (ni 4294967295 264), kv P "MAXGROUPS" 267 (ni 1073741823 266), kv P "copyright" 269 (sv " SRE 2.2.2 Copyright (c) 1997-2002 by Secret Labs AB " 268)] 17) #[], .mk (.type "module") (some 11) .plain #[], .mk (.type "dict") none (.dict #[kv P "__module__" 189 (sv "_frozen_importlib" 186), kv P "__firstlineno__" 190 (ni 971 187), kv P "__doc__" 191 (.builtin "_frozen_importlib.BuiltinImporter.__doc__:str#opaque"), kv P "_ORIGIN" 192 (sv "built-in" 188), kv P "find_spec" 193 (.builtin "_frozen_importlib.BuiltinImporter.find_spec#opaque"), kv P "create_module" 194 (.builtin "_frozen_importlib.BuiltinImporter.create_module#opaque"), kv P "exec_module" 195 (.builtin "_frozen_importlib.BuiltinImporter.exec_module#opaque"), kv P "get_code" 196 (.builtin "_frozen_importlib.BuiltinImporter.get_code#opaque"), kv P "get_source" 197 (.builtin "_frozen_importlib.BuiltinImporter.get_source#opaque"), kv P "is_package" 198 (.builtin "_frozen_importlib.BuiltinImporter.is_package#opaque"), kv P "load_module" 199 (.builtin "_frozen_importlib.BuiltinImporter.load_module#opaque"), kv P "__static_attributes__" 200 (rv 15), kv P "__dict__" 202 (rv 16), kv P "__weakref__" 204 (rv 17)] 14) #[], .mk (.type "type") none (.cls (.mk (.ofString "BuiltinImporter") [.type "object"] [rv 14, .type "object"] 13 (.ofString "BuiltinImporter") true [] [] false none false)) #[], sq' "tuple" [] 0, .mk (.type "getset_descriptor") none (.fields #[sv "__dict__" 201, rv 14, .builtin "function.__dict__", .builtin "function.__dict__#set"]) #[], .mk (.type "getset_descriptor") none (.fields #[sv "__weakref__" 203, rv 14, .builtin "ExceptionGroup.__weakref__", .none]) #[], .mk .none none (.seq #[iv 13, sv "\u0006½\n__module__\u0006º\u0011_frozen_importlib\u0006¾\u000f__firstlineno__\u0004»\u0000ϋ\u0006¿\u0007__doc__\u00094_frozen_importlib.BuiltinImporter.__doc__:str#opaque\u0006À\u0007_ORIGIN\u0006¼\u0008built-in\u0006Á\u0009find_spec\u00092_frozen_importlib.BuiltinImporter.find_spec#opaque\u0006Â\rcreate_module\u00096_frozen_importlib.BuiltinImporter.create_module#opaque\u0006Ã\u000bexec_module\u00094_frozen_importlib.BuiltinImporter.exec_module#opaque\u0006Ä\u0008get_code\u00091_frozen_importlib.BuiltinImporter.get_code#opaque\u0006Å\nget_source\u00093_frozen_importlib.BuiltinImporter.get_source#opaque\u0006Æ\nis_package\u00093_frozen_importlib.BuiltinImporter.is_package#opaque\u0006Ç\u000bload_module\u00094_frozen_importlib.BuiltinImporter.load_module#opaque\u0006È\u0015__static_attributes__\u0004\u0000\u0000\u000f\u0006Ê\u0008__dict__\u0004\u0000\u0000\u0010\u0006Ì\u000b__weakref__\u0004\u0000\u0000\u0011" 0, .bool true, .bool true, sv "" 205, iv 21, sv "\u0006ã\n__module__\u0006Ù\u0011_frozen_importlib\u0006ä\u000f__firstlineno__\u0004Ú\u0000Ȳ\u0006å\u0007__doc__\u0009/_frozen_importlib.ModuleSpec.__doc__:str#opaque\u0006æ\u0008__init__\u0009,_frozen_importlib.ModuleSpec.__init__#opaque\u0006ç\u0008__repr__\u0009,_frozen_importlib.ModuleSpec.__repr__#opaque\u0006è\u0006__eq__\u0009*_frozen_importlib.ModuleSpec.__eq__#opaque\u0006é\u0006cached\u0009*_frozen_importlib.ModuleSpec.cached#opaque\u0006ê\u0006parent\u0009*_frozen_importlib.ModuleSpec.parent#opaque\u0006ë\u000chas_location\u00090_frozen_importlib.ModuleSpec.has_location#opaque\u0006ì\u0015__static_attributes__\u0004\u0000\u0000\u0017\u0006î\u0008__dict__\u0004\u0000\u0000\u0018\u0006ð\u000b__weakref__\u0004\u0000\u0000\u0019\u0006ñ\u0008__hash__\u0000" 0, .bool true, .bool true, sv "" 242] 1) #[], sq' "list" [] 0, .mk (.type "dict") none (.dict #[kv P "name" 208 (sv "_sre" 207), kv P "loader" 209 (rv 14), kv P "origin" 210 (sv "built-in" 184), kv P "loader_state" 211 .none, kv P "submodule_search_locations" 212 .none, kv P "_uninitialized_submodules" 213 (rv 19), kv P "_set_fileattr" 214 (.bool false), kv P "_cached" 215 .none, kv P "_initializing" 243 (.bool false)] 9) #[], .mk (.type "dict") none (.dict #[kv P "__module__" 227 (sv "_frozen_importlib" 217), kv P "__firstlineno__" 228 (ni 562 218), kv P "__doc__" 229 (.builtin "_frozen_importlib.ModuleSpec.__doc__:str#opaque"), kv P "__init__" 230 (.builtin "_frozen_importlib.ModuleSpec.__init__#opaque"), kv P "__repr__" 231 (.builtin "_frozen_importlib.ModuleSpec.__repr__#opaque"), kv P "__eq__" 232 (.builtin "_frozen_importlib.ModuleSpec.__eq__#opaque"), kv P "cached" 233 (.builtin "_frozen_importlib.ModuleSpec.cached#opaque"), kv P "parent" 234 (.builtin "_frozen_importlib.ModuleSpec.parent#opaque"), kv P "has_location" 235 (.builtin "_frozen_importlib.ModuleSpec.has_location#opaque"), kv P "__static_attributes__" 236 (rv 23), kv P "__dict__" 238 (rv 24), kv P "__weakref__" 240 (rv 25), kv P "__hash__" 241 .none] 13) #[], .mk (.type "type") none (.cls (.mk (.ofString "ModuleSpec") [.type "object"] [rv 22, .type "object"] 21 (.ofString "ModuleSpec") true [] [] false none false)) #[], sq' "tuple" [sv "_cached" 219, sv "_set_fileattr" 220, sv "_uninitialized_submodules" 221, sv "loader" 222, sv "loader_state" 223, sv "name" 224, sv "origin" 225, sv "submodule_search_locations" 226] 0, .mk (.type "getset_descriptor") none (.fields #[sv "__dict__" 237, rv 22, .builtin "function.__dict__", .builtin "function.__dict__#set"]) #[], .mk (.type "getset_descriptor") none (.fields #[sv "__weakref__" 239, rv 22, .builtin "ExceptionGroup.__weakref__", .none]) #[], .mk (rv 22) (some 20) .plain #[], .mk .none none (.seq #[iv 11, .str (.mk #[6, 247, 8, 95, 95, 110, 97, 109, 101, 95, 95, 6, 246, 4, 95, 115, 114, 101, 6, 248, 7, 95, 95, 100, 111, 99, 95, 95, 0, 6, 250, 11, 95, 95, 112, 97, 99, 107, 97, 103, 101, 95, 95, 6, 249, 0, 6, 251, 10, 95, 95, 108, 111, 97, 100, 101, 114, 95, 95, 4, 0, 0, 14, 6, 252, 8, 95, 95, 115, 112, 101, 99, 95, 95, 4, 0, 0, 26, 6, 253, 7, 99, 111, 109, 112, 105, 108, 101, 9, 12, 95, 115, 114, 101, 46, 99, 111, 109, 112, 105, 108, 101, 6, 254, 8, 116, 101, 109, 112, 108, 97, 116, 101, 9, 13, 95, 115, 114, 101, 46, 116, 101, 109, 112, 108, 97, 116, 101, 6, 255, 11, 103, 101, 116, 99, 111, 100, 101, 115, 105, 122, 101, 9, 16, 95, 115, 114, 101, 46, 103, 101, 116, 99, 111, 100, 101, 115, 105, 122, 101, 6, 256, 13, 97, 115, 99, 105, 105, 95, 105, 115, 99, 97, 115, 101, 100, 9, 18, 95, 115, 114, 101, 46, 97, 115, 99, 105, 105, 95, 105, 115, 99, 97, 115, 101, 100, 6, 257, 15, 117, 110, 105, 99, 111, 100, 101, 95, 105, 115, 99, 97, 115, 101, 100, 9, 20, 95, 115, 114, 101, 46, 117, 110, 105, 99, 111, 100, 101, 95, 105, 115, 99, 97, 115, 101, 100, 6, 258, 13, 97, 115, 99, 105, 105, 95, 116, 111, 108, 111, 119, 101, 114, 9, 18, 95, 115, 114, 101, 46, 97, 115, 99, 105, 105, 95, 116, 111, 108, 111, 119, 101, 114, 6, 259, 15, 117, 110, 105, 99, 111, 100, 101, 95, 116, 111, 108, 111, 119, 101, 114, 9, 20, 95, 115, 114, 101, 46, 117, 110, 105, 99, 111, 100, 101, 95, 116, 111, 108, 111, 119, 101, 114, 6, 261, 5, 77, 65, 71, 73, 67, 4, 260, 0, 20230612, 6, 263, 8, 67, 79, 68, 69, 83, 73, 90, 69, 4, 262, 0, 4, 6, 265, 9, 77, 65, 88, 82, 69, 80, 69, 65, 84, 4, 264, 0, 4294967295, 6, 267, 9, 77, 65, 88, 71, 82, 79, 85, 80, 83, 4, 266, 0, 1073741823, 6, 269, 9, 99, 111, 112, 121, 114, 105, 103, 104, 116, 6, 268, 53, 32, 83, 82, 69, 32, 50, 46, 50, 46, 50, 32, 67, 111, 112, 121, 114, 105, 103, 104, 116, 32, 40, 99, 41, 32, 49, 57, 57, 55, 45, 50, 48, 48, 50, 32, 98, 121, 32, 83, 101, 99, 114, 101, 116, 32, 76, 97, 98, 115, 32, 65, 66, 32]) 0, .bool true, .bool false, sv "_sre" 271] 0) #[], sq' "tuple" [] 0, .mk .none none (.fields (List.toArray (l29))) #[], .mk (.type "code") none (.fields #[sv "<module>" 277, sv "<module>" 278, sv "/claim/cut.py" 279, iv 1, iv 0, iv 0, iv 0, iv 0, rv 28, .bool false, iv 276, rv 29, .none, .none, .none, .none, iv 280, iv 1, sv "/claim/cut.py" 281]) #[], .mk (.type "frame") none .plain #[some (rv 30), some (rv 3), some (rv 3), none, some (sv "__main__" 164), none, some (rv 0)], sq' "list" [ni 14 287, ni 14 288, ni 4 289, ni 1 290, ni 1 291, ni 9 292, ni 0 293, ni 4227896069 294, ni 939524097 295, ni 0 296, ni 0 297, ni 0 298, ni 0 299, ni 0 300, ni 0 301, ni 13 302, ni 11 303, ni 9 304, ni 0 305, ni 4227896069 306, ni 939524097 307, ni 0 308, ni 0 309, ni 0 310, ni 0 311, ni 0 312, ni 0 313, ni 1 314] 0, .mk (.type "dict") none (.dict #[] 0) #[], sq' "tuple" [.none] 0, sq' "tuple" [iv 14, iv 14, iv 4, iv 1, iv 1, iv 9, iv 0, iv 4227896069, iv 939524097, iv 0, iv 0, iv 0, iv 0, iv 0, iv 0, iv 13, iv 11, iv 9, iv 0, iv 4227896069, iv 939524097, iv 0, iv 0, iv 0, iv 0, iv 0, iv 0, iv 1] 0, .mk (.type "re.Pattern") none (.fields #[sv "[ \\(\\)<>@,;:\\\\\"/\\[\\]\\?=]" 285, ni 32 316, iv 0, .none, .none, rv 35, iv 0]) #[], sq' "list" [ni 14 321, ni 10 322, ni 4 323, ni 1 324, ni 1 325, ni 22 326, ni 0 327, ni 31 328, ni 16 329, ni 127 330, ni 0 331, ni 13 332, ni 7 333, ni 22 334, ni 0 335, ni 31 336, ni 16 337, ni 127 338, ni 0 339, ni 1 340] 0, .mk (.type "dict") none (.dict #[] 0) #[], sq' "tuple" [.none] 0, o40, o41, sq' "list" [ni 14 347, ni 14 348, ni 4 349, ni 1 350, ni 1 351, ni 9 352, ni 4294966783 353, ni 0 354, ni 0 355, ni 2147483648 356, ni 0 357, ni 0 358, ni 0 359, ni 0 360, ni 0 361, ni 13 362, ni 11 363, ni 9 364, ni 4294966783 365, ni 0 366, ni 0 367, ni 2147483648 368, ni 0 369, ni 0 370, ni 0 371, ni 0 372, ni 0 373, ni 1 374] 0, .mk (.type "dict") none (.dict #[] 0) #[], sq' "tuple" [.none] 0, o45, o46, sq' "tuple" [.none, ni 1 378] 0, sq' "tuple" [] 0, .mk .none none (.fields #[]) #[], sq' "tuple" [sv "param" 382, sv "value" 383, sv "quote" 384] 0, sq' "tuple" [] 0, fo .none "_formatparam" "_formatparam" (stm 5) 0 .none .none .none, co "_formatparam" "_formatparam" 379 6 3 48 49 .none (rv 50) (rv 51) 52 385, fo (.type "function") "_formatparam" "_formatparam" (stm 5) 3 (rv 47) (sv "cpy313.wsgiref.headers" 282) (rv 53), sq' "tuple" [] 0, .mk (.type "builtin_function_or_method") none (.fields #[.builtin "type.__prepare__", .type "type"]) #[], .mk (.type "dict") none (.dict #[kv P "__module__" 395 (sv "cpy313.wsgiref.headers" 282), kv P "__qualname__" 397 (sv "Headers" 396), kv P "__firstlineno__" 399 (ni 15 398), kv P "__init__" 409 (rv 69), kv P "_convert_string_type" 419 (rv 76), kv P "__len__" 426 (rv 83), kv P "__setitem__" 435 (rv 90), kv P "__delitem__" 441 (rv 95), kv P "__getitem__" 449 (rv 102), kv P "__contains__" 457 (rv 109), kv P "get_all" 463 (rv 114), kv P "get" 474 (rv 122), kv P "keys" 480 (rv 127), kv P "values" 486 (rv 132), kv P "items" 493 (rv 139), kv P "__repr__" 500 (rv 146), kv P "__str__" 506 (rv 151), kv P "__bytes__" 513 (rv 158), kv P "setdefault" 523 (rv 165), kv P "add_header" 536 (rv 172), kv P "__static_attributes__" 538 (rv 173)] 21) #[], sq' "tuple" [] 0, .mk .none none (.fields #[iv 17, iv 4, rv 68, iv 27, iv 4, rv 75, iv 35, iv 4, rv 82, iv 38, iv 4, rv 89, iv 42, iv 4, rv 94, iv 46, iv 4, rv 101, iv 49, iv 4, rv 108, iv 52, iv 4, rv 113, iv 56, iv 4, rv 121, iv 63, iv 4, rv 126, iv 66, iv 4, rv 131, iv 69, iv 4, rv 138, iv 72, iv 4, rv 145, iv 75, iv 4, rv 150, iv 78, iv 4, rv 157, iv 81, iv 4, rv 164, iv 89, iv 4, rv 171]) #[], .mk (.type "code") none (.fields #[sv "Headers" 390, sv "Headers" 391, sv "/claim/cut.py" 392, iv 15, iv 0, iv 0, iv 0, iv 0, rv 58, .bool false, iv 276, rv 59, .none, .none, .none, .none, iv 393, iv 15, sv "/claim/cut.py" 394]) #[], .mk (.type "frame") none .plain #[some (rv 60), some (rv 3), some (rv 57), none, some (sv "cpy313.wsgiref.headers" 282), none, some (rv 0)], o62, sq' "tuple" [] 0, .mk .none none (.fields #[]) #[], sq' "tuple" [sv "self" 403, sv "headers" 404, sv "k" 405, sv "v" 406] 0, sq' "tuple" [] 0, fo .none "__init__" "Headers.__init__" (bj (stm 6) 0) 0 .none .none .none, o68, o69, sq' "tuple" [] 0, .mk .none none (.fields #[]) #[], sq' "tuple" [sv "self" 413, sv "value" 414, sv "name" 415, sv "regex" 416] 0, sq' "tuple" [] 0, fo .none "_convert_string_type" "Headers._convert_string_type" (bj (stm 6) 1) 0 .none .none .none, o75, o76, sq' "tuple" [] 0, .mk .none none (.fields #[]) #[], sq' "tuple" [sv "self" 423] 0, sq' "tuple" [] 0, fo .none "__len__" "Headers.__len__" (bj (stm 6) 2) 0 .none .none .none, co "__len__" "Headers.__len__" 420 35 1 77 78 .none (rv 79) (rv 80) 81 424, fo (.type "function") "__len__" "Headers.__len__" (bj (stm 6) 2) 3 .none (sv "cpy313.wsgiref.headers" 282) (rv 82), sq' "tuple" [] 0, .mk .none none (.fields #[]) #[], sq' "tuple" [sv "self" 430, sv "name" 431, sv "val" 432] 0, sq' "tuple" [] 0, fo .none "__setitem__" "Headers.__setitem__" (bj (stm 6) 3) 0 .none .none .none, co "__setitem__" "Headers.__setitem__" 427 38 3 84 85 .none (rv 86) (rv 87) 88 433, fo (.type "function") "__setitem__" "Headers.__setitem__" (bj (stm 6) 3) 3 .none (sv "cpy313.wsgiref.headers" 282) (rv 89), sq' "tuple" [] 0, .mk .none none (.fields #[]) #[], fo .none "__delitem__" "Headers.__delitem__" (bj (stm 6) 4) 0 .none .none .none, co "__delitem__" "Headers.__delitem__" 436 42 2 91 92 .none .none .none 93 439, fo (.type "function") "__delitem__" "Headers.__delitem__" (bj (stm 6) 4) 3 .none (sv "cpy313.wsgiref.headers" 282) (rv 94), sq' "tuple" [] 0, .mk .none none (.fields #[]) #[], sq' "tuple" [sv "self" 445, sv "name" 446] 0, sq' "tuple" [] 0, fo .none "__getitem__" "Headers.__getitem__" (bj (stm 6) 5) 0 .none .none .none, co "__getitem__" "Headers.__getitem__" 442 46 2 96 97 .none (rv 98) (rv 99) 100 447, fo (.type "function") "__getitem__" "Headers.__getitem__" (bj (stm 6) 5) 3 .none (sv "cpy313.wsgiref.headers" 282) (rv 101), sq' "tuple" [] 0, .mk .none none (.fields #[]) #[], sq' "tuple" [sv "self" 453, sv "name" 454] 0, sq' "tuple" [] 0, fo .none "__contains__" "Headers.__contains__" (bj (stm 6) 6) 0 .none .none .none, co "__contains__" "Headers.__contains__" 450 49 2 103 104 .none (rv 105) (rv 106) 107 455, fo (.type "function") "__contains__" "Headers.__contains__" (bj (stm 6) 6) 3 .none (sv "cpy313.wsgiref.headers" 282) (rv 108), sq' "tuple" [] 0, .mk .none none (.fields #[]) #[], fo .none "get_all" "Headers.get_all" (bj (stm 6) 7) 0 .none .none .none, Cs, pL, uy, sq' "tuple" [] 0, .mk .none none (.fields #[]) #[], sq' "tuple" [sv "self" 467, sv "name" 468, sv "default" 469, sv "k" 470, sv "v" 471] 0, sq' "tuple" [] 0, fo .none "get" "Headers.get" (bj (stm 6) 8) 0 .none .none .none, Ca, gp, sq' "tuple" [] 0, .mk .none none (.fields #[]) #[], fo .none "keys" "Headers.keys" (bj (stm 6) 9) 0 .none .none .none, co "keys" "Headers.keys" 475 63 1 123 124 .none .none .none 125 478, fo (.type "function") "keys" "Headers.keys" (bj (stm 6) 9) 3 .none (sv "cpy313.wsgiref.headers" 282) (rv 126), sq' "tuple" [] 0, .mk .none none (.fields #[]) #[], fo .none "values" "Headers.values" (bj (stm 6) 10) 0 .none .none .none, co "values" "Headers.values" 481 66 1 128 129 .none .none .none 130 484, fo (.type "function") "values" "Headers.values" (bj (stm 6) 10) 3 .none (sv "cpy313.wsgiref.headers" 282) (rv 131), sq' "tuple" [] 0, .mk .none none (.fields #[]) #[], sq' "tuple" [sv "self" 490] 0, sq' "tuple" [] 0, fo .none "items" "Headers.items" (bj (stm 6) 11) 0 .none .none .none, CI, my, sq' "tuple" [] 0, .mk .none none (.fields #[]) #[], sq' "tuple" [sv "self" 497] 0, sq' "tuple" [] 0, fo .none "__repr__" "Headers.__repr__" (bj (stm 6) 12) 0 .none .none .none, co "__repr__" "Headers.__repr__" 494 72 1 140 141 .none (rv 142) (rv 143) 144 498, fo (.type "function") "__repr__" "Headers.__repr__" (bj (stm 6) 12) 3 .none (sv "cpy313.wsgiref.headers" 282) (rv 145), sq' "tuple" [] 0, .mk .none none (.fields #[]) #[], fo .none "__str__" "Headers.__str__" (bj (stm 6) 13) 0 .none .none .none, co "__str__" "Headers.__str__" 501 75 1 147 148 .none .none .none 149 504, fo (.type "function") "__str__" "Headers.__str__" (bj (stm 6) 13) 3 .none (sv "cpy313.wsgiref.headers" 282) (rv 150), sq' "tuple" [] 0, .mk .none none (.fields #[]) #[], sq' "tuple" [sv "self" 510] 0, sq' "tuple" [] 0, fo .none "__bytes__" "Headers.__bytes__" (bj (stm 6) 14) 0 .none .none .none, co "__bytes__" "Headers.__bytes__" 507 78 1 152 153 .none (rv 154) (rv 155) 156 511, fo (.type "function") "__bytes__" "Headers.__bytes__" (bj (stm 6) 14) 3 .none (sv "cpy313.wsgiref.headers" 282) (rv 157), sq' "tuple" [] 0, .mk .none none (.fields #[]) #[], sq' "tuple" [sv "self" 517, sv "name" 518, sv "value" 519, sv "result" 520] 0, sq' "tuple" [] 0, fo .none "setdefault" "Headers.setdefault" (bj (stm 6) 15) 0 .none .none .none, Cv, eF, sq' "tuple" [] 0, .mk .none none (.fields #[]) #[], sq' "tuple" [sv "self" 527, sv "_name" 528, sv "_value" 529, sv "_params" 530, sv "parts" 531, sv "k" 532, sv "v" 533] 0, sq' "tuple" [] 0, fo .none "add_header" "Headers.add_header" (bj (stm 6) 16) 0 .none .none .none, Ct, i9, sq' "tuple" [sv "_headers" 537] 0, Cg P, wk, .mk (.type "getset_descriptor") none (.fields #[sv "__dict__" 539, rv 175, .builtin "function.__dict__", .builtin "function.__dict__#set"]) #[], .mk (.type "getset_descriptor") none (.fields #[sv "__weakref__" 541, rv 175, .builtin "ExceptionGroup.__weakref__", .none]) #[], .mk (.type "super") none (.fields #[rv 175, rv 175, rv 175]) #[], .mk (.type "builtin_function_or_method") none (.fields #[.builtin "object.__init_subclass__", rv 175]) #[], sq' "tuple" [] 0, .mk .none none (.fields #[]) #[], sq' "tuple" [sv "r" 551, sv "g" 552, sv "b" 553, sv "maxc" 554, sv "minc" 555, sv "sumc" 556, sv "rangec" 557, sv "l" 558, sv "s" 559, sv "rc" 560, sv "gc" 561, sv "bc" 562, sv "h" 563] 0, sq' "tuple" [] 0, fo .none "rgb_to_hls" "rgb_to_hls" (stm 8) 0 .none .none .none, Cy, yZ, sq' "tuple" [] 0, .mk .none none (.fields #[]) #[], sq' "tuple" [sv "r" 570, sv "g" 571, sv "b" 572, sv "maxc" 573, sv "minc" 574, sv "rangec" 575, sv "v" 576, sv "s" 577, sv "rc" 578, sv "gc" 579, sv "bc" 580, sv "h" 581] 0, sq' "tuple" [] 0, fo .none "rgb_to_hsv" "rgb_to_hsv" (stm 9) 0 .none .none .none, CH, yR, .mk (.type "range") none (.fields #[ni 0 586, ni 256 585, ni 1 587]) #[], .mk (.type "range_iterator") none (.fields #[iv 256, iv 0, iv 1]) #[], sq' "list" (r7) 256, .mk (.type "dict") none (.dict #[] 2) #[], sq' "tuple" [] 0, .mk (.type "StopIteration") none (.fields #[rv 198, .none, .none, .none, .bool false, .none]) #[], .mk (.type "slice") none (.fields #[.none, .none, .none]) #[], yD, .mk (.type "slice") none (.fields #[.none, .none, .none]) #[], sq' "list" (ed (r7) [(9, sv "\u0009" 2121), (32, sv " " 1839), (33, sv "!" 1842), (34, sv "\"" 1845), (35, sv "#" 1848), (36, sv "$" 1851), (37, sv "%" 1854), (38, sv "&" 1857), (39, sv "'" 1860), (40, sv "(" 1863), (41, sv ")" 1866), (42, sv "*" 1869), (43, sv "+" 1872), (44, sv "," 1875), (45, sv "-" 1878), (46, sv "." 1881), (47, sv "/" 1884), (48, sv "0" 1887), (49, sv "1" 1890), (50, sv "2" 1893), (51, sv "3" 1896), (52, sv "4" 1899), (53, sv "5" 1902), (54, sv "6" 1905), (55, sv "7" 1908), (56, sv "8" 1911), (57, sv "9" 1914), (58, sv ":" 1917), (59, sv ";" 1920), (60, sv "<" 1923), (62, sv ">" 1926), (63, sv "?" 1929), (64, sv "@" 1932), (65, sv "A" 1935), (66, sv "B" 1938), (67, sv "C" 1941), (68, sv "D" 1944), (69, sv "E" 1947), (70, sv "F" 1950), (71, sv "G" 1953), (72, sv "H" 1956), (73, sv "I" 1959), (74, sv "J" 1962), (75, sv "K" 1965), (76, sv "L" 1968), (77, sv "M" 1971), (78, sv "N" 1974), (79, sv "O" 1977), (80, sv "P" 1980), (81, sv "Q" 1983), (82, sv "R" 1986), (83, sv "S" 1989), (84, sv "T" 1992), (85, sv "U" 1995), (86, sv "V" 1998), (87, sv "W" 2001), (88, sv "X" 2004), (89, sv "Y" 2007), (90, sv "Z" 2010), (91, sv "[" 2013), (92, sv "\\" 2016), (93, sv "]" 2019), (94, sv "^" 2022), (95, sv "_" 2025), (96, sv "`" 2028), (97, sv "a" 2031), (98, sv "b" 2034), (99, sv "c" 2037), (100, sv "d" 2040), (101, sv "e" 2043), (102, sv "f" 2046), (103, sv "g" 2049), (104, sv "h" 2052), (105, sv "i" 2055), (106, sv "j" 2058), (107, sv "k" 2061), (108, sv "l" 2064), (109, sv "m" 2067), (110, sv "n" 2070), (111, sv "o" 2073), (112, sv "p" 2076), (113, sv "q" 2079), (114, sv "r" 2082), (115, sv "s" 2085), (116, sv "t" 2088), (117, sv "u" 2091), (118, sv "v" 2094), (119, sv "w" 2097), (120, sv "x" 2100), (121, sv "y" 2103), (122, sv "z" 2106), (123, sv "{" 2109), (124, sv "|" 2112), (125, sv "}" 2115), (126, sv "~" 2118)]) 0, .mk (.type "bytes_iterator") none (.fields #[.none, iv 67]) #[], sq' "tuple" [] 0, .mk (.type "StopIteration") none (.fields #[rv 205, .none, .none, .none, .bool false, .none]) #[], .mk (.type "bytes_iterator") none (.fields #[.none, iv 95]) #[], sq' "tuple" [] 0, .mk (.type "StopIteration") none (.fields #[rv 208, .none, .none, .none, .bool false, .none]) #[], sq' "tuple" [] 0, .mk .none none (.fields #[]) #[], sq' "tuple" [sv "s" 2125] 0, sq' "tuple" [] 0, fo .none "unquote" "unquote" (stm 21) 0 .none .none .none, Cz, y0, Ci, sq' "tuple" [] 0, .mk .none none (.fields #[]) #[], sq' "tuple" [sv "header_bytes" 2133, sv "charset" 2134, sv "encoded" 2135] 0, sq' "tuple" [] 0, fo .none "header_encode" "header_encode" (stm 22) 0 .none .none .none, BU, pM, .mk (.type "slice") none (.fields #[.none, .none, .none]) #[], sq' "list" (Ch) 0, .mk (.type "bytes_iterator") none (.fields #[.none, iv 2]) #[], sq' "tuple" [] 0, .mk (.type "StopIteration") none (.fields #[rv 228, .none, .none, .none, .bool false, .none]) #[], sq' "list" [ni 14 2152, ni 4 2153, ni 0 2154, ni 1 2155, ni 1 2156, ni 6 2157, ni 1 2158, ni 16 2159, ni 46 2160, ni 1 2161] 0, .mk (.type "dict") none (.dict #[] 0) #[], sq' "tuple" [.none] 0, Bp, CL, sq' "list" [ni 14 2168, ni 9 2169, ni 4 2170, ni 1 2171, ni 2 2172, ni 16 2173, ni 10 2174, ni 16 2175, ni 13 2176, ni 0 2177, ni 7 2178, ni 7 2179, ni 16 2180, ni 13 2181, ni 16 2182, ni 10 2183, ni 15 2184, ni 18 2185, ni 5 2186, ni 16 2187, ni 10 2188, ni 15 2189, ni 13 2190, ni 11 2191, ni 16 2192, ni 13 2193, ni 5 2194, ni 5 2195, ni 0 2196, ni 16 2197, ni 10 2198, ni 1 2199, ni 15 2200, ni 2 2201, ni 0 2202, ni 1 2203] 0, .mk (.type "dict") none (.dict #[] 0) #[], sq' "tuple" [.none] 0, Am, CK, sq' "tuple" [] 0, .mk .none none (.fields #[]) #[], sq' "tuple" [sv "data" 2212] 0, sq' "tuple" [] 0, fo .none "quotedata" "quotedata" (stm 30) 0 .none .none .none, Cc, vW, sq' "tuple" [] 0, .mk .none none (.fields #[]) #[], sq' "tuple" [sv "tied" 2221, sv "steps" 2222, sv "u" 2223, sv "v" 2224, sv "w" 2225, sv "fewest" 2226] 0, sq' "tuple" [] 0, fo .none "_law_steps" "_law_steps" (stm 32) 0 .none .none .none, BW, vB, sq' "tuple" [] 0, .mk .none none (.fields #[]) #[], fo .none "_law_parts" "_law_parts" (stm 33) 0 .none .none .none, Cn, tG, sq' "tuple" [] 0, .mk .none none (.fields #[]) #[], sq' "tuple" [sv "table" 2239, sv "offered" 2240, sv "name" 2241, sv "text" 2242, sv "error" 2243] 0, sq' "tuple" [] 0, fo .none "_law_refused" "_law_refused" (stm 34) 0 .none .none .none, BZ, pB, sq' "tuple" [] 0, .mk .none none (.fields #[]) #[], fo .none "law" "law" (stm 35) 0 .none .none .none, we, uN]
noncomputable def fk : Life := (PySem.Life.mk [] [] [] 0 [] [] false #[] [] 0 false false false (Int.ofNat 0) [Int.ofNat 2000, Int.ofNat 10, Int.ofNat 10] false 0 true [] [] 0 false)
noncomputable def bZ : Drawn := (PySem.Drawn.mk 0 0 0 0)
noncomputable def DR (P : Params) : Obj := (.mk (.type "dict") none (.dict (List.toArray (ed ((l3 P).take 10) [(0, kv P "__name__" 165 (sv "__main__" 164))])) 10) #[])
noncomputable def wM (P : Params) : List Obj := ((fin P).take 28).set 3 (DR P)
noncomputable def q_z : Pos := ⟨0, 0, 0, 0⟩
noncomputable def Ei (P : Params) : Obj := (.mk (.type "dict") none (.dict (List.toArray (ed ((l3 P).take 10) [(0, kv P "__name__" 165 (sv "__main__" 164))])) 10) #[])
noncomputable def AP : Obj := (.mk .none none (.fields #[]) #[])
noncomputable def w9 (P : Params) : List Obj := (((fin P).take 32).set 3 (Ei P)).set 29 AP
noncomputable def T_b (w : World) (os : OsState) : SharedT := ⟨fI (w9 w.params) 0 .nil, 32, fk, #[], bZ, 282, os⟩
noncomputable def q_b : Pos := ⟨0, 0, 0, 0⟩
noncomputable def Dn (P : Params) : Obj := (.mk (.type "dict") none (.dict (List.toArray (ed ((l3 P).take 17) [(0, kv P "__name__" 165 (sv "cpy313.colorsys" 546))])) 17) #[])
noncomputable def AL : Obj := (.mk .none none (.fields (List.toArray ((l29).take 12))) #[])
noncomputable def xj (P : Params) : List Obj := (((fin P).take 194).set 3 (Dn P)).set 29 AL
noncomputable def T_8 (w : World) (os : OsState) : SharedT := ⟨fI (xj w.params) 0 .nil, 194, fk, #[], bZ, 585, os⟩
noncomputable def q_8 : Pos := ⟨126, 0, 144, 20⟩
noncomputable def DM (P : Params) : Obj := (.mk (.type "dict") none (.dict (List.toArray (ed ((l3 P).take 18) [(0, kv P "__name__" 165 (sv "cpy313.colorsys" 546))])) 18) #[])
noncomputable def zI : Obj := (.mk .none none (.fields (List.toArray ((l29).take 12))) #[])
noncomputable def xK (P : Params) : List Obj := (((fin P).take 200).set 3 (DM P)).set 29 zI
noncomputable def T_9 (w : World) (os : OsState) : SharedT := ⟨fI (xK w.params) 0 .nil, 200, fk, #[], bZ, 1613, os⟩
noncomputable def q_9 : Pos := ⟨145, 0, 145, 11⟩
noncomputable def Ak (P : Params) : Obj := (.mk (.type "dict") none (.dict (List.toArray (ed ((l3 P).take 24) [(0, kv P "__name__" 165 (sv "cpy313.email.quoprimime" 1623))])) 24) #[])
noncomputable def xV : Obj := (.mk .none none (.fields (List.toArray ((l29).take 12))) #[])
noncomputable def ua : Obj := sq' "list" (r7) 0
noncomputable def uZ : Obj := sq' "list" (r7) 0
noncomputable def tE (P : Params) : List Obj := (((((fin P).take 204).set 3 (Ak P)).set 29 xV).set 201 ua).set 203 uZ
noncomputable def yN (w : World) (os : OsState) : SharedT := ⟨fI (tE w.params) 0 .nil, 204, fk, #[], bZ, 1625, os⟩
noncomputable def yU : Pos := ⟨152, 0, 152, 8⟩
noncomputable def zf (P : Params) : Obj := (.mk (.type "dict") none (.dict (List.toArray (ed ((l3 P).take 25) [(0, kv P "__name__" 165 (sv "cpy313.email.quoprimime" 1623)), (24, kv P "c" 1633 (ni 57 1830))])) 25) #[])
noncomputable def wO : Obj := (.mk .none none (.fields (List.toArray ((l29).take 12))) #[])
noncomputable def sW : Obj := sq' "list" (ed (BX) [(32, sv "=20" 719)]) 0
noncomputable def vH : Obj := sq' "list" (r7) 0
noncomputable def th (P : Params) : List Obj := (((((fin P).take 207).set 3 (zf P)).set 29 wO).set 201 sW).set 203 vH
noncomputable def zV (w : World) (os : OsState) : SharedT := ⟨fI (th w.params) 0 .nil, 207, fk, #[], bZ, 1833, os⟩
noncomputable def Bh : Pos := ⟨153, 9, 153, 74⟩
noncomputable def Av (P : Params) : Obj := (.mk (.type "dict") none (.dict (List.toArray (ed ((l3 P).take 25) [(0, kv P "__name__" 165 (sv "cpy313.email.quoprimime" 1623)), (24, kv P "c" 1633 (ni 57 1830))])) 25) #[])
noncomputable def yn : Obj := (.mk .none none (.fields (List.toArray ((l29).take 12))) #[])
noncomputable def uX : Obj := sq' "list" (r7) 0
noncomputable def un (P : Params) : List Obj := ((((fin P).take 207).set 3 (Av P)).set 29 yn).set 203 uX
noncomputable def xf (w : World) (os : OsState) : SharedT := ⟨fI (un w.params) 0 .nil, 207, fk, #[], bZ, 1836, os⟩
noncomputable def yX : Pos := ⟨155, 0, 155, 28⟩
noncomputable def AN (P : Params) : Obj := (.mk (.type "dict") none (.dict (List.toArray (ed ((l3 P).take 25) [(0, kv P "__name__" 165 (sv "cpy313.email.quoprimime" 1623)), (24, kv P "c" 1633 (ni 9 2119))])) 25) #[])
noncomputable def xB : Obj := (.mk .none none (.fields (List.toArray ((l29).take 12))) #[])
noncomputable def tc (P : Params) : List Obj := (((fin P).take 210).set 3 (AN P)).set 29 xB
noncomputable def zH (w : World) (os : OsState) : SharedT := ⟨fI (tc w.params) 0 .nil, 210, fk, #[], bZ, 2122, os⟩
noncomputable def zW : Pos := ⟨156, 9, 156, 110⟩
noncomputable def Ad (P : Params) : Obj := (.mk (.type "dict") none (.dict (List.toArray (ed ((l3 P).take 28) [(0, kv P "__name__" 165 (sv "cpy313.email.quoprimime" 1623)), (24, kv P "c" 1633 (ni 9 2119)), (25, kv P "unquote" 2128 (rv 216)), (26, kv P "header_encode" 2138 (rv 224)), (27, kv P "_QUOPRI_BODY_ENCODE_MAP" 2139 (rv 226))])) 28) #[])
noncomputable def yv : Obj := (.mk .none none (.fields (List.toArray ((l29).take 18))) #[])
noncomputable def tu : Obj := sq' "list" (ed (Ch) [(10, sv "=0A" 631), (13, sv "=0D" 643)]) 0
noncomputable def vQ (P : Params) : List Obj := ((((fin P).take 227).set 3 (Ad P)).set 29 yv).set 226 tu
noncomputable def xu (w : World) (os : OsState) : SharedT := ⟨fI (vQ w.params) 0 .nil, 227, fk, #[], bZ, 2140, os⟩
noncomputable def yV : Pos := ⟨165, 0, 165, 23⟩
noncomputable def Aa (P : Params) : Obj := (.mk (.type "dict") none (.dict (List.toArray (ed ((l3 P).take 28) [(0, kv P "__name__" 165 (sv "cpy313.email.quoprimime" 1623)), (24, kv P "c" 1633 (ni 10 2144)), (25, kv P "unquote" 2128 (rv 216)), (26, kv P "header_encode" 2138 (rv 224)), (27, kv P "_QUOPRI_BODY_ENCODE_MAP" 2139 (rv 226))])) 28) #[])
noncomputable def yL : Obj := (.mk .none none (.fields (List.toArray ((l29).take 18))) #[])
noncomputable def t9 (P : Params) : List Obj := (((fin P).take 230).set 3 (Aa P)).set 29 yL
noncomputable def Bl (w : World) (os : OsState) : SharedT := ⟨fI (t9 w.params) 0 .nil, 230, fk, #[], bZ, 2147, os⟩
noncomputable def zY : Pos := ⟨166, 9, 166, 16⟩
noncomputable def vk (P : Params) : List Obj := fin P
noncomputable def Cp (w : World) (os : OsState) : SharedT := ⟨fI (vk w.params) 0 .nil, 271, fk, #[], bZ, 2253, os⟩
noncomputable def Cd : Pos := ⟨203, 0, 277, 33⟩
end
section
open PySem.Challenge (pw_wv0036_01)
noncomputable def bE : List Stmt := behindTheImports pw_wv0036_01
noncomputable def ez : Env := { scope := pw_wv0036_01.main.scope, locals := mainNs, globals := mainNs, cells := [], code := .ref (nat_lit 30), frame := some (nat_lit 31) }
noncomputable def cE : Code := .body bE ez
noncomputable def cq : Option Value := some (.ref (nat_lit 6))
noncomputable def B0 : List Frame := [topFrame q_z]
noncomputable def grp (a k : Nat) : List Stmt := (bE.drop a).take k
noncomputable def H0 (P : Params) : Heap := ⟨(wM P).toArray, fk⟩
noncomputable def S0 (w : World) (os : OsState) : Shared := ⟨H0 w.params, #[], bZ, nat_lit 276, os⟩
theorem yJ (w : World) : (fencedOpening treeTable pw_wv0036_01 w (nat_lit 20000)).map (fun s => (s.heap, s.gens, s.drawn, s.toks)) = some (H0 w.params, #[], bZ, nat_lit 276) := ⋯
theorem wJ (w : World) : ((H0 w.params).isNs mainGlobals && (#[] : Array GenState).size == 0, (H0 w.params).objs.size, (H0 w.params).nsMap mainGlobals "__annotations__") = (true, nat_lit 28, cq) := ⋯
theorem BN (w : World) (os : OsState) : topGo treeTable pw_wv0036_01 w (nat_lit 28) cq (nat_lit 12) (S0 w os) (topStub pw_wv0036_01) = some ((T_b w os).abs, ⟨denote treeTable cE, cE, q_z, B0⟩) := ⋯
theorem t8 (w : World) (os : OsState) : segRun treeTable pw_wv0036_01 w (nat_lit 28) cq (nat_lit 1) (nat_lit 1) (T_b w os).abs (blockOf bE ez cE q_z B0) = some (.next, (T_b w os).abs, cE, q_b) := ⋯
end
section
open PySem.Challenge (pw_wv0036_01)
theorem DY (w : World) (os : OsState) : segRunT treeTable pw_wv0036_01 w (nat_lit 28) cq (nat_lit 1) (nat_lit 1083) (T_b w os) (piecesOf (grp 0 9) ez cE q_b B0) = some (.next, T_8 w os, cE, q_8) := ⋯
theorem CT (w : World) (os : OsState) : segRunT treeTable pw_wv0036_01 w (nat_lit 28) cq (nat_lit 1) (nat_lit 200) (T_9 w os) (piecesOf (grp 10 7) ez cE q_9 B0) = some (.next, yN w os, cE, yU) := ⋯
theorem Dl (w : World) (os : OsState) : segRunT treeTable pw_wv0036_01 w (nat_lit 28) cq (nat_lit 1) (nat_lit 100) (zV w os) (piecesOf (grp 18 1) ez cE Bh B0) = some (.next, xf w os, cE, yX) := ⋯
theorem Da (w : World) (os : OsState) : segRunT treeTable pw_wv0036_01 w (nat_lit 28) cq (nat_lit 1) (nat_lit 200) (zH w os) (piecesOf (grp 20 3) ez cE zW B0) = some (.next, xu w os, cE, yV) := ⋯
theorem Dk (w : World) (os : OsState) : segRunT treeTable pw_wv0036_01 w (nat_lit 28) cq (nat_lit 1) (nat_lit 600) (Bl w os) (piecesOf (grp 24 11) ez cE zY B0) = some (.next, Cp w os, cE, Cd) := ⋯
end
section
open PySem.Challenge (pw_wv0036_01)
theorem lB {tb : String → Option Builtin} {p : Program} {w : World} {n₀ : Nat} {ann : Option Value} {b : Nat} {N : Nat} {x : Flow × SharedT × Code × Pos} : ∀ {n : Nat} {s : SharedT} {t : Thread}, (segGoT tb p w n₀ ann b n s t).bind (fun r => segRunT tb p w n₀ ann b N r.1 r.2) = some x → segRunT tb p w n₀ ann b (n + N) s t = some x
 | 0, s, t, h => by rw [Nat.zero_add]; exact h
 | n + 1, s, t, h => by
  rw [show n + 1 + N = n + N + 1 by omega]
  unfold segGoT at h
  unfold segRunT
  cases he : endAt b t with
  | some f => rw [he] at h; cases h
  | none =>
   rw [he] at h
   cases hk : stepOk n₀ ann t with
   | false => rw [hk] at h; cases h
   | true =>
    rw [hk] at h
    cases hs : stepT (denote tb) p w s t with
    | none => rw [hs] at h; cases h
    | some r => obtain ⟨s', t'⟩ := r; rw [hs] at h; exact lB h
noncomputable def gsr (w : World) (b : Bool) : World := w.withFollow "special-get-raises" b
theorem gX {n N : Nat} {s : World → SharedT} {t : Thread} {x : World → Flow × SharedT × Code × Pos} (w : World)
  (j : ∀ w, segGoT treeTable pw_wv0036_01 (gsr w true) (nat_lit 28) cq (nat_lit 1) n (s w) t = segGoT treeTable pw_wv0036_01 (gsr w false) (nat_lit 28) cq (nat_lit 1) n (s w) t)
  (k : ∀ w b, (segGoT treeTable pw_wv0036_01 (gsr w false) (nat_lit 28) cq (nat_lit 1) n (s w) t).bind (fun r => segRunT treeTable pw_wv0036_01 (gsr w b) (nat_lit 28) cq (nat_lit 1) N r.1 r.2) = some (x w)) :
  segRunT treeTable pw_wv0036_01 w (nat_lit 28) cq (nat_lit 1) (n + N) (s w) t = some (x w) := by
 have key : ∀ b, segRunT treeTable pw_wv0036_01 (gsr w b) (nat_lit 28) cq (nat_lit 1) (n + N) (s w) t = some (x w) := fun b => by
  refine lB ?_
  have e : segGoT treeTable pw_wv0036_01 (gsr w b) (nat_lit 28) cq (nat_lit 1) n (s w) t = segGoT treeTable pw_wv0036_01 (gsr w false) (nat_lit 28) cq (nat_lit 1) n (s w) t := by
   cases b with
   | false => rfl
   | true => exact j w
  rw [e]
  exact k w b
 have h := key (w.params.followText "special-get-raises")
 unfold gsr at h
 rwa [World.withFollow_self] at h
theorem De (w : World) (os : OsState) : segGoT treeTable pw_wv0036_01 (gsr w true) (nat_lit 28) cq (nat_lit 1) (nat_lit 65) (yN w os) (piecesOf (grp 17 1) ez cE yU B0) = segGoT treeTable pw_wv0036_01 (gsr w false) (nat_lit 28) cq (nat_lit 1) (nat_lit 65) (yN w os) (piecesOf (grp 17 1) ez cE yU B0) := ⋯
theorem DZ (w : World) (os : OsState) (b : Bool) : (segGoT treeTable pw_wv0036_01 (gsr w false) (nat_lit 28) cq (nat_lit 1) (nat_lit 65) (yN w os) (piecesOf (grp 17 1) ez cE yU B0)).bind (fun r => segRunT treeTable pw_wv0036_01 (gsr w b) (nat_lit 28) cq (nat_lit 1) (nat_lit 3100) r.1 r.2) = some (.next, zV w os, cE, Bh) := ⋯
theorem Ec (w : World) (os : OsState) : segGoT treeTable pw_wv0036_01 (gsr w true) (nat_lit 28) cq (nat_lit 1) (nat_lit 40) (xf w os) (piecesOf (grp 19 1) ez cE yX B0) = segGoT treeTable pw_wv0036_01 (gsr w false) (nat_lit 28) cq (nat_lit 1) (nat_lit 40) (xf w os) (piecesOf (grp 19 1) ez cE yX B0) := ⋯
theorem CR (w : World) (os : OsState) (b : Bool) : (segGoT treeTable pw_wv0036_01 (gsr w false) (nat_lit 28) cq (nat_lit 1) (nat_lit 40) (xf w os) (piecesOf (grp 19 1) ez cE yX B0)).bind (fun r => segRunT treeTable pw_wv0036_01 (gsr w b) (nat_lit 28) cq (nat_lit 1) (nat_lit 4400) r.1 r.2) = some (.next, zH w os, cE, zW) := ⋯
theorem CX (w : World) (os : OsState) : segGoT treeTable pw_wv0036_01 (gsr w true) (nat_lit 28) cq (nat_lit 1) (nat_lit 40) (xu w os) (piecesOf (grp 23 1) ez cE yV B0) = segGoT treeTable pw_wv0036_01 (gsr w false) (nat_lit 28) cq (nat_lit 1) (nat_lit 40) (xu w os) (piecesOf (grp 23 1) ez cE yV B0) := ⋯
theorem CW (w : World) (os : OsState) (b : Bool) : (segGoT treeTable pw_wv0036_01 (gsr w false) (nat_lit 28) cq (nat_lit 1) (nat_lit 40) (xu w os) (piecesOf (grp 23 1) ez cE yV B0)).bind (fun r => segRunT treeTable pw_wv0036_01 (gsr w b) (nat_lit 28) cq (nat_lit 1) (nat_lit 200) r.1 r.2) = some (.next, Bl w os, cE, zY) := ⋯
end
section
open PySem.Challenge (pw_wv0036_01)
noncomputable def itw (w : World) (b c : Bool) : World := gsr (w.withFollow "comprehension-iter-twice" c) b
theorem zv (w : World) (os : OsState) : segGoT treeTable pw_wv0036_01 (itw w true false) (nat_lit 28) cq (nat_lit 1) (nat_lit 70) (T_8 w os) (piecesOf (grp 9 1) ez cE q_8 B0) = segGoT treeTable pw_wv0036_01 (itw w false false) (nat_lit 28) cq (nat_lit 1) (nat_lit 70) (T_8 w os) (piecesOf (grp 9 1) ez cE q_8 B0) := ⋯
theorem zq (w : World) (os : OsState) : segGoT treeTable pw_wv0036_01 (itw w true true) (nat_lit 28) cq (nat_lit 1) (nat_lit 60) (T_8 w os) (piecesOf (grp 9 1) ez cE q_8 B0) = segGoT treeTable pw_wv0036_01 (itw w false false) (nat_lit 28) cq (nat_lit 1) (nat_lit 70) (T_8 w os) (piecesOf (grp 9 1) ez cE q_8 B0) := ⋯
theorem Ay (w : World) (os : OsState) : segGoT treeTable pw_wv0036_01 (itw w false true) (nat_lit 28) cq (nat_lit 1) (nat_lit 60) (T_8 w os) (piecesOf (grp 9 1) ez cE q_8 B0) = segGoT treeTable pw_wv0036_01 (itw w false false) (nat_lit 28) cq (nat_lit 1) (nat_lit 70) (T_8 w os) (piecesOf (grp 9 1) ez cE q_8 B0) := ⋯
theorem DU (w : World) (os : OsState) (b c : Bool) : (segGoT treeTable pw_wv0036_01 (itw w false false) (nat_lit 28) cq (nat_lit 1) (nat_lit 70) (T_8 w os) (piecesOf (grp 9 1) ez cE q_8 B0)).bind (fun r => segRunT treeTable pw_wv0036_01 (itw w b c) (nat_lit 28) cq (nat_lit 1) (nat_lit 9600) r.1 r.2) = some (.next, T_9 w os, cE, q_9) := ⋯
end
section
open PySem.Challenge (pw_wv0036_01 rw_wv0036_01)
noncomputable def H1 (P : Params) : Heap := ⟨(fin P).toArray, fk⟩
noncomputable def q0 : Program := view pw_wv0036_01 [0, 35]
noncomputable def jE : List Str := pw_wv0036_01.boundNames.filter fun n => !(n == ("law" : Str))
noncomputable def Xt0 : Shared → Bool := fun s => xlAt q0 [] s && recOk (RowW.records rw_wv0036_01.row.toRowW) s
theorem Bm (w : World) (os : OsState) : topRun treeTable pw_wv0036_01 w (nat_lit 28) cq (nat_lit 2) (Cp w os).abs ⟨doneF .next, cE, Cd, B0⟩ = some ⟨H1 w.params, #[], bZ, nat_lit 2253, os⟩ := ⋯
theorem vn (w : World) (os : OsState) : (staticsOk (importedModules pw_wv0036_01.main.body) (H0 w.params) (H1 w.params) && namesBound pw_wv0036_01 (H1 w.params) && gensDone ⟨H1 w.params, #[], bZ, nat_lit 2253, os⟩ && laidKept (H0 w.params) (H1 w.params)) = true := ⋯
theorem ux (w : World) (os : OsState) : openSeen q0 jE (importedModules pw_wv0036_01.main.body) Xt0 true ⟨H1 w.params, #[], bZ, nat_lit 2253, os⟩ = openGood q0 jE := ⋯
end
section
open PySem.Challenge (pw_wv0036_01 rw_wv0036_01)
theorem yf : bE = grp 0 9 ++ (grp 9 1 ++ (grp 10 7 ++ (grp 17 1 ++ (grp 18 1 ++ (grp 19 1 ++ (grp 20 3 ++ (grp 23 1 ++ (grp 24 11 ++ [])))))))) := ⋯
theorem l8 {tb : String → Option Builtin} {p : Program} {w : World} {n₀ : Nat} {ann : Option Value} {b : Nat} {x : Flow × SharedT × Code × Pos} (k : Nat) : ∀ {n : Nat} {s : SharedT} {t : Thread}, segRunT tb p w n₀ ann b n s t = some x → segRunT tb p w n₀ ann b (n + k) s t = some x
 | 0, s, t, h => by cases h
 | n + 1, s, t, h => by
  rw [show n + 1 + k = n + k + 1 by omega]
  unfold segRunT at h ⊢
  cases he : endAt b t with
  | some f => rw [he] at h; exact h
  | none =>
   rw [he] at h
   cases hk : stepOk n₀ ann t with
   | false => rw [hk] at h; cases h
   | true =>
    rw [hk] at h
    cases hs : stepT (denote tb) p w s t with
    | none => rw [hs] at h; cases h
    | some r => obtain ⟨s', t'⟩ := r; rw [hs] at h; exact l8 k h
theorem Ds (w : World) (os : OsState) : segRunT treeTable pw_wv0036_01 w (nat_lit 28) cq (nat_lit 1) (nat_lit 9670) (T_8 w os) (piecesOf (grp 9 1) ez cE q_8 B0) = some (.next, T_9 w os, cE, q_9) := by
 have key : ∀ b c, segRunT treeTable pw_wv0036_01 (itw w b c) (nat_lit 28) cq (nat_lit 1) (nat_lit 9670) (T_8 w os) (piecesOf (grp 9 1) ez cE q_8 B0) = some (.next, T_9 w os, cE, q_9) := fun b c => by
  have k := DU w os b c
  cases c with
  | false =>
   refine lB (n := nat_lit 70) (N := nat_lit 9600) ?_
   cases b with
   | false => exact k
   | true => rw [zv]; exact k
  | true =>
   have m := lB (n := nat_lit 60) (N := nat_lit 9600) (w := itw w b true) (x := (.next, T_9 w os, cE, q_9)) (s := T_8 w os) (t := piecesOf (grp 9 1) ez cE q_8 B0) (tb := treeTable) (p := pw_wv0036_01) (n₀ := nat_lit 28) (ann := cq) (b := nat_lit 1) (by
    cases b with
    | false => rw [Ay]; exact k
    | true => rw [zq]; exact k)
   exact l8 (nat_lit 10) m
 have h := key (w.params.followText "special-get-raises") (w.params.followText "comprehension-iter-twice")
 have e : itw w (w.params.followText "special-get-raises") (w.params.followText "comprehension-iter-twice") = w := by
  unfold itw gsr
  rw [World.withFollow_self, World.withFollow_self]
 exact (congrArg (fun w' => segRunT treeTable pw_wv0036_01 w' (nat_lit 28) cq (nat_lit 1) (nat_lit 9670) (T_8 w os) (piecesOf (grp 9 1) ez cE q_8 B0)) e).symm.trans h
theorem n8 {tb : String → Option Builtin} {p : Program} {w : World} {n₀ : Nat} {ann : Option Value} {s r : Shared} {t : Thread} {n m : Nat} (k : topRun tb p w n₀ ann n s t = some r) (h : Nat.ble n m = true) : topRun tb p w n₀ ann m s t = some r := by
 have := topRun_mono (m - n) _ _ _ _ k
 rwa [show n + (m - n) = m by have := Nat.le_of_ble_eq_true h; omega] at this
theorem zh (w : World) (os : OsState) : topRun treeTable pw_wv0036_01 w (nat_lit 28) cq (nat_lit 20000) (S0 w os) (topStub pw_wv0036_01) = some ⟨H1 w.params, #[], bZ, nat_lit 2253, os⟩ := by
 have k9 := piece_app (q := q_z) (segRun_of (Dk w os)) (piece_nil (env := ez) (q := q_z) (Bm w os))
 have k8 := piece_app (q := q_z) (segRun_of (gX (s := fun w => xu w os) (x := fun w => (.next, Bl w os, cE, zY)) w (fun w => CX w os) fun w b => CW w os b)) k9
 have k7 := piece_app (q := q_z) (segRun_of (Da w os)) k8
 have k6 := piece_app (q := q_z) (segRun_of (gX (s := fun w => xf w os) (x := fun w => (.next, zH w os, cE, zW)) w (fun w => Ec w os) fun w b => CR w os b)) k7
 have k5 := piece_app (q := q_z) (segRun_of (Dl w os)) k6
 have k4 := piece_app (q := q_z) (segRun_of (gX (s := fun w => yN w os) (x := fun w => (.next, zV w os, cE, Bh)) w (fun w => De w os) fun w b => DZ w os b)) k5
 have k3 := piece_app (q := q_z) (segRun_of (CT w os)) k4
 have k2 := piece_app (q := q_z) (segRun_of (Ds w os)) k3
 have k1 := piece_app (q := q_z) (segRun_of (DY w os)) k2
 rw [← yf] at k1
 have k0 := go_top (BN w os) (piece_block (t8 w os) k1)
 exact n8 k0 ⋯
theorem ym : LeftO pw_wv0036_01 q0 jE Xt0 Shared.heap (fun w => H1 w.params) (nat_lit 20000) :=
 .of_pieces (m₀ := nat_lit 28) (ann := cq) (M := nat_lit 20000) yJ wJ zh rfl fun w => funext fun os => by
  show (_, _, _) = (_, _, _)
  rw [vn w os, ux w os]
end
section
open PySem.Challenge (pw_wv0036_01 rw_wv0036_01)
noncomputable def YP0 (w : World) (h : Heap) : Prop := ∀ b o, (H1 w.params).get? b = some o → h.get? b = some o
noncomputable def mH : DefRec × List (Str × Expr) := (defOf q0 "law").getD (⟨"", default, [], default, ⟨0,0,0,0⟩⟩, [])
theorem sX : rw_wv0036_01.wellSaid = true := ⋯
theorem sV : defOf q0 "law" = some (mH.1, mH.2) := ⋯
theorem tH : pw_wv0036_01.theDef "law" = some (mH.1.params, mH.1.body, mH.1.scope) := ⋯
theorem uK : kwWritten? mH.1.params.kwonlyargs mH.1.params.kw_defaults = some mH.2 := ⋯
theorem uD : (chainsOk q0 && opensWell pw_wv0036_01 && (frees rw_wv0036_01.row.toRowW && rw_wv0036_01.row.toRowW.within.isEmpty)) = true := ⋯
theorem t5 : pw_wv0036_01.bare := ⟨rfl, rfl, rfl, rfl, rfl, by decide +kernel⟩
theorem um : rw_wv0036_01.row.toRowW.promised := ⟨[.list [.int 3, .int 1]], by decide +kernel, by decide +kernel⟩
theorem wR (walk : WalkO q0 jE (XL q0 []) YP0 rw_wv0036_01.row.toRowW mH.1 mH.2 fun f vs => PySem.call f vs) : rw_wv0036_01.Holds :=
 holds_law sX fun said => holds_open (r := rw_wv0036_01.row) (Xt := Xt0) (XP := XL q0 []) (YP := YP0) ym (fun w s e b o h => by rw [e]; exact h) (fun w h h' y k b o e => k b o (y b o e))
  (fun s e => xl_of s (C4' e).1) XL.keeps sV tH uK (fun s e => recFacts_of (C4' e).2) rfl said uD t5 um walk
end
section
open PySem.Challenge (pw_wv0036_01 rw_wv0036_01)
noncomputable def glT : Lw := [
 ("Headers", .ref (nat_lit 175)), ("rgb_to_hls", .ref (nat_lit 186)), ("rgb_to_hsv", .ref (nat_lit 193)), ("_QUOPRI_HEADER_MAP", .ref (nat_lit 201)), ("unquote", .ref (nat_lit 216)), ("header_encode", .ref (nat_lit 224)),
 ("_twin_re_1", .ref (nat_lit 234)), ("_twin_re_2", .ref (nat_lit 239)), ("quotedata", .ref (nat_lit 246)), ("_law_steps", .ref (nat_lit 253)), ("_law_parts", .ref (nat_lit 258)), ("_law_refused", .ref (nat_lit 265)),
 ("_name_disallowed_re", .ref (nat_lit 41)), ("_value_disallowed_re", .ref (nat_lit 46)), ("CRLF", .str "\r\n" (nat_lit 2207)),
 ("chr", .builtin "chr"), ("len", .builtin "len"), ("max", .builtin "max"), ("min", .builtin "min"), ("ord", .builtin "ord"), ("sorted", .builtin "sorted"), ("sum", .builtin "sum"),
 ("bytes", .type "bytes"), ("enumerate", .type "enumerate"), ("int", .type "int"), ("list", .type "list"), ("range", .type "range"), ("str", .type "str"), ("type", .type "type"), ("ValueError", .type "ValueError")]
theorem ul (P : Params) : ((H1 P).isNs mainGlobals && (H1 P).isNs builtinsNs && glT.all fun p => decide ((H1 P).nsMap mainGlobals p.1 = some p.2) || (decide ((H1 P).nsMap mainGlobals p.1 = none) && decide ((H1 P).nsMap builtinsNs p.1 = some p.2))) = true := ⋯
noncomputable def StD (w : World) (h : Heap) : Prop := ∀ b o, b ≠ nat_lit 267 → (H1 w.params).get? b = some o → h.get? b = some o
theorem zx {P : Params} {b : Addr} {o : Obj} (e : (H1 P).get? b = some o) : b < nat_lit 271 := by
 have := A5' e
 rwa [show (H1 P).objs.size = nat_lit 271 from by rfl'] at this
theorem qT {w : World} {h : Heap} {a : Addr} (st : StD w h) (ne : a ≠ nat_lit 267) (x : (H1 w.params).isNs a = true) : h.Ns a ((H1 w.params).nsMap a) := (Heap.Ns.of_isNs x).at' fun o e => st _ _ ne e
theorem sm {α : Type} {x : Str} {v : α} : ∀ {l : List (Str × α)}, lk l x = some v → (x, v) ∈ l
 | (k, u) :: r, e => by
  unfold lk at e
  cases h : sq x k with
  | true => rw [h] at e; cases e; rw [aN.mp h]; exact .head _
  | false => rw [h] at e; exact .tail _ (sm e)
noncomputable def fH : Pos := ⟨nat_lit 259, nat_lit 48, nat_lit 259, nat_lit 66⟩
noncomputable def pS (env : Env) (M : Ap) (h : Heap) : Prop := env.code = .ref (nat_lit 269) ∧ (h.get? (nat_lit 267) = some (tabObj #[]) ∨ ∃ a : Addr, ¬ M a ∧ h.get? (nat_lit 267) = some (tabObj #[rawInt fH.line, rawInt fH.col, .ref a]) ∧ h.CodeRec (.ref a) (env.qual ++ "<lambda>"))
theorem pS.f {env : Env} {M : Ap} {h : Heap} (t : pS env M h) : ∃ o fs, h.get? (nat_lit 267) = some o ∧ o.data = .fields fs := by
 rcases t.2 with e | ⟨a, _, e, _⟩
 ·exact ⟨_, _, e, rfl⟩
 ·exact ⟨_, _, e, rfl⟩
theorem pS.k {env : Env} {M M' : Ap} {h h' : Heap} (k1 : ∀ o, h.get? (nat_lit 267) = some o → h'.get? (nat_lit 267) = some o) (k2 : ∀ b o, ¬ M b → h.get? b = some o → h'.get? b = some o) (k3 : ∀ b, M' b → M b ∨ h.get? b = none) (t : pS env M h) : pS env M' h' := by
 refine ⟨t.1, ?_⟩
 rcases t.2 with e | ⟨a, hm, e, r⟩
 ·exact .inl (k1 _ e)
 ·obtain ⟨a', oc, vs, tq, ea, eo, r⟩ := r
  cases ea
  refine .inr ⟨a, fun q => ?_, k1 _ e, a, oc, vs, tq, rfl, k2 _ _ hm eo, r⟩
  rcases k3 _ q with q | q
  ·exact hm q
  ·rw [eo] at q; cases q
noncomputable def DD (w : World) : Std where
 prog := pw_wv0036_01
 w := w
 base := nat_lit 271
 tab := nat_lit 267
 b2 := by decide
 tb := by decide
 St := StD w
 stb := fun h h' k st b o ne e => k b o (zx e) ne (st b o ne e)
 hobj := fun d => { cls := .ref (nat_lit 175), dict := some d }
 gl := lk glT
 TabSt := pS
 tabF := pS.f
 tabK := pS.k
 glob := fun {A E s env x v Q} st hg hb e q => by
  have k := ul w.params
  simp only [Bool.and_eq_true, List.all_eq_true] at k
  obtain ⟨⟨k1, k2⟩, k3⟩ := k
  have m := k3 _ (sm e)
  simp only [Bool.or_eq_true, Bool.and_eq_true, decide_eq_true_eq] at m
  have n1 := qT st (by decide) k1
  have n2 := qT st (by decide) k2
  rcases m with m | ⟨m1, m2⟩
  ·exact loadGlobal_global (hg ▸ n1) m q
  ·exact loadGlobal_builtin (hg ▸ n1) m1 (hb ▸ n2) m2 q
noncomputable def ay (o : Obj) : FuncData := match o.data with
 | .func f => f
 | _ => ⟨"", "", default, .stmts [], default, 0, [], .none, .none, .none, .none, none, .none, .none, 0⟩
noncomputable def av (f : FuncData) : List Stmt := match f.body with
 | .stmts b => b
 | _ => []
theorem yx (P : Params) : ((H1 P).isNs cStatics && ((H1 P).nsMap cStatics "sys.recursionlimit").isNone) = true := ⋯
theorem DW {w : World} {a : Addr} {oa : Obj} {c : Addr} {oc : Obj} {vs : Array Value} {t : Tok} (h1 : (H1 w.params).get? a = some oa) (h2 : oa.data = .func (ay oa)) (ne : a ≠ nat_lit 267) (h3 : (ay oa).code = .ref c) (h4 : (H1 w.params).get? c = some oc) (h5 : oc.data = .fields vs) (h6 : vs[1]? = some (.str (ay oa).qualname t)) (ne' : c ≠ nat_lit 267)
  (hb : (ay oa).body = .stmts (av (ay oa))) (q : ((ay oa).closure.isEmpty && ((ay oa).globals == mainGlobals && ((ay oa).builtins == builtinsNs && ((ay oa).scope.kind == .function && (!(ay oa).scope.isCoroutine && (!(ay oa).scope.isGenerator && e7 (ay oa).scope.names)))))) = true) :
  dW (DD w) a (ay oa) (av (ay oa)) := by
 simp only [Bool.and_eq_true, beq_iff_eq, Bool.not_eq_true'] at q
 obtain ⟨q1, q2, q3, q4, q5, q6, q7⟩ := q
 have k := yx w.params
 simp only [Bool.and_eq_true, Option.isNone_iff_eq_none] at k
 exact ⟨fun h st => ⟨oa, st _ _ ne h1, h2⟩, fun h st => ⟨_, qT st (by decide) k.1, k.2⟩, fun h st => ⟨c, oc, vs, t, h3, st _ _ ne' h4, h5, h6⟩, hb, List.isEmpty_iff.mp q1, q2, q3, q4, q5, q6, q7, by show nat_lit 267 < nat_lit 271; decide⟩
end
section
noncomputable def mL (o : Obj) : Array Value := match o.data with
 | .fields vs => vs
 | _ => #[]
noncomputable def Dw (o : Obj) : Tok := match ((mL o)[1]? : Option Value) with
 | some (Value.str _ t) => t
 | _ => 0
theorem dH {w : World} {a : Addr} {oa : Obj} {c : Addr} {oc : Obj} (h1 : (H1 w.params).get? a = some oa) (h2 : oa.data = .func (ay oa)) (h3 : (ay oa).code = .ref c) (h4 : (H1 w.params).get? c = some oc) (h5 : oc.data = .fields (mL oc)) (h6 : (mL oc)[1]? = some (.str (ay oa).qualname (Dw oc)))
  (hb : (ay oa).body = .stmts (av (ay oa))) (q : ((a != nat_lit 267) && ((c != nat_lit 267) && ((ay oa).closure.isEmpty && ((ay oa).globals == mainGlobals && ((ay oa).builtins == builtinsNs && ((ay oa).scope.kind == .function && (!(ay oa).scope.isCoroutine && (!(ay oa).scope.isGenerator && e7 (ay oa).scope.names)))))))) = true) : dW (DD w) a (ay oa) (av (ay oa)) := by
 obtain ⟨q1, q⟩ := C4' q
 obtain ⟨q2, q⟩ := C4' q
 exact DW h1 h2 (by simpa using q1) h3 h4 h5 h6 (by simpa using q2) hb q
theorem Di {w : World} : dW (DD w) (nat_lit 69) (ay o69) (av (ay o69)) := dH (c := nat_lit 68) (oc := o68) ⋯ ⋯ ⋯ ⋯ ⋯ ⋯ ⋯ ⋯
theorem Cf {w : World} : dW (DD w) (nat_lit 76) (ay o76) (av (ay o76)) := dH (c := nat_lit 75) (oc := o75) ⋯ ⋯ ⋯ ⋯ ⋯ ⋯ ⋯ ⋯
theorem zl {w : World} : dW (DD w) (nat_lit 114) (ay pL) (av (ay pL)) := dH (c := nat_lit 113) (oc := Cs) ⋯ ⋯ ⋯ ⋯ ⋯ ⋯ ⋯ ⋯
theorem xD {w : World} : dW (DD w) (nat_lit 122) (ay gp) (av (ay gp)) := dH (c := nat_lit 121) (oc := Ca) ⋯ ⋯ ⋯ ⋯ ⋯ ⋯ ⋯ ⋯
theorem zu {w : World} : dW (DD w) (nat_lit 139) (ay my) (av (ay my)) := dH (c := nat_lit 138) (oc := CI) ⋯ ⋯ ⋯ ⋯ ⋯ ⋯ ⋯ ⋯
theorem oq {w : World} : dW (DD w) (nat_lit 165) (ay eF) (av (ay eF)) := dH (c := nat_lit 164) (oc := Cv) ⋯ ⋯ ⋯ ⋯ ⋯ ⋯ ⋯ ⋯
theorem uB {w : World} : dW (DD w) (nat_lit 172) (ay i9) (av (ay i9)) := dH (c := nat_lit 171) (oc := Ct) ⋯ ⋯ ⋯ ⋯ ⋯ ⋯ ⋯ ⋯
theorem z8 {w : World} : dW (DD w) (nat_lit 186) (ay yZ) (av (ay yZ)) := dH (c := nat_lit 185) (oc := Cy) ⋯ ⋯ ⋯ ⋯ ⋯ ⋯ ⋯ ⋯
theorem Bk {w : World} : dW (DD w) (nat_lit 193) (ay yR) (av (ay yR)) := dH (c := nat_lit 192) (oc := CH) ⋯ ⋯ ⋯ ⋯ ⋯ ⋯ ⋯ ⋯
theorem zr {w : World} : dW (DD w) (nat_lit 216) (ay y0) (av (ay y0)) := dH (c := nat_lit 215) (oc := Cz) ⋯ ⋯ ⋯ ⋯ ⋯ ⋯ ⋯ ⋯
theorem zk {w : World} : dW (DD w) (nat_lit 224) (ay pM) (av (ay pM)) := dH (c := nat_lit 223) (oc := BU) ⋯ ⋯ ⋯ ⋯ ⋯ ⋯ ⋯ ⋯
theorem Ah {w : World} : dW (DD w) (nat_lit 246) (ay vW) (av (ay vW)) := dH (c := nat_lit 245) (oc := Cc) ⋯ ⋯ ⋯ ⋯ ⋯ ⋯ ⋯ ⋯
theorem Bg {w : World} : dW (DD w) (nat_lit 253) (ay vB) (av (ay vB)) := dH (c := nat_lit 252) (oc := BW) ⋯ ⋯ ⋯ ⋯ ⋯ ⋯ ⋯ ⋯
theorem BO {w : World} : dW (DD w) (nat_lit 258) (ay tG) (av (ay tG)) := dH (c := nat_lit 257) (oc := Cn) ⋯ ⋯ ⋯ ⋯ ⋯ ⋯ ⋯ ⋯
theorem y9 {w : World} : dW (DD w) (nat_lit 265) (ay pB) (av (ay pB)) := dH (c := nat_lit 264) (oc := BZ) ⋯ ⋯ ⋯ ⋯ ⋯ ⋯ ⋯ ⋯
theorem xg {w : World} : dW (DD w) (nat_lit 270) (ay uN) (av (ay uN)) := dH (c := nat_lit 269) (oc := we) ⋯ ⋯ ⋯ ⋯ ⋯ ⋯ ⋯ ⋯
noncomputable def KF (P : Params) : Frag := [(nat_lit 175, wk), (nat_lit 174, Cg P), (nat_lit 69, o69), (nat_lit 76, o76), (nat_lit 114, pL), (nat_lit 122, gp), (nat_lit 139, my), (nat_lit 165, eF), (nat_lit 172, i9)]
theorem oM {w : World} {h : Heap} (st : StD w h) : (KF w.params).In h := by
 refine Frag.In.keeps (h := (H1 w.params).update (nat_lit 267) (fun z => ⟨.none, none, .freed, #[]⟩)) ?_ fun b o e => ?_
 ·exact Frag.in_of (as := [nat_lit 175, nat_lit 174, nat_lit 69, nat_lit 76, nat_lit 114, nat_lit 122, nat_lit 139, nat_lit 165, nat_lit 172]) ⋯ ⋯
 ·by_cases hb : b = nat_lit 267
  ·subst hb
   rw [show ((H1 w.params).update (nat_lit 267) (fun z => ⟨.none, none, .freed, #[]⟩)).get? (nat_lit 267) = none from by rfl'] at e
   cases e
  ·exact st _ _ hb ((Heap.get?_update_ne _ _ _ _ hb).symm.trans e)
noncomputable def HX (w : World) : HdK (DD w) where
 K := KF w.params
 C := nat_lit 175
 inn := fun z st => oM st
 obj := fun d => ⟨rfl, rfl, by rfl'⟩
 ga := ⋯
 gt := ⋯
end
section
open PySem.Builtin.Re
theorem bf : PlainAttrs "re.Pattern" :=
 ⟨⟨"object.__getattribute__", by rw [typeLookup_type, builtinLookup_eq_fast]; rfl', by decide +kernel⟩, by rw [typeLookup_type, builtinLookup_eq_fast]; rfl'⟩
theorem a8 : Slot "re.Pattern" "search" "re.Pattern.search" :=
 .of (owner := "re.Pattern") (n := "search") (by rw [typeLookup_type, builtinLookup_eq_fast]; rfl') (by decide +kernel) (by decide +kernel) (by decide +kernel)
  (by first | exact .inl (by decide +kernel) | exact .inr (by decide +kernel)) (by rw [isSubtype_type]; rfl')
theorem cg : typeOf (.builtin "re.Pattern.search") = pure (.type "method_descriptor") := by show builtinType _ = _; rw [builtinType_eq_fast]; rfl'
theorem bX : entryFor table "re.Pattern.search" = some Builtin.«re.Pattern.search» := entryFor_of_tree ⋯
theorem ef : Manifest.owners.lookup (String.ofList ['n', 'r', 'e', 't', 't', 'a', 'P', '.', 'e', 'r'].reverse) = some Manifest.sig_re_Pattern := ⋯
theorem bO (a b : Value) : argsOk "re.Pattern.search" ⟨[a, b], []⟩ := by
 unfold argsOk; rw [signature?_of (id := "re.Pattern.search") (n := ['h', 'c', 'r', 'a', 'e', 's']) (o := ['n', 'r', 'e', 't', 't', 'a', 'P', '.', 'e', 'r']) ⋯ ef]; rfl'
structure eS (h : Heap) (a : Addr) (fs : Array Value) (cs : Array Value) : Prop where
 «at» : ∃ o, h.get? a = some o ∧ o.cls = .type "re.Pattern" ∧ o.data = .fields fs ∧ o.dict = none
 code : ∃ c o n, fs.getD 5 .none = .ref c ∧ h.get? c = some o ∧ o.data = .seq cs n
 kind : reRawNat (fs.getD 6 .none) = 0
 gr : reRawNat (fs.getD 2 .none) = 0
noncomputable def da (cs : Array Value) : Array Nat := (cs.map reRawOf).map (·.toNat)
noncomputable def dj (cs : Array Value) (x : Str) : Sre.M := Sre.forSearch (da cs) x.cps 0 (min (0 : Int).toNat x.cps.size) (min (2 ^ 63 - 1 : Int).toNat x.cps.size) false
section
variable {M : Model} {A : Around} {E : Ee} {s : Shared}
theorem nC {a : Addr} {fs cs : Array Value} {x : Str} {t : Tok} (p : eS s.heap a fs cs) {Q : ReTarget → Shared → Prop} (h : Q { pattern := .ref a, string := .str x t, code := da cs, text := x.cps, kind := 0, groups := 0, pos := min (0 : Int).toNat x.cps.size, lim := min (2 ^ 63 - 1 : Int).toNat x.cps.size } s) :
  wpAny M A (reTarget "re.Pattern.search" "search" ⟨[.ref a, .str x t], []⟩) Q E s := by
 obtain ⟨o, ho, hc, hd, _⟩ := p.at
 obtain ⟨c, oc, n, h5, hoc, hdc⟩ := p.code
 unfold reTarget
 have e1 : reNamed "re.Pattern.search" "search" ["string", "pos", "endpos"] 1 [.str x t] [] = pure [some (.str x t), none, none] := ⋯
 have e2 : reTextOf (.str x t) = pure (x.cps, 0) := ⋯
 have e3 : reNoCollectionInside (.str x t) 0 = pure () := ⋯
 dsimp only
 refine Wb (wpAny_of_eq e1 ?_)
 dsimp only
 refine Wb (Wq ?_)
 refine Wb (Wq ?_)
 refine Wb (wpAny_fieldsOf ho hd ?_)
 refine Wb (wpAny_of_eq e2 ?_)
 dsimp only
 rw [p.kind]
 simp only [p.gr, h5]
 refine Wb (wpAny_of_eq e3 ?_)
 unfold reRawItems
 refine Wb (Wb (wpAny_seqItems hoc hdc (Wq ?_)))
 exact Wq h
end
theorem eZ {a : Addr} {fs cs : Array Value} {x : Str} {t : Tok} {k : Nat} (hk : k ≤ 2 ^ 64) {r : Option Sre.M} (e : c8 k (dj cs x) = some r) :
  Meets (Builtin.«re.Pattern.search» ⟨[.ref a, .str x t], []⟩) (fun z R s => eS s.heap a fs cs ∧ match r with
   | none => R (.ok (.ret .none)) s
   | some _ => ∀ m s', Keeps s s' → s'.TypeIs (.ref m) "re.Match" → R (.ok (.ret (.ref m))) s') := .of_wp fun prog w A R s h => by
 obtain ⟨p, h⟩ := h
 unfold Builtin.«re.Pattern.search»
 refine Wb (nC p ?_)
 dsimp only
 unfold reAnswer
 refine Wb (dX hk e ?_)
 cases r with
 | none => exact Wq ⟨_, rfl, h⟩
 | some m =>
  dsimp only at h ⊢
  unfold reNewMatch
  dsimp only
  rw [show List.range 0 = [] from rfl]
  simp only [List.any_nil, Bool.false_eq_true, if_false, List.flatMap_nil]
  simp only [newTuple]
  refine Wb (Wb (B7' (B7' (Wq ⟨_, rfl, h _ _ ?_ ⟨_, A4' _ rfl, rfl⟩⟩) (by size_fits)) (by size_fits)))
  exact Kp.trans' (Kp.push' s _ s.toks) (Kp.push' _ _ _)
end
section
section
variable {D : Std} {n : Nat} {M F W : Ap} {env : Env} {ea ea' : ao} {s s' : Shared} {A : Around} {E : Ee}
theorem aV {l : Lv} (h : (yT D ea l).map (·.1) = some ea') : c9 D ea l ea' := by
 cases q : yT D ea l with
 | none => rw [q] at h; cases h
 | some a => rw [q] at h; cases h; exact a.2
theorem aF {T : Tab D n} {k : Nat} {e : Expr} {x : V} (h : (evD T k ea e).map (·.1) = some x) : Ev D n ea e x := by
 cases q : evD T k ea e with
 | none => rw [q] at h; cases h
 | some a => rw [q] at h; cases h; exact a.2
theorem AU {T : Tab D n} {X : Fx D n} {ke k : Nat} {b : List Stmt} {o : Out} (h : (exD T X ke k ea b).map (·.1) = some o) : dF D n ea b o := by
 cases q : exD T X ke k ea b with
 | none => rw [q] at h; cases h
 | some a => rw [q] at h; cases h; exact a.2
theorem aO {x : Str} {v : V} (h : (vC D ea x v).map (·.1) = some ea') : dG D ea x v ea' := by
 cases q : vC D ea x v with
 | none => rw [q] at h; cases h
 | some a => rw [q] at h; cases h; exact a.2
theorem VR.sta_inv {prog : Program} {w : World} {h : Heap} {v u : Value} (r : VR prog w M h v (.sta u)) : v = u := by cases r; rfl
theorem sh {a b : Value} (h : plainIs a b = true) : a6 D.prog D.w .Is (.sta a) (.sta b) (a == b) := fun ra rb z => by
 have := ra.sta_inv
 have := rb.sta_inv
 subst_vars
 exact wpAny_is_plain h (aB _)
theorem ah {x : Str} {p : Pos} {v : V} (hx : sq x "__debug__" = false) (q : lk ea.names x = some .local) (e : lk ea.loc x = some v) : Ev D n ea (.Name x p) v := jj hx (lV q e)
theorem dn {x : Str} {p : Pos} {u : Value} (hx : sq x "__debug__" = false) (q : lk ea.names x = some .globalImplicit) (e : D.gl x = some u) : Ev D n ea (.Name x p) (.sta u) := jj hx (f6 q e)
theorem nB {x : Str} {y : Str} (e : D.gl x = some (.type "type")) : rD D n x [.str y] (.sta (.type "str")) := fun {_ s _ _ _ _} _ _ _ _ _ e' rv => by
 cases e.symm.trans e'
 obtain ⟨v, rfl, rv1⟩ := rv.one
 obtain ⟨t, rfl⟩ := rv1.str_inv
 exact ⟨.inl (fun a h => nomatch h), call_type_of (typeIs_str _ _ _) (by decide +kernel) ⟨Kp.refl' s, .sta _⟩⟩
theorem jS {o : Expr} {m : Str} {apos pos : Pos} {args : List Expr} {p : Addr} {T id : String} {vs : List V} {x : V} (ho : Ev D n ea o (.sta (.ref p))) (hl : (apos.endLine == pos.line) = true) (hf : args.length < 20) (ev : Evs D n ea args vs)
  (pa : PlainAttrs T) (slot : Slot T m id) (ty : typeOf (.builtin id) = pure (.type "method_descriptor")) (hty : ∀ h, D.St h → ∃ ob, h.get? p = some ob ∧ ob.cls = .type T ∧ ob.dict = none)
  (hc : ∀ {M : Ap} {s : Shared} {A : Around} {E : Ee} {us : List Value}, bb n A → D.St s.heap → Dom M s → VRs D.prog D.w M s.heap us vs → wpAny (model D.prog D.w) A (call (.builtin id) (.ref p :: us)) (Got D.prog D.w M s x) E s) : Ev D n ea (.Call (.Attribute o m apos) args [] pos) x :=
 .mk' ⟨fun z z => rfl, fun z z => rfl, fun z => rfl, fun z z z z z => rfl, fun z z z => rfl⟩ (fun z z z z => rfl) (fun z z => rfl) fun hA R => by
  refine pA (ho.pl.base _ _ _) hl hf ev (au (ho.ev hA R) fun ov s₁ g => ?_)
  have R₁ := R.keeps g.2.1 g.1
  have := g.2.2.sta_inv
  subst this
  obtain ⟨ob, h1, h2, h3⟩ := hty _ R₁.st
  refine getMethod_builtin ⟨ob, h1, h2⟩ pa slot ty (fun a e => by cases e; exact ⟨ob, h1, h3⟩) (au (ev.ev pos hA R₁) fun us s₃ g₃ => ?_)
  have R₃ := R₁.keeps g₃.2.1 g₃.1
  exact ⟨.inl (fun a e => nomatch e), cz.after (Kp.trans' g.2.1 g₃.2.1) (A1' g.1 g₃.1) (hc hA R₃.st R₃.dom g₃.2.2)⟩
end
noncomputable def cs (b : Bool) : Array Value := match (match b with | true => o40 | false => o45).data with
 | .seq vs _ => vs
 | _ => #[]
noncomputable def reA (b : Bool) : Addr := match b with | true => nat_lit 41 | false => nat_lit 46
noncomputable def reO (b : Bool) : Obj := match b with | true => o41 | false => o46
theorem lU {w : World} {h : Heap} (b : Bool) (st : StD w h) : eS h (reA b) (mL (reO b)) (cs b) ∧ ∃ ob, h.get? (reA b) = some ob ∧ ob.cls = .type "re.Pattern" ∧ ob.dict = none := by
 cases b with
 | true =>
  have h1 : h.get? (nat_lit 41) = some o41 := st _ _ (by decide) ⋯
  have h2 : h.get? (nat_lit 40) = some o40 := st _ _ (by decide) ⋯
  exact ⟨⟨⟨_, h1, by rfl', by rfl', by rfl'⟩, ⟨nat_lit 40, o40, 0, by rfl', h2, by rfl'⟩, by rfl', by rfl'⟩, _, h1, by rfl', by rfl'⟩
 | false =>
  have h1 : h.get? (nat_lit 46) = some o46 := st _ _ (by decide) ⋯
  have h2 : h.get? (nat_lit 45) = some o45 := st _ _ (by decide) ⋯
  exact ⟨⟨⟨_, h1, by rfl', by rfl', by rfl'⟩, ⟨nat_lit 45, o45, 0, by rfl', h2, by rfl'⟩, by rfl', by rfl'⟩, _, h1, by rfl', by rfl'⟩
noncomputable def bu (b : Bool) (x : Str) : Prop := c8 (nat_lit 4000) (dj (cs b) x) = some none
theorem kn {w : World} {b : Bool} {x : Str} (hc : bu b x) {M : Ap} {s : Shared} {A : Around} {E : Ee} {us : List Value} (st : StD w s.heap) (rv : VRs (DD w).prog (DD w).w M s.heap us [.str x]) :
  wpAny (model (DD w).prog (DD w).w) A (call (.builtin "re.Pattern.search") (.ref (reA b) :: us)) (Got (DD w).prog (DD w).w M s .none) E s := by
 obtain ⟨v, rfl, rv1⟩ := rv.one
 obtain ⟨t, rfl⟩ := rv1.str_inv
 obtain ⟨p, ob, h1, h2, h3⟩ := lU b st
 exact call_meets a8 ⟨ob, h1, h2⟩ bX (bO _ _) (eZ (k := nat_lit 4000) (by decide +kernel) hc) ⟨p, Kp.refl' s, .none⟩
end
section
noncomputable def nm76 : List (Str × NameKind) := (ay o76).scope.names
noncomputable def iX (a : Addr) (x : Str) (b : Bool) : ao := { baseE nm76 with loc := [("self", .sta (.ref a)), ("value", .str x), ("name", .bool b)] }
noncomputable def gF (a : Addr) (x : Str) (b : Bool) : ao := { baseE nm76 with loc := [("self", .sta (.ref a)), ("value", .str x), ("name", .bool b), ("regex", .sta (.ref (reA b)))] }
section
variable {w : World} {n : Nat}
theorem tK {a : Addr} {x : Str} {b : Bool} : ∀ {p : Pos} {value : Expr} {pos : Pos}, Ev (DD w) n (iX a x b) value (.sta (.ref (reA b))) → eQ (DD w) n (iX a x b) (.Assign [.Name "regex" p] value pos) (.next (gF a x b)) := fun h => bA h (aO ⋯)
theorem nN {a : Addr} {x : Str} {b : Bool} (hc : bu b x) : gy (DD w) n (iX a x b) (av (ay o76)) (.str x) := by
 refine g9 (bR (fi (v := .bool true) (c := true) (bo (ct (fv := .type "type") (vs := [.str x]) ?_ ?_ ?_ (ai (ah ?_ ?_ ?_) al) (nB rfl)) (dn ?_ ?_ (u := .type "str") rfl) (sh rfl)) ⟨rfl, fun r => by cases r; exact wpAny_truthy_bool (bF _ _ _)⟩
  (a7 (tK (qY (x := .bool b) (c := b) (ah ?_ ?_ ?_) ⟨rfl, fun r => by cases r; exact wpAny_truthy_bool (bF _ _ _)⟩ ?_)) (a7 (fi (v := .none) (c := false) (jS (T := "re.Pattern") (id := "re.Pattern.search") (p := reA b) (vs := [.str x]) (ah ?_ ?_ ?_) ?_ ?_ (ai (ah ?_ ?_ ?_) al) bf a8 cg (fun h st => (lU b st).2) (fun z st z rv => kn hc st rv)) ⟨rfl, fun r => by cases r; exact truthy_none (bF _ _ _)⟩ cY) (bR (dm (ah ?_ ?_ ?_)))))))
 all_goals first | rfl' | decide | (cases b <;> exact dn ⋯ ⋯ ⋯) | skip
end
end
section
section
variable {D : Std} {n : Nat} {M F W : Ap} {env : Env} {ea ea' : ao} {s s' : Shared} {A : Around} {E : Ee}
theorem wQ {y : Str} {yp : Pos} {m k : Str} {apos pos : Pos} {arg : Expr} {b : Bool} {kk : Nat} {kp kpos : Pos} {x : V} {mv : MV} {Q : Ee} (hy : sq y "__debug__" = false) (hmo : lk ea.mo y = some mv) (hl : (apos.endLine == pos.line) = true) (ev : Ev D n ea arg x) (hA : bb n A) (R : Rel D M F W env ea s)
  (h : ∀ a l, F l → cj D M s.heap a l mv → wpAny (model D.prog D.w) A (getMethod (.ref a) m (do return (← importBound (.Name y yp) env).getD true)) (fun p s₂ => s₂ = s ∧ ∃ f o fd, p = (.ref f, [.ref a]) ∧ s.heap.get? f = some o ∧ o.data = .func fd ∧
   ∀ u s₃, cz D M s x u s₃ → wpAny (model D.prog D.w) A (call (.ref f) [.ref a, u] [(k, .bool b)]) Q E s₃) E s) :
  wpAny (model D.prog D.w) A (eval (.Call (.Attribute (.Name y yp) m apos) [arg] [⟨some k, .Constant (.bool b) kk kp, kpos⟩] pos) env) Q E s := by
 have hst : starEach [arg] env = [(false, eval arg env)] := ev.pl.star env []
 rw [arm_eval_Call, hst]
 show wpAny _ _ (eval (.Name y yp) env >>= _) Q E s
 refine Wb (wpAny_Name (au (bJ R hmo) fun ov s₁ h₁ => ?_) (by simpa using aJ hy))
 obtain ⟨rfl, a, l, rfl, _, hF, _, mobj, _⟩ := h₁
 refine Wb (wpAny_standAt ?_)
 have hpos : methodCallPos true (.Name y yp) env apos pos = pure pos := by unfold methodCallPos; simp [hl]
 unfold methodCall calleeOf
 rw [show methodCallForm ([arg].length + [(⟨some k, .Constant (.bool b) kk kp, kpos⟩ : Keyword)].length) (backTo pos [(false, eval arg env)]) (backToKw pos (keywordEach [⟨some k, .Constant (.bool b) kk kp, kpos⟩] env)) = true from rfl]
 refine Wb (B3' ?_)
 rw [if_pos rfl]
 refine au (h a l hF mobj) fun p s₂ h₂ => ?_
 obtain ⟨rfl, f, o, fd, rfl, ho, hd, h₂⟩ := h₂
 refine Wb (wpAny_of_eq hpos (callWith_function_kw (o := o) (fd := fd) (evalArgs_kw rfl (spliced_cons (au (ev.ev hA R) fun u s₃ g => spliced_nil ?_)))))
 refine wpAny_evalAll_cons (Wb (wpAny_Constant_bool (Wb (wpAny_standAt (Wq (wpAny_evalAll_nil ?_))))))
 exact ⟨⟨Kp.get g.2.1 ho, hd⟩, h₂ u s₃ g⟩
end
section
variable {w : World} {n : Nat} {ea : ao}
theorem fB {y : Str} {yp : Pos} {apos pos : Pos} {arg : Expr} {b : Bool} {kk : Nat} {kp kpos : Pos} {x : Str} {xs : List V} (hy : sq y "__debug__" = false) (hmo : lk ea.mo y = some (.hdr xs)) (hl : (apos.endLine == pos.line) = true) (ev : Ev (DD w) (n + 1) ea arg (.str x)) (hc : bu b x) :
  Ev (DD w) (n + 1) ea (.Call (.Attribute (.Name y yp) "_convert_string_type" apos) [arg] [⟨some "name", .Constant (.bool b) kk kp, kpos⟩] pos) (.str x) :=
 .mk' ⟨fun z z => rfl, fun z z => rfl, fun z => rfl, fun z z z z z => rfl, fun z z z => rfl⟩ (fun z z z z => rfl) (fun z z => rfl) fun hA R => by
  refine wQ hy hmo hl ev hA R fun a l hF mobj => ?_
  refine (HX w).method R.st mobj (by decide +kernel) (f := nat_lit 76) ⋯ ⋯ ?_
  have h76 : _ := R.st (nat_lit 76) o76 (by decide) ⋯
  refine ⟨rfl, nat_lit 76, o76, ay o76, rfl, h76, by rfl', fun u s₃ g => ?_⟩
  have R₃ := R.keeps g.2.1 g.1
  refine cz.after g.2.1 g.1 ?_
  exact gb (ag := ⟨[.ref a, u], [("name", .bool b)]⟩) Cf hA R₃.st R₃.dom R₃.mb R₃.bs (ps := ["self", "value", "name"]) (vals := [.ref a, u, .bool b]) (xs := [.sta (.ref a), .str x, .bool b]) rfl ⋯ (.cons (.sta _) (.cons g.2.2 (.cons (.bool _) .nil))) (aV (ea' := iX a x b) ⋯) (nN hc)
end
end
section
section
variable {w : World} {n : Nat} {M F W : Ap} {env : Env} {ea ea' : ao} {s s' : Shared} {A : Around} {E : Ee}
theorem Ar {P : Params} {o : Obj} {l : Addr} (h : lookIn "_headers" o = some (some (.ref l))) : findObj (KF P) (nat_lit 175) (some o) "_headers" = some (.value (.ref l)) := by
 have e : ∀ r, lookIn "_headers" o = r → findObj (KF P) (nat_lit 175) (some o) "_headers" = r.bind fun own => match own with
  | some v => some (.value v)
  | none => if copiedNames.contains ("_headers" : Str) then none else some .missing := by
  intro r hr
  subst hr
  rfl'
 rw [e _ h]; rfl
theorem cH (st : StD w s.heap) {a l : Addr} {xs : List V} (mobj : cj (DD w) M s.heap a l (.hdr xs)) {expr : Bool} {Q : Ee} (h : Q (.ref l) { s with toks := s.toks + 1 }) :
  wpAny (model (DD w).prog (DD w).w) A (getAttr (.ref a) "_headers" expr) Q E s := by
 obtain ⟨ox, o, I, h1, _⟩ := (HX w).inst mobj
 exact get_value (oM st) I (HX w).ga (Ar h1) rfl h
set_option tactic.hygienic true in
theorem oL {target : Expr} {y : Str} {yp p : Pos} {xs : List V} (hy : sq y "__debug__" = false) (hmo : lk ea.mo y = some (.hdr xs)) (hmw : ea.mw = false) : dP (DD w) n ea target (.Attribute (.Name y yp) "_headers" p) xs :=
 ⟨fun z z => rfl, fun {M F W env s A E} hA R => Attribute_name (wpAny_Name (au (bJ R hmo) fun ov s₁ h₁ => by
  obtain ⟨rfl, a, l, rfl, ne, hF, hw, mobj, _⟩ := h₁
  refine cH R.st mobj ?_
  cases mobj with | hdr ho hd hm hx hl r ha hdw =>
  rename_i vs k _
  have hne : l ≠ s₁.heap.objs.size := A8' (A5' hl)
  refine wpAny_pyIter_list (s := { s₁ with toks := s₁.toks + 1 }) ⟨_, hl, rfl, k, rfl⟩ ?_
  have Wk := Walks.list (prog := (DD w).prog) (w := (DD w).w) hA.handled s₁.heap.objs.size l hne vs
  have hlen := r.length
  rw [Array.length_toList] at hlen
  rw [hlen] at Wk
  refine ⟨s₁.heap.objs.size, [s₁.heap.objs.size, l], [s₁.heap.objs.size], _, _, _, { s₁ with toks := s₁.toks + 1 }, rfl, A6' _, Kp.toks' s₁ _, aC .., Kp.push' _ _ _,
   ⟨KTurns.ofWalks (target := target) Wk fun i v s Q E st h => letGo_listiter st.1 h, fun b hb => ?_, fun b hb => ?_, fun b hb => ?_, ⟨⟨_, A4' _ rfl, rfl, rfl⟩, ⟨_, A3' _ hl, rfl, k, rfl⟩⟩, fun s Q E st h => Wk.self 0 s Q E st h, fun M₁ i v h p km kk => ?_⟩⟩
  ·rcases C2' hb with rfl | hb
   ·exact .inl (List.mem_cons_self ..)
   ·rw [C1' hb]; exact .inr (hw.2 hmw)
  ·rcases C2' hb with rfl | hb
   ·exact A5' (A4' _ rfl)
   ·rw [C1' hb]; exact A5' (A3' _ hl)
  ·rw [C1' hb]; exact A6' _
  ·obtain ⟨y, e1, rv⟩ := (r.mono kk km).get' (by simpa using p)
   exact ⟨y, e1, .val rv⟩) (by simpa using aJ hy))⟩
set_option tactic.hygienic true in
theorem uk {y : Str} {yp p sp pos : Pos} {xs : List V} (hy : sq y "__debug__" = false) (hmo : lk ea.mo y = some (.hdr xs)) (hl : xs.length ≤ 100000) : Ev (DD w) n ea (.Subscript (.Attribute (.Name y yp) "_headers" p) (.Slice none none none sp) pos) (.list (eg xs none none none)) :=
 .mk' ⟨fun z z => rfl, fun z z => rfl, fun z => rfl, fun z z z z z => rfl, fun z z z => rfl⟩ (fun z z z z => rfl) (fun z z => rfl) fun {M F W env s A E} hA R => Subscript_ (Attribute_name (wpAny_Name (au (bJ R hmo) fun ov s₁ h₁ => by
  obtain ⟨rfl, a, l, rfl, ne, hF, hw, mobj, _⟩ := h₁
  refine cH R.st mobj ?_
  cases mobj with | hdr ho hd hm hx hl' r ha hdw =>
  rename_i vs k _
  rw [arm_eval_Slice]
  refine Wb (Wq (Wb (B3' (Wq (Wb (B3' (Wq ?_)))))))
  show wpAny _ _ (newFields "slice" [.none, .none, .none]) _ _ _
  refine B7' ?_
  have h1 := r.length
  rw [Array.length_toList] at h1
  have ho' := A3' { cls := .type "slice", data := .fields #[.none, .none, .none] } hl'
  have key : wpAny (model (DD w).prog (DD w).w) A (subscriptTail (.Attribute (.Name y yp) "_headers" p) (.Slice none none none sp) (.ref l) (.ref s₁.heap.objs.size)) (Got (DD w).prog (DD w).w M { s₁ with toks := s₁.toks + 1 } (.list (eg xs none none none))) E
    { s₁ with heap := s₁.heap.push { cls := .type "slice", data := .fields #[.none, .none, .none] }, toks := s₁.toks + 1 } := by
   refine sr (T := "list") ⟨_, ho', rfl⟩ slot_list_getitem.lookup (wpAny_getItem_list_slice ⟨_, ho', rfl, _, rfl⟩ (Heap.IsSliceOf.new ..) .none .none .none (by intro e; cases e) ?_ (by rw [aX]; lia))
   have g := dD (s := { s₁ with heap := s₁.heap.push { cls := .type "slice", data := .fields #[.none, .none, .none] }, toks := s₁.toks + 1 }) (prog := (DD w).prog) (w := (DD w).w) (R.dom.size (aC ..)) (vs := slicePick vs none none none) (xs := eg xs none none none)
    ((i7 r none none none).keeps fun z z e => A3' _ e)
   exact ⟨Kp.trans' (Kp.push' _ _ _) g.1, g.2⟩
  exact au (bh key) fun z z g => ⟨A1' (aC ..) g.1, Kp.trans' (Kp.toks' s₁ _) g.2.1, g.2.2⟩) (by simpa using aJ hy)))
end
end
section
section
variable {w : World} {n : Nat} {M F W : Ap} {env : Env} {ea ea' : ao} {s s' : Shared} {A : Around} {E : Ee}
set_option tactic.hygienic true in
theorem pv {y : Str} {yp p apos pos : Pos} {arg : Expr} {xs : List V} {x : V} (hmw : ea.mw = true) (hy : sq y "__debug__" = false) (hmo : lk ea.mo y = some (.hdr xs)) (hl : (apos.endLine == pos.line) = true) (ev : Ev (DD w) n ea arg x) (hlen : xs.length ≤ 10000) :
  FxE (DD w) n ea (.Call (.Attribute (.Attribute (.Name y yp) "_headers" p) "append" apos) [arg] [] pos) { ea with mo := [(y, .hdr (xs ++ [x]))] } .none :=
 ⟨fun z z z z => rfl, fun z z z z z => ⟨rfl, rfl⟩, fun z z => rfl, fun {M F W env s A E} hA R => by
  refine pA rfl hl (show 1 < 20 by decide) (ai ev al) (Attribute_name (wpAny_Name (au (bJ R hmo) fun ov s₁ h₁ => ?_) (by simpa using aJ hy)))
  obtain ⟨rfl, a, l, rfl, ne, hF, hw, mobj, hh⟩ := h₁
  refine cH R.st mobj ?_
  have k0 : Keeps s₁ { s₁ with toks := s₁.toks + 1 } := Kp.toks' s₁ _
  have R₁ := R.keeps k0 (A6' _)
  have mobj₀ := mobj
  cases mobj with | hdr ho hd hm hx hl' r ha hdw =>
  rename_i vs k _
  refine getMethod_builtin (T := "list") (s := { s₁ with toks := s₁.toks + 1 }) ⟨_, hl', rfl⟩ PySem.F.plainAttrs_list PySem.F.slot_list_append PySem.F.type_list_append (fun b e => by cases e; exact ⟨_, hl', rfl⟩) ?_
  refine au ((ai ev al).ev pos hA R₁) fun us s₃ g => ⟨.inl (fun a e => nomatch e), ?_⟩
  obtain ⟨v, rfl, rv⟩ := g.2.2.one
  have k03 := Kp.trans' k0 g.2.1
  have ho₂ := Kp.get k03 hl'
  have hlen' : vs.size + 1 ≤ sizeLine := by
   have := r.length
   rw [Array.length_toList] at this
   rw [aX]; lia
  have R₃ := R₁.keeps g.2.1 g.1
  have mobj₃ := mobj₀.keep (X := fun z => False) (fun b q => q.elim) (fun q => q) (Kp.toW k03)
  refine aA (wpAny_list_append_plain ⟨_, ho₂⟩ (fun h₆ hp₆ hs₆ hz => ?_) (by lia))
  obtain ⟨m₆, hp₆⟩ := hp₆
  have kX : aq (fun b => b = l) s₃ { s₃ with heap := h₆ } := ⟨h₆, s₃.toks, rfl, fun b o q e => (hs₆.2 b q).trans e⟩
  have hM := R.fm _ hF
  have kM : ∀ b o, ¬ M b → s₃.heap.get? b = some o → h₆.get? b = some o := fun b o q e => kX.get (s' := { s₃ with heap := h₆ }) (fun hb => q (hb ▸ hM)) e
  refine ⟨A1' g.1 hz, (Kp.toW k03).trans (kX.sub fun b hb => hb ▸ hw.1 hmw), R₃.mutate (hh.keeps k03) ne hF hw mobj₃ kX hz ?_, .none⟩
  refine .hdr (kM _ _ ha (Kp.get k03 ho)) ((hd.at' fun o => Kp.get k03).at' fun o e => kM _ _ hdw e) hm hx hp₆ ?_ ha hdw
  rw [Array.toList_push]
  exact VRs.append (.cons (rv.mono kM fun z q => .inl q) .nil) ((r.keeps fun z z e => Kp.get k03 e).mono' kM)⟩
end
end
section
noncomputable def fD (p : Str × Str) : V := .tup [.str p.1, .str p.2]
noncomputable def ak (rows : Ls) : List V := rows.map fD
noncomputable def Low (x : Str) : Prop := iO (Txt.lower x).length = true
noncomputable def hget : Ls → Str → Option Str
 | [], _ => none
 | p :: r, x => match Txt.lower p.1 == x with
  | true => some p.2
  | false => hget r x
noncomputable def iQ : Ls → Str → List Str
 | [], _ => []
 | p :: r, x => match Txt.lower p.1 == x with
  | true => p.2 :: iQ r x
  | false => iQ r x
noncomputable def yW : Option Str → V
 | none => .none
 | some x => .str x
section
variable {D : Std} {n : Nat} {ea ea' : ao}
theorem f5 {x y : Str} : a6 D.prog D.w .Eq (.str x) (.str y) (x == y) := fU fun z z => PyProof.Rows.eq_str (aB _)
theorem uo {x y : Str} : a6 D.prog D.w .NotEq (.str x) (.str y) (x != y) := fU fun z z => PyProof.Rows.ne_str (aB _)
theorem aR {b : Bool} : dT D (.bool b) b := ⟨rfl, fun r => by cases r; exact wpAny_truthy_bool (bF _ _ _)⟩
theorem aI {t : Expr} {v : V} (h : (asg D ea t v).map (·.1) = some ea') : bw D ea t v ea' := by
 cases q : asg D ea t v with
 | none => rw [q] at h; cases h
 | some a => rw [q] at h; cases h; exact a.2
theorem aD {x : Str} {p : Pos} {v : V} (hx : sq x "__debug__" = false) (q : lk ea.names x = some .cell) (e : lk ea.cel x = some v) : Ev D n ea (.Name x p) v := jj hx (g0 q e)
theorem eE {o : Expr} {apos pos : Pos} {x : Str} (ho : Ev D n ea o (.str x)) (hl : (apos.endLine == pos.line) = true) (h : Low x) : Ev D n ea (.Call (.Attribute o "lower" apos) [] [] pos) (.str (Txt.lower x)) :=
 br ho hl (by decide) al (kh h)
end
noncomputable def BR : List (Str × NameKind) := (ay gp).scope.names
noncomputable def pg (xs : List V) (loc : Lv) : ao := { di BR "self" (.hdr xs) false with loc := loc }
noncomputable def nr (x : Str) (d : V) : Option (Str × Str) → Lv
 | none => [("name", .str x), ("default", d)]
 | some p => [("name", .str x), ("default", d), ("k", .str p.1), ("v", .str p.2)]
noncomputable def rV (d : V) : Option Str → V
 | none => d
 | some x => .str x
noncomputable def oS (b : List Stmt) : Expr × List Stmt := match b with
 | _ :: .For t _ bd _ _ :: _ => (t, bd)
 | _ => (.Name "" ⟨0, 0, 0, 0⟩, [])
section
variable {w : World} {n : Nat} {M F W : Ap} {env : Env} {s s' : Shared} {A : Around} {E : Ee}
theorem t7 {xs : List V} {x : Str} {d : V} {p : Str × Str} (hl : Low p.1) (h : (Txt.lower p.1 == x) = true) : dF (DD w) n (pg xs (nr x d (some p))) (oS (av (ay gp))).2 (.ret (pg xs (nr x d (some p))) (.str p.2)) := by
 refine bR (fi (v := .bool true) (c := true) (h ▸ bo (eE (ah ?_ ?_ ?_) ?_ hl) (ah ?_ ?_ ?_) f5) aR (bR (dm (ah ?_ ?_ ?_))))
 all_goals rfl'
theorem pX {xs : List V} {x : Str} {d : V} {p : Str × Str} (hl : Low p.1) (h : (Txt.lower p.1 == x) = false) : dF (DD w) n (pg xs (nr x d (some p))) (oS (av (ay gp))).2 (.next (pg xs (nr x d (some p)))) := by
 refine a7 (fi (v := .bool false) (c := false) (h ▸ bo (eE (ah ?_ ?_ ?_) ?_ hl) (ah ?_ ?_ ?_) f5) aR cY) cY
 all_goals rfl'
theorem qj {xs : List V} {x : Str} {d : V} : ∀ (rows : Ls) (q : Option (Str × Str)), (∀ p ∈ rows, Low p.1) → ∃ ea', im (DD w) n (oS (av (ay gp))).1 (oS (av (ay gp))).2 (pg xs (nr x d q)) (ak rows) (match hget rows x with | some v => .ret ea' (.str v) | none => .next ea') ∧ (hget rows x = none → ea' = pg xs (nr x d (rows.getLast?.or q))) := by
 intro v0'
 induction v0' with
 | nil =>
  exact fun q z => ⟨_, .nil, fun z => rfl⟩
 | cons p r ih' =>
  exact fun q hl => by
   have ht : bw (DD w) (pg xs (nr x d q)) (oS (av (ay gp))).1 (fD p) (pg xs (nr x d (some p))) := by
    cases q <;> exact aI ⋯
   cases h : (Txt.lower p.1 == x) with
   | true =>
    have e : hget (p :: r) x = some p.2 := by show (match Txt.lower p.1 == x with | true => some p.2 | false => hget r x) = _; rw [h]
    rw [e]
    exact ⟨_, .ret ht (t7 (hl p (.head _)) h), fun q => nomatch q⟩
   | false =>
    have e : hget (p :: r) x = hget r x := by show (match Txt.lower p.1 == x with | true => some p.2 | false => hget r x) = _; rw [h]
    rw [e]
    obtain ⟨ea', h1, h2⟩ := ih' (some p) fun u hu => hl u (.tail _ hu)
    refine ⟨ea', .next ht (pX (hl p (.head _)) h) h1, fun q => ?_⟩
    rw [h2 q]
    cases r with
    | nil => rfl
    | cons u r => rw [List.getLast?_cons_cons]; cases hq : (u :: r).getLast? with
     | none => simp at hq
     | some v => rfl
end
end
section
noncomputable def gg {α : Type} : Sem α → Obj → Sem α
 | .load _ _ k, o => k o
 | t, _ => t
theorem ik {α : Type} {M : Model} {A : Around} {E : Ee} {s : Shared} {Q : α → Shared → Prop} {t : Sem α} {a : Addr} {pt : Option Value} {o : Obj} (e : t = .load a pt (gg t)) (ho : s.heap.get? a = some o) (h : wpAny M A (gg t o) Q E s) : wpAny M A t Q E s := by
 rw [e]
 exact fun Γ p hΓ => ⟨o, ho, h Γ p hΓ⟩
section
variable {w : World} {n : Nat} {M F W : Ap} {env : Env} {s s' : Shared} {A : Around} {E : Ee}
theorem qp {m : Str} {f : Addr} {fo : Obj} {mv : List V} {p : Str} {ps : List Str} {xs ds : List V} {ag : Value → List Value → Args} {dv : List Value} {r : V} {ea ea' : ao} (FA : dW (DD w) f (ay fo) (av (ay fo))) (hn : m ≠ "_headers") (hf : findIn (KF w.params) (.ref (nat_lit 175)) m = some (some (.ref f))) (ht : typeIn (KF w.params) (.ref f) = some (.type "function"))
  (hp : lk (ay fo).scope.names p = some .local) (hag : ∀ a us, (ag a us).pos = a :: us ∧ (ag a us).kw = []) (hl : ps.length = xs.length + dv.length) (hd : ∀ {M : Ap} {h : Heap}, VRs (DD w).prog (DD w).w M h dv ds)
  (hbind : ∀ {s : Shared} (A : Around) (E' : Ee) a us, StD w s.heap → us.length = xs.length → wpAny (model (DD w).prog (DD w).w) A (bindArgs (ay fo) (ag (.ref a) us)) (fun b s' => s = s' ∧ b = (p :: ps).zip (.ref a :: (us ++ dv))) E' s)
  (ha : c9 (DD w) (di (ay fo).scope.names p (.hdr mv) false) (ps.zip (xs ++ ds)) ea) (hb : dF (DD w) n ea (av (ay fo)) (.ret ea' r)) : qM (DD w) (n + 1) m (.hdr mv) xs r := fun {M s A E a l pl} hA st hdom hmb hbs hM mobj => by
 refine (HX w).method st mobj hn hf ht ?_
 refine ⟨A6' _, Kp.refl' s, fun s₂ us E k₂ hz₂ ru => ?_⟩
 obtain ⟨o, ho, hdat⟩ := FA.at _ st
 have hz := ru.length
 refine ⟨.inr ⟨f, o, ay fo, rfl, Kp.get k₂ ho, hdat⟩, ?_⟩
 have st₂ := (DD w).stb _ _ (fun b o z z e => Kp.get k₂ e) st
 have mobj₂ := mobj.keep (X := fun z => False) (fun b q => q.elim) (fun q => q) (Kp.toW k₂)
 obtain ⟨g1, g2⟩ := hag (.ref a) us
 have key := jG (wr := false) (E := E) FA hA st₂ (hdom.size hz₂) hmb (A1' hbs hz₂) hM mobj₂ hp (ag := ag (.ref a) us) (us := us ++ dv) (xs := xs ++ ds) (by rw [List.length_append, hz]; exact hl) (fun E' => hbind A.in1 E' a us st₂ hz) (VRs.append hd ru) ha hb
 rw [g1, g2] at key
 refine au key fun u s₃ g => ⟨?_, g.2.2.1⟩
 obtain ⟨h', t, rfl, kk⟩ := g.2.1
 exact ⟨h', t, rfl, fun b o e => kk b o (fun q => nomatch q.1) e⟩
end
end
section
section
variable {w : World} {n : Nat} {M F W : Ap} {env : Env} {s s' : Shared} {A : Around} {E : Ee}
theorem qv {rows : Ls} {x : Str} {d : V} (hx : Low x) (hc : bu true (Txt.lower x)) (hr : ∀ p ∈ rows, Low p.1) : ∃ ea', dF (DD w) (n + 1) (pg (ak rows) (nr x d none)) (av (ay gp)) (.ret ea' (rV d (hget rows (Txt.lower x)))) := by
 obtain ⟨ea', h1, h2⟩ := qj (w := w) (n := n + 1) (xs := ak rows) (x := Txt.lower x) (d := d) rows none hr
 refine ⟨ea', a7 (bA (fB (xs := ak rows) ?_ ?_ ?_ (eE (ah ?_ ?_ ?_) ?_ hx) hc) (aO (ea' := pg (ak rows) (nr (Txt.lower x) d none)) ?_)) ?_⟩
 all_goals first | rfl' | skip
 cases q : hget rows (Txt.lower x) with
 | some v =>
  rw [q] at h1
  exact bR (fT (oL ⋯ ⋯ rfl) h1)
 | none =>
  rw [q] at h1
  refine a7 (fT (oL ⋯ ⋯ rfl) h1) ?_
  rw [h2 q]
  generalize rows.getLast?.or none = q'
  cases q' <;> (refine bR (dm (ah ?_ ?_ ?_)) <;> rfl')
theorem su {rows : Ls} {x : Str} (hx : Low x) (hc : bu true (Txt.lower x)) (hr : ∀ p ∈ rows, Low p.1) : qM (DD w) (n + 1 + 1) "get" (.hdr (ak rows)) [.str x] (yW (hget rows (Txt.lower x))) := by
 obtain ⟨ea', hb⟩ := qv (w := w) (n := n) (d := .none) hx hc hr
 have e : rV .none (hget rows (Txt.lower x)) = yW (hget rows (Txt.lower x)) := by cases hget rows (Txt.lower x) <;> rfl
 rw [e] at hb
 intro M s A E a l pl
 refine (qp (w := w) (n := n + 1) (mv := ak rows) (r := yW (hget rows (Txt.lower x))) (ea := pg (ak rows) (nr x .none none)) (ea' := ea') (m := "get") (f := nat_lit 122) (fo := gp) (p := "self") (ps := ["name", "default"]) (xs := [.str x]) (ds := [.none]) (ag := fun a us => ⟨a :: us, []⟩) (dv := [.none]) xD (by decide +kernel) ⋯ ⋯ ⋯ (fun z z => ⟨rfl, rfl⟩) rfl (.cons .none .nil) ?_ (aV ⋯) hb)
 clear M s A E a l pl
 intro s A E' a us st hus
 obtain ⟨u, rfl⟩ : ∃ u, us = [u] := by
  cases us with
  | nil => cases hus
  | cons u t => cases t with
   | nil => exact ⟨u, rfl⟩
   | cons _ _ => cases hus
 refine ik (a := nat_lit 115) (o := uy) (pt := none) ⋯ (st _ _ (by decide) ⋯) ?_
 have e : gg (bindArgs (ay gp) ⟨[.ref a, u], []⟩) uy = pure ([("self", .ref a), ("name", u), ("default", .none)] : Lw) := ⋯
 show wpAny _ _ (gg (bindArgs (ay gp) ⟨[.ref a, u], []⟩) uy) _ _ _
 rw [e]
 exact Wq ⟨rfl, rfl⟩
end
end
section
theorem nI {us : List Value} (h : us.length = 1) : ∃ u, us = [u] := by
 cases us with
 | nil => cases h
 | cons u t => cases t with
  | nil => exact ⟨u, rfl⟩
  | cons _ _ => cases h
theorem lI {us : List Value} (h : us.length = 2) : ∃ u v, us = [u, v] := by
 cases us with
 | nil => cases h
 | cons u t => obtain ⟨v, rfl⟩ := nI (Nat.succ.inj h); exact ⟨u, v, rfl⟩
theorem mu {us : List Value} (h : us.length = 3) : ∃ a b c, us = [a, b, c] := by
 cases us with
 | nil => cases h
 | cons a t => obtain ⟨b, c, rfl⟩ := lI (Nat.succ.inj h); exact ⟨a, b, c, rfl⟩
theorem AV {us : List Value} (h : us.length = 0) : us = [] := List.eq_nil_of_length_eq_zero h
noncomputable def Bf : List (Str × NameKind) := (ay pL).scope.names
noncomputable def gaE (xs : List V) (x : Str) : ao := { di Bf "self" (.hdr xs) false with cel := [("name", .str x)] }
noncomputable def inB (b : List Stmt) (k : Nat) : Stmt := b.getD k (.Pass ⟨0, 0, 0, 0⟩)
noncomputable def gn (b : List Stmt) : Comprehension := (xp (sp (inB b 1)).v).gs.getD 0 ⟨noX, noX, [], 0⟩
noncomputable def DL (b : List Stmt) : Expr × Expr × Expr × List Expr × Scope := ((xp (sp (inB b 1)).v).es.getD 0 noX, (gn b).target, (gn b).iter, (gn b).ifs, (xp (sp (inB b 1)).v).sc)
noncomputable def ga : Expr × Expr × Expr × List Expr × Scope := DL (av (ay pL))
noncomputable def gcE (xs : List V) (x : Str) : Option (Str × Str) → ao
 | none => cenvOf (gaE xs x) ga.2.2.2.2
 | some p => { cenvOf (gaE xs x) ga.2.2.2.2 with loc := [("kv", fD p)] }
section
variable {w : World} {n : Nat} {M F W : Ap} {env : Env} {s s' : Shared} {A : Around} {E : Ee}
theorem xi : ga.2.2.2.1 = [ga.2.2.2.1.head!] := ⋯
theorem oI {xs : List V} {x : Str} {p : Str × Str} {b : Bool} (hl : Low p.1) (h : (Txt.lower p.1 == x) = b) : cb (DD w) n (gcE xs x (some p)) ga.2.2.2.1 b := by
 rw [xi]
 refine aY (x := .bool b) ?_ aR
 refine h ▸ bo (eE (d6 (a := fD p) (b := .int 0) (ah ?_ ?_ ?_) (aK (wpAny_Constant_int (aP _ _ _))) (eR (j := 0) (by decide) ?_ ?_)) ?_ hl) (aD ?_ ?_ ?_) f5
 all_goals rfl'
theorem wK {xs : List V} {x : Str} {p : Str × Str} : Ev (DD w) n (gcE xs x (some p)) ga.1 (.str p.2) := by
 refine d6 (a := fD p) (b := .int 1) (ah ?_ ?_ ?_) (aK (wpAny_Constant_int (aP _ _ _))) (eR (j := 1) (by decide) ?_ ?_)
 all_goals rfl'
theorem vc {xs : List V} {x : Str} : ∀ (rows : Ls) (q : Option (Str × Str)), (∀ p ∈ rows, Low p.1) → cT (DD w) n ga.1 ga.2.1 ga.2.2.2.1 (gcE xs x q) (ak rows) ((iQ rows x).map .str) := by
 intro v0'
 induction v0' with
 | nil =>
  exact fun z z => .nil
 | cons p r ih' =>
  exact fun q hl => by
   have ht : bw (DD w) (gcE xs x q) ga.2.1 (fD p) (gcE xs x (some p)) := by
    cases q <;> exact aI ⋯
   have ih := ih' (some p) fun u hu => hl u (.tail _ hu)
   cases h : (Txt.lower p.1 == x) with
   | true =>
    have e : iQ (p :: r) x = p.2 :: iQ r x := by show (match Txt.lower p.1 == x with | true => p.2 :: iQ r x | false => iQ r x) = _; rw [h]
    rw [e]
    exact .take ht (oI (hl p (.head _)) h) wK ih
   | false =>
    have e : iQ (p :: r) x = iQ r x := by show (match Txt.lower p.1 == x with | true => p.2 :: iQ r x | false => iQ r x) = _; rw [h]
    rw [e]
    exact .skip ht (oI (hl p (.head _)) h) ih
theorem uV {rows : Ls} {x : Str} (hx : Low x) (hc : bu true (Txt.lower x)) (hr : ∀ p ∈ rows, Low p.1) (hn : (ak rows).length ≤ 100000) : dF (DD w) (n + 1) (gaE (ak rows) x) (av (ay pL)) (.ret (gaE (ak rows) (Txt.lower x)) (.list ((iQ rows (Txt.lower x)).map .str))) := by
 refine a7 (bA (fB (xs := ak rows) ?_ ?_ ?_ (eE (aD ?_ ?_ ?_) ?_ hx) hc) (aO (ea' := gaE (ak rows) (Txt.lower x)) ?_)) (bR (dm (pe ?_ (oL ?_ ?_ rfl) hn (vc rows none hr))))
 all_goals rfl'
theorem ye {rows : Ls} {x : Str} (hx : Low x) (hc : bu true (Txt.lower x)) (hr : ∀ p ∈ rows, Low p.1) (hn : (ak rows).length ≤ 100000) : qM (DD w) (n + 1 + 1) "get_all" (.hdr (ak rows)) [.str x] (.list ((iQ rows (Txt.lower x)).map .str)) := by
 intro M s A E a l pl
 refine (qp (w := w) (n := n + 1) (mv := ak rows) (r := .list ((iQ rows (Txt.lower x)).map .str)) (ea := gaE (ak rows) x) (m := "get_all") (f := nat_lit 114) (fo := pL) (p := "self") (ps := ["name"]) (xs := [.str x]) (ds := []) (ag := fun a us => ⟨a :: us, []⟩) (dv := []) zl (by decide +kernel) ⋯ ⋯ ⋯ (fun z z => ⟨rfl, rfl⟩) rfl .nil ?_ (aV ⋯) (uV hx hc hr hn))
 clear M s A E a l pl
 intro s A E' a us st hus
 obtain ⟨u, rfl⟩ := nI hus
 have e : bindArgs (ay pL) ⟨[.ref a, u], []⟩ = pure ([("self", .ref a), ("name", u)] : Lw) := ⋯
 show wpAny _ _ (bindArgs (ay pL) ⟨[.ref a, u], []⟩) _ _ _
 rw [e]
 exact Wq ⟨rfl, rfl⟩
theorem mI {xs : List V} (hn : xs.length ≤ 100000) : dF (DD w) n (di (ay my).scope.names "self" (.hdr xs) false) (av (ay my)) (.ret (di (ay my).scope.names "self" (.hdr xs) false) (.list (eg xs none none none))) := by
 refine bR (dm (uk ?_ ?_ hn))
 all_goals rfl'
theorem gL (xs : List V) : (List.range xs.length).filterMap (fun i => xs[i]?) = xs := by
 induction xs with
 | nil => rfl
 | cons x xs ih =>
  rw [List.length_cons, List.range_succ_eq_map, List.filterMap_cons]
  simp only [List.getElem?_cons_zero, List.filterMap_map, Function.comp_def, List.getElem?_cons_succ, Nat.succ_eq_add_one]
  rw [ih]
theorem ph (xs : List V) : eg xs none none none = xs := by
 unfold eg
 have h1 : sliceBounds none none none xs.length = (0, (xs.length : Int), 1) := rfl
 rw [h1]
 unfold sliceRange
 dsimp only
 rw [if_pos (by decide)]
 have h2 : (if (0 : Int) < (xs.length : Int) then ((xs.length : Int) - 0 + 1 - 1) / 1 else 0).toNat = xs.length := by
  split <;> lia
 rw [h2, List.filterMap_map]
 have h3 : ∀ k : Nat, ((0 : Int) + 1 * (k : Int)).toNat = k := fun k => by lia
 simp only [Function.comp_def, h3]
 exact gL xs
theorem jQ {xs : List V} (hn : xs.length ≤ 100000) : dF (DD w) n (di (ay my).scope.names "self" (.hdr xs) false) (av (ay my)) (.ret (di (ay my).scope.names "self" (.hdr xs) false) (.list xs)) := by
 have := @mI w n xs hn
 rw [ph] at this
 exact @this
theorem iu {xs : List V} (hn : xs.length ≤ 100000) : qM (DD w) (n + 1) "items" (.hdr xs) [] (.list xs) := by
 intro M s A E a l pl
 refine (qp (w := w) (n := n) (mv := xs) (r := .list xs) (ea := di (ay my).scope.names "self" (.hdr xs) false) (m := "items") (f := nat_lit 139) (fo := my) (p := "self") (ps := []) (xs := []) (ds := []) (ag := fun a us => ⟨a :: us, []⟩) (dv := []) zu (by decide +kernel) ⋯ ⋯ ⋯ (fun z z => ⟨rfl, rfl⟩) rfl .nil ?_ (aV ⋯) (jQ hn))
 clear M s A E a l pl
 intro s A E' a us st hus
 have := AV hus
 subst this
 have e : bindArgs (ay my) ⟨[.ref a], []⟩ = pure ([("self", .ref a)] : Lw) := ⋯
 show wpAny _ _ (bindArgs (ay my) ⟨[.ref a], []⟩) _ _ _
 rw [e]
 exact Wq ⟨rfl, rfl⟩
end
end
section
section
variable {D : Std} {n : Nat} {ea ea' : ao}
theorem VR.none_inv {prog : Program} {w : World} {M : Ap} {h : Heap} {v : Value} (r : VR prog w M h v .none) : v = .none := by cases r; rfl
theorem oo : ∀ {o : Option Str}, a6 D.prog D.w .Is (yW o) .none o.isNone := fun {o} {M s A E va vb} ra rb _ => by
 have := rb.none_inv
 subst this
 cases o with
 | none =>
  have : va = .none := VR.none_inv ra
  subst this
  exact wpAny_is_plain rfl (aB _)
 | some x =>
  obtain ⟨t, rfl⟩ := VR.str_inv ra
  exact wpAny_is_other rfl (fun e => nomatch e) (aB _)
theorem iU {y : Str} : a6 D.prog D.w .Is (.str y) .none false := oo (o := some y)
theorem jH : a6 D.prog D.w .Is .none .none true := oo (o := none)
theorem fM {k : Nat} {pos : Pos} : Ev D n ea (.Constant .none k pos) .none := aK fun {_ _ s _ _} => wpAny_Constant_none ⟨Kp.refl' s, .none⟩
theorem sH {a b : Expr} {x y : V} {k : Nat} {p : Pos} (ha : Ev D n ea a x) (hb : Ev D n ea b y) : Ev D n ea (.Tuple [a, b] k p) (.tup [x, y]) := mO (show 2 ≤ 1000 by decide) (ai ha (ai hb al))
end
noncomputable def yh : List (Str × NameKind) := (ay eF).scope.names
noncomputable def sdE (xs : List V) (x : Str) (v : V) : ao := { di yh "self" (.hdr xs) true with loc := [("name", .str x), ("value", v)] }
noncomputable def wj (xs : List V) (x : Str) (v r : V) : ao := { di yh "self" (.hdr xs) true with loc := [("name", .str x), ("value", v), ("result", r)] }
section
variable {w : World} {n : Nat} {M F W : Ap} {env : Env} {s s' : Shared} {A : Around} {E : Ee}
theorem iJ {rows : Ls} {x y : Str} (hx : Low x) (hc : bu true (Txt.lower x)) (hr : ∀ p ∈ rows, Low p.1) (h : hget rows (Txt.lower x) = some y) : qM (DD w) (n + 1 + 1) "get" (.hdr (ak rows)) [.str x] (.str y) := by
 have := @su w n rows x hx hc hr
 rw [h] at this
 exact @this
theorem lJ {rows : Ls} {x : Str} (hx : Low x) (hc : bu true (Txt.lower x)) (hr : ∀ p ∈ rows, Low p.1) (h : hget rows (Txt.lower x) = none) : qM (DD w) (n + 1 + 1) "get" (.hdr (ak rows)) [.str x] .none := by
 have := @su w n rows x hx hc hr
 rw [h] at this
 exact @this
theorem yK {rows : Ls} {x y : Str} {v : V} (hx : Low x) (hc : bu true (Txt.lower x)) (hr : ∀ p ∈ rows, Low p.1) (h : hget rows (Txt.lower x) = some y) : dF (DD w) (n + 1 + 1) (sdE (ak rows) x v) (av (ay eF)) (.ret (wj (ak rows) x v (.str y)) (.str y)) := by
 refine a7 (bA (bx (mv := .hdr (ak rows)) ?_ ?_ ?_ ?_ (ai (ah (v := .str x) ?_ ?_ ?_) al) (iJ hx hc hr h)) (aO (ea' := wj (ak rows) x v (.str y)) ?_))
  (bR (fi (v := .bool false) (c := false) (bo (a := .str y) (ah ?_ ?_ ?_) fM iU) aR (bR (dm (ah ?_ ?_ ?_)))))
 all_goals first | kernel_rfl! | decide
theorem uY {rows : Ls} {x y : Str} (hx : Low x) (hc : bu true (Txt.lower x)) (hr : ∀ p ∈ rows, Low p.1) (h : hget rows (Txt.lower x) = none) (hx2 : bu true x) (hy : bu false y) (hn : (ak rows).length ≤ 10000) :
  dF (DD w) (n + 1 + 1) (sdE (ak rows) x (.str y)) (av (ay eF)) (.ret { wj (ak rows) x (.str y) .none with mo := [("self", .hdr (ak rows ++ [fD (x, y)]))] } (.str y)) := by
 refine a7 (bA (bx (mv := .hdr (ak rows)) ?_ ?_ ?_ ?_ (ai (ah (v := .str x) ?_ ?_ ?_) al) (lJ hx hc hr h)) (aO (ea' := wj (ak rows) x (.str y) .none) ?_))
  (bR (fi (v := .bool true) (c := true) (bo (a := .none) (ah ?_ ?_ ?_) fM jH) aR
   (a7 (hV (pv (xs := ak rows) (x := fD (x, y)) rfl ?_ ?_ ?_ (sH (fB (xs := ak rows) ?_ ?_ ?_ (ah ?_ ?_ ?_) hx2) (fB (xs := ak rows) ?_ ?_ ?_ (ah ?_ ?_ ?_) hy)) hn)) (bR (dm (ah ?_ ?_ ?_))))))
 all_goals first | kernel_rfl! | decide
theorem yP {m : Str} {f : Addr} {fo : Obj} {mv zs : List V} {p : Str} {ps : List Str} {xs : List V} {r : V} {ea ea' : ao} (FA : dW (DD w) f (ay fo) (av (ay fo))) (hn : m ≠ "_headers") (hf : findIn (KF w.params) (.ref (nat_lit 175)) m = some (some (.ref f))) (ht : typeIn (KF w.params) (.ref f) = some (.type "function"))
  (hp : lk (ay fo).scope.names p = some .local) (hnc : ∀ h, pushCells h (ay fo).scope.names = h) (hl : ps.length = xs.length)
  (hbind : ∀ a us, us.length = xs.length → bindArgs (ay fo) ⟨.ref a :: us, []⟩ = pure ((p :: ps).zip (.ref a :: us)))
  (ha : c9 (DD w) (di (ay fo).scope.names p (.hdr mv) true) (ps.zip xs) ea) (hmw : ea'.mw = true) (hmo : lk ea'.mo p = some (.hdr zs)) (hb : dF (DD w) n ea (av (ay fo)) (.ret ea' r)) : rB (DD w) (n + 1) m (.hdr mv) xs (.hdr zs) r := fun {M s A E a l pl} hA st hdom hmb hbs hM mobj => by
 refine (HX w).method st mobj hn hf ht ?_
 refine ⟨A6' _, Kp.refl' s, fun s₂ us E k₂ hz₂ ru => ?_⟩
 obtain ⟨o, ho, hdat⟩ := FA.at _ st
 have hz := ru.length
 refine ⟨.inr ⟨f, o, ay fo, rfl, Kp.get k₂ ho, hdat⟩, ?_⟩
 have st₂ := (DD w).stb _ _ (fun b o z z e => Kp.get k₂ e) st
 have mobj₂ := mobj.keep (X := fun z => False) (fun b q => q.elim) (fun q => q) (Kp.toW k₂)
 refine au (jG (wr := true) (E := E) FA hA st₂ (hdom.size hz₂) hmb (A1' hbs hz₂) hM mobj₂ hp (ag := ⟨.ref a :: us, []⟩) (us := us) (xs := xs) (by rw [hz]; exact hl) (fun E' => by rw [hbind a us hz]; exact Wq ⟨rfl, rfl⟩) ru ha hb) fun u s₃ g => ⟨g.2.1.sub fun b q => q.2, g.2.2.2 mv zs hnc rfl hmw hmo, g.2.2.1⟩
theorem qk (a : Addr) (us : List Value) (h : us.length = 2) : bindArgs (ay eF) ⟨.ref a :: us, []⟩ = pure ((["self", "name", "value"] : List Str).zip (.ref a :: us)) := by
 obtain ⟨u, v, rfl⟩ := lI h
 rfl'
theorem wY {rows : Ls} {x y v : Str} (hx : Low x) (hc : bu true (Txt.lower x)) (hr : ∀ p ∈ rows, Low p.1) (h : hget rows (Txt.lower x) = some y) : rB (DD w) (n + 1 + 1 + 1) "setdefault" (.hdr (ak rows)) [.str x, .str v] (.hdr (ak rows)) (.str y) := by
 intro M s A E a l pl
 exact (yP (w := w) (n := n + 1 + 1) (m := "setdefault") (f := nat_lit 165) (fo := eF) (mv := ak rows) (zs := ak rows) (p := "self") (ps := ["name", "value"]) (xs := [.str x, .str v]) (ea := sdE (ak rows) x (.str v)) (ea' := wj (ak rows) x (.str v) (.str y)) oq (by decide +kernel) ⋯ ⋯ ⋯ (fun h => by rfl') rfl qk (aV ⋯) rfl ⋯ (yK hx hc hr h))
theorem oD {rows : Ls} {x y : Str} (hx : Low x) (hc : bu true (Txt.lower x)) (hr : ∀ p ∈ rows, Low p.1) (h : hget rows (Txt.lower x) = none) (hx2 : bu true x) (hy : bu false y) (hn : (ak rows).length ≤ 10000) : rB (DD w) (n + 1 + 1 + 1) "setdefault" (.hdr (ak rows)) [.str x, .str y] (.hdr (ak (rows ++ [(x, y)]))) (.str y) := by
 rw [show ak (rows ++ [(x, y)]) = ak rows ++ [fD (x, y)] from List.map_append]
 intro M s A E a l pl
 exact (yP (w := w) (n := n + 1 + 1) (m := "setdefault") (f := nat_lit 165) (fo := eF) (mv := ak rows) (zs := ak rows ++ [fD (x, y)]) (p := "self") (ps := ["name", "value"]) (xs := [.str x, .str y]) (ea := sdE (ak rows) x (.str y)) (ea' := { wj (ak rows) x (.str y) .none with mo := [("self", .hdr (ak rows ++ [fD (x, y)]))] }) oq (by decide +kernel) ⋯ ⋯ ⋯ (fun h => by rfl') rfl qk (aV ⋯) rfl ⋯ (uY hx hc hr h hx2 hy hn))
end
end
section
section
variable {D : Std} {n : Nat} {M F W : Ap} {env : Env} {ea ea' : ao} {s s' : Shared} {A : Around} {E : Ee}
theorem pj {elts : List Expr} {tk : Nat} {tp : Pos} {o : Expr} {apos pos : Pos} (ho : Ev D n ea o (.dict [])) (hl : (apos.endLine == pos.line) = true) : dP D n ea (.Tuple elts tk tp) (.Call (.Attribute o "items" apos) [] [] pos) [] :=
 ⟨fun z z => rfl, fun {M F W env s A E} hA R => by
  refine pA (n := n) (ea := ea) (ho.pl.base _ _ _) hl (by decide) al (au (ho.ev hA R) fun ov s₁ g => ?_)
  obtain ⟨hz, k1, r⟩ := g
  obtain ⟨d, kvs, rfl, hM, hd, hm, rd⟩ := r.dict_inv
  have hkvs : kvs = [] := by
   have := rd.length
   cases kvs with
   | nil => rfl
   | cons _ _ => cases this
  subst hkvs
  have hd0 := hd
  obtain ⟨od, es, ep, hod, hr⟩ := hd
  have R₁ := R.keeps k1 hz
  refine getMethod_builtin (T := "dict") ⟨od, hod, hr.1.1⟩ PySem.F.plainAttrs_dict PySem.F.slot_dict_items PySem.F.type_dict_items (fun b e => by cases e; exact ⟨od, hod, hr.1.2.1⟩) ?_
  refine au ((al (n := n) (ea := ea)).ev pos hA R₁) fun us s₃ g => ⟨.inl (fun a e => nomatch e), ?_⟩
  have : us = [] := by have := g.2.2.length; cases us with | nil => rfl | cons _ _ => cases this
  subst this
  have hd₃ := DictOf.at' hd0 fun o => Kp.get g.2.1
  refine call_meetsIn PySem.F.slot_dict_items ⟨od, Kp.get g.2.1 hod, hr.1.1⟩ PySem.F.entry_dict_items (PySem.F.args_dict_items_1 _) (meets_dict_items (PySem.strKind D.prog D.w) d hm) ⟨⟨_, hd₃⟩, ?_⟩
  generalize hH : s₃.heap.push { cls := .type "dict_items", data := .fields #[.ref d] } = H
  have k3 : ∀ b o, s₃.heap.get? b = some o → H.get? b = some o := fun b o e => by rw [← hH]; exact A3' _ e
  have hat : H.DictAt (PySem.strKind D.prog D.w) d [] ep := by
   refine Heap.DictAt.at' ?_ fun o e => k3 _ _ (Kp.get g.2.1 e)
   exact ⟨od, es, hod, hr⟩
  have hv : H.IsItemsView s₃.heap.objs.size d := by rw [← hH]; exact ⟨_, A4' _ rfl, rfl, rfl⟩
  refine wpAny_pyIter_items (s := { s₃ with heap := H }) (knd := PySem.strKind D.prog D.w) hv hat ?_
  have hne : d ≠ H.objs.size := A8' (A5' (k3 _ _ (Kp.get g.2.1 hod)))
  have KT := kti_itemsTurns (prog := D.prog) (w := D.w) (knd := PySem.strKind D.prog D.w) (elts := elts) (kk := tk) (pos := tp) hA.handled H.objs.size d hne [] ep
  have kH : Keeps s₁ { s₃ with heap := H } := Kp.trans' g.2.1 ⟨H, s₃.toks, rfl, k3⟩
  have hzH : s₁.heap.objs.size ≤ H.objs.size := A1' g.1 (by rw [← hH]; exact aC ..)
  refine ⟨H.objs.size, [H.objs.size, d], [H.objs.size], _, _, _, { s₃ with heap := H }, rfl, A1' hz hzH, Kp.trans' k1 kH, aC .., Kp.push' _ _ _,
   ⟨KT, fun b hb => ?_, fun b hb => ?_, fun b hb => ?_, ⟨⟨_, _, A4' _ rfl⟩, hat.push _⟩, fun s Q E st h => ?_, fun M₁ i v h p z z => ?_⟩⟩
  ·rcases C2' hb with rfl | hb
   ·exact .inl (List.mem_cons_self ..)
   ·rw [C1' hb]; exact .inr fun q => hM (R.wm _ q)
  ·show @LT.lt Nat _ b (H.push _).objs.size
   rw [Heap.size_push]
   rcases C2' hb with rfl | hb
   ·exact Nat.lt_succ_self _
   ·rw [C1' hb]; exact B1' (A5' (k3 _ _ (Kp.get g.2.1 hod)))
  ·rw [C1' hb]; exact A6' _
  ·obtain ⟨⟨ok, ov, he⟩, _⟩ := st
   exact kcp_self he h
  ·obtain ⟨_, _, _, _, _, e, _⟩ := p
   cases e⟩
end
end
section
section
variable {D : Std} {n : Nat} {M F W : Ap} {env : Env} {ea ea' : ao} {s s' : Shared} {A : Around} {E : Ee}
theorem uS (hA : bb n A) (R : Rel D M F W env ea s) {lp : Addr} {vs : Array Value} {k : Nat} (hM : M lp) (hF : ¬ F lp) (ho : s.heap.get? lp = some { cls := .type "list", data := .seq vs k }) (hvs : vs.size < 10000) {o arg : Expr} {apos p2 pos : Pos} {x : V} (hx : Ev D n ea o (.sta (.ref lp))) (hl : (apos.endLine == p2.line) = true) (ev : Ev D n ea arg x) {Q : Flow → Shared → Prop}
  (h : ∀ s' v k', s.heap.objs.size ≤ s'.heap.objs.size → aq (fun b => b = lp) s s' → Rel D M F W env ea s' → s'.heap.get? lp = some { cls := .type "list", data := .seq (vs.push v) k' } → VR D.prog D.w M s'.heap v x → Q .next s') :
  wpAny (model D.prog D.w) A (exec (.Expr (.Call (.Attribute o "append" apos) [arg] [] p2) pos) env) Q E s := by
 refine wpAny_Expr_any (pA (hx.pl.base _ _ _) hl (show 1 < 20 by decide) (ai ev al) (au (hx.ev hA R) fun ov s₁ g => ?_)) (by unfold interactive; rw [R.fn]; rfl) rfl
 obtain ⟨hz₁, k₁, r⟩ := g
 have := r.sta_inv
 subst this
 have R₁ := R.keeps k₁ hz₁
 have ho₁ := Kp.get k₁ ho
 refine getMethod_builtin (T := "list") ⟨_, ho₁, rfl⟩ PySem.F.plainAttrs_list PySem.F.slot_list_append PySem.F.type_list_append (fun b e => by cases e; exact ⟨_, ho₁, rfl⟩) ?_
 refine au ((ai ev al).ev p2 hA R₁) fun us s₃ g => ⟨.inl (fun a e => nomatch e), ?_⟩
 obtain ⟨v, rfl, rv⟩ := g.2.2.one
 have k03 := Kp.trans' k₁ g.2.1
 have ho₃ := Kp.get k03 ho
 have R₃ := R₁.keeps g.2.1 g.1
 refine aA (wpAny_list_append_plain ⟨_, ho₃⟩ (fun h₆ hp₆ hs₆ hz => ?_) (by rw [aX]; lia))
 obtain ⟨m₆, hp₆⟩ := hp₆
 have kX : aq (fun b => b = lp) s₃ { s₃ with heap := h₆ } := ⟨h₆, s₃.toks, rfl, fun b o q e => (hs₆.2 b q).trans e⟩
 have R₆ := R₃.growX kX (fun b q => ⟨q ▸ hM, q ▸ hF⟩) hz (fun z q => q) (fun z q => .inl q) (R₃.dom.size hz) R₃.mb
 exact h _ v m₆ (A1' (A1' hz₁ g.1) hz) ((Kp.toW k03).trans kX) R₆ hp₆ (rv.mono (fun b o q e => kX.get (s' := { s₃ with heap := h₆ }) (fun hb => q (hb ▸ hM)) e) fun z q => .inl q)
set_option tactic.hygienic true in
theorem Rel.freeze {lp : Addr} (R : Rel D (fun b => M b ∨ b = lp) F W env ea s) (hFM : ∀ b, F b → M b) (hM : ¬ M lp) {x : Str} (e : lk ea.loc x = some (.sta (.ref lp))) {vs : Array Value} {k : Nat} {xs : List V} (ho : s.heap.get? lp = some { cls := .type "list", data := .seq vs k }) (rv : VRs D.prog D.w M s.heap vs.toList xs) :
  Rel D M F W env { ea with loc := up ea.loc x (.list xs) } s := by
 have R₁ := R.shrink (M := M) (fun b q => .inl q) hFM
 refine { R₁ with loc := ?_ }
 obtain ⟨m, hm, hl, hu⟩ := R₁.loc
 refine ⟨m, hm, fun y v e' => ?_, hu⟩
 have e' : lk (up ea.loc x (.list xs)) y = some v := e'
 rw [iD] at e'
 split at e'
 ·rename_i hy
  cases e'
  subst hy
  obtain ⟨vv, e1, r1⟩ := hl _ _ e
  have := r1.sta_inv
  subst this
  exact ⟨_, e1, .list hM ho rv⟩
 ·exact hl y v e'
end
end
section
section
variable {D : Std} {n : Nat} {M F W : Ap} {env : Env} {ea ea' : ao} {s s' : Shared} {A : Around} {E : Ee}
theorem qR (hA : bb n A) (R : Rel D M F W env ea s) {x : Str} {p p2 pos : Pos} (q : lk ea.names x = some .local) {Q : Flow → Shared → Prop}
  (h : ∀ lp s', s.heap.objs.size ≤ lp → s.heap.objs.size ≤ s'.heap.objs.size → aq W s s' → Rel D (fun b => M b ∨ b = lp) F W env { ea with loc := up ea.loc x (.sta (.ref lp)), mo := rm ea.mo x } s' → s'.heap.get? lp = some { cls := .type "list", data := .seq #[] 0 } → Q .next s') :
  wpAny (model D.prog D.w) A (exec (.Assign [.Name x p] (.List [] p2) pos) env) Q E s := by
 refine wpAny_Assign_Name (List_ (au ((al (n := n) (ea := ea)).ev p2 hA R) fun us s₁ g => ?_)) rfl
 have : us = [] := by have := g.2.2.length; cases us with | nil => rfl | cons _ _ => cases this
 subst this
 refine B7' ?_ (by size_fits)
 have R₁ := R.keeps g.2.1 g.1
 have ho : (s₁.heap.push { cls := .type "list", data := .seq #[] 0 }).get? s₁.heap.objs.size = some { cls := .type "list", data := .seq #[] 0 } := A4' _ rfl
 have R₂ := R₁.own (s' := { s₁ with heap := s₁.heap.push { cls := .type "list", data := .seq #[] 0 } }) (Kp.push' s₁ _ _) (aC ..) (A6' _) (A5' ho)
 refine aA (dz R₂ (v := .sta (.ref s₁.heap.objs.size)) q (.sta _) fun s₃ k₃ R₃ hz₃ => ?_)
 have hW : ¬ W s₁.heap.objs.size := fun hw => A7' _ (R₁.dom _ (R₁.wm _ hw))
 exact h _ s₃ g.1 (A1' g.1 (A1' (aC ..) hz₃)) (((Kp.toW g.2.1).trans (Kp.toW (Kp.push' s₁ _ s₁.toks))).trans k₃) R₃ (k₃.get hW ho)
end
noncomputable def Bc : List (Str × NameKind) := (ay i9).scope.names
noncomputable def ahL (xs : List V) (x v : Str) (q : Option V) : ao := { di Bc "self" (.hdr xs) true with loc := match q with
 | none => [("_name", .str x), ("_value", .str v), ("_params", .dict [])]
 | some u => [("_name", .str x), ("_value", .str v), ("_params", .dict []), ("parts", u)] }
section
variable {w : World} {n : Nat} {M F W : Ap} {env : Env} {s s' : Shared} {A : Around} {E : Ee}
theorem gM {D : Std} {x : Str} : a6 D.prog D.w .IsNot (.str x) .none true := fun {M s A E va vb} ra rb _ => by
 have := rb.none_inv
 subst this
 obtain ⟨t, rfl⟩ := VR.str_inv ra
 exact wpAny_isNot_other rfl (fun e => nomatch e) (aB _)
theorem vg {rows : Ls} {x v : Str} (hx : bu true x) (hv : bu false v) (hn : (ak rows).length ≤ 10000) (hj : JoinOk "; " [v] = true) (hj2 : Txt.join "; " [v] = v) : yS (DD w) (n + 1) (ahL (ak rows) x v none) (av (ay i9)) { ahL (ak rows) x v (some (.list [.str v])) with mo := [("self", .hdr (ak rows ++ [fD (x, v)]))] } .none := fun {M F W env s A E} hA R => by
 refine B2' (qR hA R ⋯ fun lp s₁ h1 hz₁ k₁ R₁ ho₁ => ?_)
 have hMl : ¬ M lp := fun q => A7' _ (A2' (R.dom _ q) h1)
 have R₁ : Rel (DD w) (fun b => M b ∨ b = lp) F W env (ahL (ak rows) x v (some (.sta (.ref lp)))) s₁ := R₁
 refine B2' (wpAny_If (au ((bo (n := n + 1) (ea := ahL (ak rows) x v (some (.sta (.ref lp)))) (a := .str v) (ah ?_ ?_ ?_) fM gM).tr hA R₁ aR) fun c s₂ g => ?_))
 all_goals first | kernel_rfl! | skip
 obtain ⟨rfl, hz₂, k₂⟩ := g
 have R₂ := R₁.keeps k₂ hz₂
 have ho₂ := Kp.get k₂ ho₁
 have tail : ∀ s₅ : Shared, s.heap.objs.size ≤ s₅.heap.objs.size → aq W s s₅ → Rel (DD w) M F W env (ahL (ak rows) x v (some (.list [.str v]))) s₅ →
  wpAny (model (DD w).prog (DD w).w) A (execs ((av (ay i9)).drop 2) env) (fun f s' => s.heap.objs.size ≤ s'.heap.objs.size ∧ aq W s s' ∧ Rel (DD w) M F W env { ahL (ak rows) x v (some (.list [.str v])) with mo := [("self", .hdr (ak rows ++ [fD (x, v)]))] } s' ∧ VR (DD w).prog (DD w).w M s'.heap (match f with | .ret v => v | _ => .none) .none) E s₅ := fun s₅ hz₅ k₅ R₅ => by
  have bl : dF (DD w) (n + 1) (ahL (ak rows) x v (some (.list [.str v]))) ((av (ay i9)).drop 2) (.next { ahL (ak rows) x v (some (.list [.str v])) with mo := [("self", .hdr (ak rows ++ [fD (x, v)]))] }) := by
   refine a7 (fT (pj (ah ?_ ?_ ?_) ?_) .nil) (a7 (hV (pv (xs := ak rows) (x := fD (x, v)) rfl ?_ ?_ ?_ (sH (fB (xs := ak rows) ?_ ?_ ?_ (ah ?_ ?_ ?_) hx) (hj2 ▸ br (v := .str "; ") (aK (Constant_str (aW _ _ _))) ?_ ?_ (ai (ah ?_ ?_ ?_) al) (mi (ns := [v]) hj))) hn)) cY)
   all_goals first | kernel_rfl! | decide
  refine au (bl hA R₅) fun f s' g => ?_
  obtain ⟨rfl, g1, g2, g3⟩ := g
  exact ⟨A1' hz₅ g1, k₅.trans g2, g3, .none⟩
 rw [if_pos rfl]
 have st1 : ∀ {p : Pos} {value : Expr} {pos : Pos}, Ev (DD w) (n + 1) (ahL (ak rows) x v (some (.sta (.ref lp)))) value (.str v) → eQ (DD w) (n + 1) (ahL (ak rows) x v (some (.sta (.ref lp)))) (.Assign [.Name "_value" p] value pos) (.next (ahL (ak rows) x v (some (.sta (.ref lp))))) := fun h => bA h (aO ⋯)
 refine B2' (au (st1 (fB (xs := ak rows) ?_ ?_ ?_ (ah ?_ ?_ ?_) hv) hA R₂) fun f s₃ g => ?_)
 all_goals first | kernel_rfl! | skip
 obtain ⟨rfl, hz₃, k₃, R₃⟩ := g
 have hFs : ∀ b, F b → @LT.lt Nat _ b s.heap.objs.size := fun b q => R.dom _ (R.fm _ q)
 have hFl : ¬ F lp := fun q => A7' _ (A2' (hFs _ q) h1)
 have ho₃ := k₃.get (fun q => hFl (R.wf _ q)) ho₂
 refine B2' (uS (x := .str v) hA R₃ (.inr rfl) hFl ho₃ (by decide) (ah ?_ ?_ ?_) ?_ (ah ?_ ?_ ?_) fun s₄ u k' hz₄ k₄ R₄ ho₄ ru => ?_)
 all_goals first | kernel_rfl! | skip
 refine wpAny_execs_nil ?_
 have R₅ := R₄.freeze R.fm hMl (x := "parts") ⋯ ho₄ (xs := [.str v]) (.cons (ru.mono (fun z z z e => e) fun b q => .inl (.inl q)) .nil)
 refine tail s₄ (A1' (A1' hz₁ hz₂) (A1' hz₃ hz₄)) ?_ R₅
 have k04 : aq (fun b => W b ∨ b = lp) s s₄ := (((k₁.sub fun b q => .inl q).trans (Kp.toW k₂)).trans (k₃.sub fun b q => .inl q)).trans (k₄.sub fun b q => .inr q)
 obtain ⟨h', t, rfl, kk⟩ := k04
 exact ⟨h', t, rfl, fun b o q e => kk b o (fun hb => hb.elim q fun hb => A7' _ (A2' (A5' e) (hb ▸ h1))) e⟩
end
end
section
noncomputable def mr {α : Type} : Sem α → Addr → Sem α
 | .alloc _ k, a => k a
 | t, _ => t
theorem lr {α : Type} {M : Model} {A : Around} {E : Ee} {s : Shared} {Q : α → Shared → Prop} {t : Sem α} {o : Obj} (e : t = .alloc o (mr t)) (h : wpAny M A (mr t s.heap.objs.size) Q E { s with heap := s.heap.push o }) : wpAny M A t Q E s := by
 rw [e]
 exact fun Γ p hΓ => h Γ p hΓ
section
variable {w : World} {n : Nat} {M F W : Ap} {env : Env} {s s' : Shared} {A : Around} {E : Ee}
theorem pd {rows : Ls} {x v : Str} (hx : bu true x) (hv : bu false v) (hn : (ak rows).length ≤ 10000) (hj : JoinOk "; " [v] = true) (hj2 : Txt.join "; " [v] = v) : rB (DD w) (n + 1 + 1) "add_header" (.hdr (ak rows)) [.str x, .str v] (.hdr (ak (rows ++ [(x, v)]))) .none := fun {M s A E a l pl} hA st hdom hmb hbs hM mobj => by
 rw [show ak (rows ++ [(x, v)]) = ak rows ++ [fD (x, v)] from List.map_append]
 refine (HX w).method st mobj (by decide +kernel) (f := nat_lit 172) ⋯ ⋯ ?_
 refine ⟨A6' _, Kp.refl' s, fun s₂ us E k₂ hz₂ ru => ?_⟩
 obtain ⟨o, ho, hdat⟩ := uB.at _ st
 have hz := ru.length
 refine ⟨.inr ⟨nat_lit 172, o, ay i9, rfl, Kp.get k₂ ho, hdat⟩, ?_⟩
 have st₂ := (DD w).stb _ _ (fun b o z z e => Kp.get k₂ e) st
 have mobj₂ := mobj.keep (X := fun z => False) (fun b q => q.elim) (fun q => q) (Kp.toW k₂)
 obtain ⟨u, v', rfl⟩ := lI hz
 refine au (gP (wr := true) (E := E) uB hA st₂ (hdom.size hz₂) hmb (A1' hbs hz₂) hM mobj₂ (p := "self") ⋯ (ag := ⟨[.ref a, u, v'], []⟩) (ps := ["_name", "_value", "_params"]) (xs := [.str x, .str v, .dict []]) (ea := ahL (ak rows) x v none) (fun E' => ?_) (aV ⋯) (vg hx hv hn hj hj2)) fun u s₃ g => ⟨g.2.1.sub fun b q => q.2, g.2.2.2 (ak rows) _ (fun h => by rfl') rfl rfl ⋯, g.2.2.1⟩
 refine lr (o := { cls := .type "dict", data := .dict #[] }) ⋯ ?_
 have e : mr (bindArgs (ay i9) ⟨[.ref a, u, v'], []⟩) s₂.heap.objs.size = pure ([("self", .ref a), ("_name", u), ("_value", v'), ("_params", .ref s₂.heap.objs.size)] : Lw) := ⋯
 rw [e]
 refine Wq ⟨aC .., Kp.push' _ _ _, [u, v', .ref s₂.heap.objs.size], rfl, rfl, ?_⟩
 cases ru with | cons r1 ru =>
 cases ru with | cons r2 ru =>
 have kk : ∀ b o, s₂.heap.get? b = some o → (s₂.heap.push { cls := .type "dict", data := .dict #[] }).get? b = some o := fun b o e => A3' _ e
 refine .cons (r1.keeps kk) (.cons (r2.keeps kk) (.cons (.dict (hdom.size hz₂).new (Heap.DictOf.new s₂.heap) ?_ .nil) .nil))
 have h9 : (DD w).base ≤ s₂.heap.objs.size := A1' hbs hz₂
 have h9 : @LE.le Nat _ 271 s₂.heap.objs.size := h9
 exact beq_eq_false_iff_ne.mpr fun e => by
  have : @Eq Nat s₂.heap.objs.size 1 := e
  lia
end
end
section
section
variable {D : Std} {n : Nat} {M F W : Ap} {env : Env} {ea ea' : ao} {s s' : Shared} {A : Around} {E : Ee}
end
noncomputable def nm69 : List (Str × NameKind) := (ay o69).scope.names
noncomputable def inE (x : Addr) (q : Option V) : ao := { baseE nm69 with loc := match q with
 | none => [("self", .sta (.ref x)), ("headers", .none)]
 | some u => [("self", .sta (.ref x)), ("headers", u)] }
section
variable {w : World} {n : Nat} {M F W : Ap} {env : Env} {s s' : Shared} {A : Around} {E : Ee}
theorem qf {x y : Str} {t : Tok} (h : y ≠ x) : (Value.str x t).isStr y = false := by
 unfold Value.isStr
 simp
 exact fun e => h e.symm
theorem rz {o : Obj} {es : Array DictEntry} {k : Nat} (e : o.data = .dict es k) : o.isFreed = false := by
 obtain ⟨a, b, c, d⟩ := o
 cases e; rfl
set_option tactic.hygienic true in
theorem tI {ox od : Obj} {x dx : Addr} {tk : Tok} {v : Value} {RR : Result → Shared → Prop} (st : StD w s.heap) (I : InstAt s.heap x ox (nat_lit 175) (some od)) (hd : ox.dict = some dx) (hl : (lookIn "_headers" od).isSome = true) (D0 : s.heap.get? dx = some od)
  {es : List DictEntry} {k : Nat} (e' : (Obj.putName "_headers" (PyData.keyHash w.params "_headers") (.str "_headers" s.toks) v od).data = .dict es.toArray k) (hz : es.length ≤ 1000)
  (h : RR (.ok (.ret .none)) { s with heap := s.heap.update dx (Obj.putName "_headers" (PyData.keyHash w.params "_headers") (.str "_headers" s.toks) v), toks := s.toks + 1 }) :
  codeAny (model (DD w).prog w) A (.call (.builtin "object.__setattr__") ⟨[.ref x, .str "_headers" tk, v], []⟩) RR s := by
 have X := oM st
 have ht : takerIn (KF w.params) (nat_lit 175) "_headers" = some none := ⋯
 have hp : plainOver (KF w.params) (nat_lit 175) = true := ⋯
 have hh : (clsIn (KF w.params) (nat_lit 175)).any (·.hasDict) = true := ⋯
 refine osa_open X I hp ht fun b => ?_
 obtain ⟨cd, hc, hd'⟩ := any_some hh
 obtain ⟨hx, hcl, hn, -⟩ := I
 obtain ⟨oc, odi, oda, osl⟩ := ox
 dsimp only at hcl hd
 subst hcl hd
 refine Wb (Wq (Wb (Wb (wpAny_loadPart hx (Wb ((looks_clsIn X hc).here ?_))))))
 rw [hd']
 refine wpAny_pure (a := some dx) (Wb (Wq (Wb ?_)))
 unfold nsSet
 refine Wb (Wb (wpAny_askSetting (Wq (Wb (wpAny_mkText (Wb (wpAny_loadPart D0 ?_)))))))
 unfold lookIn at hl
 split at hl
 ·rename_i es₀ n₀ q
  rw [q]
  dsimp only
  have c : (!es₀.any (·.key.isStr "_headers") && es₀.any (·.refKey)) = false := by
   rw [← Array.any_toList, ← Array.any_toList]
   split at hl
   ·rename_i en he
    rw [List.any_eq_true.mpr ⟨en, List.mem_of_find?_eq_some he, List.find?_some he⟩]; rfl
   ·split at hl
    ·cases hl
    ·rename_i z; rw [Bool.not_eq_true] at z; rw [z, Bool.and_false]
  rw [aRefKeyMayBeTheName_at, c]
  refine wpAny_updatePart D0 ?_
  have D' : (s.heap.update dx (Obj.putName "_headers" (PyData.keyHash w.params "_headers") (.str "_headers" s.toks) v)).get? dx = some (Obj.putName "_headers" (PyData.keyHash w.params "_headers") (.str "_headers" s.toks) v od) := Heap.get?_update_self _ D0 (rz e')
  refine Wb (wpAny_lookBehind D' (by rw [e']; exact pastItsLine_dict (by rw [List.size_toArray, sizeLine_eq]; omega)) ?_)
  exact Wq h
 ·cases hl
theorem pn {x dx : Addr} (hA : bb (n + 1) A) (R : Rel (DD w) M F W env (inE x none) s) (hx : s.heap.get? x = some (instObj (nat_lit 175) dx)) (hdx : s.heap.get? dx = some emptyDict) (hxF : ¬ F x ∧ ¬ F dx) (hxM : M dx) :
  wpAny (model (DD w).prog (DD w).w) A (execs (av (ay o69)) env) (fun f s' => f = .next ∧ s.heap.objs.size ≤ s'.heap.objs.size ∧ aq (fun b => W b ∨ b = dx) s s' ∧ ∃ lp m k, s.heap.objs.size ≤ lp ∧ s'.heap.get? x = some (instObj (nat_lit 175) dx) ∧ s'.heap.Ns dx m ∧ m "_headers" = some (.ref lp) ∧ (∀ y : Str, y ≠ "_headers" → m y = none) ∧ s'.heap.get? lp = some { cls := .type "list", data := .seq #[] k }) E s := by
 have hFW := R.wf
 -- headers = []
 refine B2' (wpAny_Assign_Name (wpAny_IfExp (au ((bo (n := n + 1) (ea := inE x none) (a := .none) (b := .none) (op := .IsNot) (c := false) (ah ?_ ?_ ?_) fM ?_).tr hA R aR) fun c s₁ g => ?_)) rfl)
 all_goals first | kernel_rfl! | skip
 ·exact fun {_ _ _ _ _ _} ra rb _ => by
   have := ra.none_inv
   have := rb.none_inv
   subst_vars
   exact wpAny_isNot_plain rfl (aB _)
 obtain ⟨rfl, hz₁, k₁⟩ := g
 rw [if_neg (by decide)]
 have R₁ := R.keeps k₁ hz₁
 refine List_ (au ((al (n := n + 1) (ea := inE x none)).ev _ hA R₁) fun us s₂ g => ?_)
 have : us = [] := by have := g.2.2.length; cases us with | nil => rfl | cons _ _ => cases this
 subst this
 refine B7' ?_ (by size_fits)
 have R₂ := R₁.keeps g.2.1 g.1
 have ho : (s₂.heap.push { cls := .type "list", data := .seq #[] 0 }).get? s₂.heap.objs.size = some { cls := .type "list", data := .seq #[] 0 } := A4' _ rfl
 have R₃ := R₂.own (s' := { s₂ with heap := s₂.heap.push { cls := .type "list", data := .seq #[] 0 } }) (Kp.push' s₂ _ _) (aC ..) (A6' _) (A5' ho)
 have k03 : Keeps s { s₂ with heap := s₂.heap.push { cls := .type "list", data := .seq #[] 0 } } := Kp.trans' (Kp.trans' k₁ g.2.1) (Kp.push' s₂ _ _)
 have hlp : s.heap.objs.size ≤ s₂.heap.objs.size := A1' hz₁ g.1
 have hW : ∀ b, W b → @LT.lt Nat _ b s.heap.objs.size := fun b q => R.dom _ (R.wm _ q)
 have hWl : ¬ W s₂.heap.objs.size := fun q => A7' _ (A2' (hW _ q) hlp)
 refine aA (dz R₃ (v := .sta (.ref s₂.heap.objs.size)) ⋯ (.sta _) fun s₄ k₄ R₄ hz₄ => ?_)
 have R₄ : Rel (DD w) (fun b => M b ∨ b = s₂.heap.objs.size) F W env (inE x (some (.sta (.ref s₂.heap.objs.size)))) s₄ := R₄
 have ho₄ := k₄.get hWl ho
 have hx₄ := k₄.get (fun q => hxF.1 (R.wf _ q)) (Kp.get k03 hx)
 have hdx₄ := k₄.get (fun q => hxF.2 (R.wf _ q)) (Kp.get k03 hdx)
 have z₄ : s.heap.objs.size ≤ s₄.heap.objs.size := A1' hlp (A1' (aC ..) hz₄)
 have kk₄ : aq W s s₄ := (Kp.toW k03).trans k₄
 generalize s₂.heap.objs.size = lp at *
 -- the type is list
 refine B2' (wpAny_If (wpAny_isTrue_Compare1 (nq (n := n + 1) (ea := inE x (some (.sta (.ref lp)))) (vs := [.sta (.ref lp)]) ?_ ?_ (fv := .type "type") ?_ (fun z e => nomatch e) (ai (ah ?_ ?_ ?_) al) hA R₄ fun us s₅ g => ?_)))
 all_goals first | kernel_rfl! | skip
 obtain ⟨u, rfl, ru⟩ := g.2.2.one
 have := ru.sta_inv
 subst this
 have R₅ := R₄.keeps g.2.1 g.1
 have ho₅ := Kp.get g.2.1 ho₄
 refine call_type_of (Tx := "list") ⟨_, ho₅, rfl⟩ (by decide +kernel) ?_
 refine au ((dn (n := n + 1) (ea := inE x (some (.sta (.ref lp)))) (u := .type "list") ?_ ?_ ?_).ev hA R₅) fun u s₆ g6 => ?_
 all_goals first | kernel_rfl! | skip
 have := g6.2.2.sta_inv
 subst this
 refine wpAny_isNot_plain rfl (wpAny_truthy_bool ?_)
 rw [if_neg (by decide)]
 refine wpAny_execs_nil ?_
 have k46 := Kp.trans' g.2.1 g6.2.1
 have R₆ := R₅.keeps g6.2.1 g6.1
 have ho₆ := Kp.get k46 ho₄
 have hx₆ := Kp.get k46 hx₄
 have hdx₆ := Kp.get k46 hdx₄
 have z₆ : s.heap.objs.size ≤ s₆.heap.objs.size := A1' z₄ (A1' g.1 g6.1)
 have kk₆ : aq W s s₆ := kk₄.trans (Kp.toW k46)
 -- the attribute
 refine B2' (plainObj_wpAny_Assign_Attribute (au ((ah (n := n + 1) (ea := inE x (some (.sta (.ref lp)))) (v := .sta (.ref lp)) ?_ ?_ ?_).ev hA R₆) fun u s₇ g7 => au ((ah (n := n + 1) (ea := inE x (some (.sta (.ref lp)))) (v := .sta (.ref x)) ?_ ?_ ?_).ev hA (R₆.keeps g7.2.1 g7.1)) fun u' s₈ g8 => ?_) rfl)
 all_goals first | kernel_rfl! | skip
 have := g7.2.2.sta_inv
 subst this
 have := g8.2.2.sta_inv
 subst this
 have k68 := Kp.trans' g7.2.1 g8.2.1
 have R₈ := (R₆.keeps g7.2.1 g7.1).keeps g8.2.1 g8.1
 have hx₈ := Kp.get k68 hx₆
 have hdx₈ := Kp.get k68 hdx₆
 have ho₈ := Kp.get k68 ho₆
 have st₈ := R₈.st
 have I : InstAt s₈.heap x (instObj (nat_lit 175) dx) (nat_lit 175) (some emptyDict) := ⟨hx₈, rfl, rfl, hdx₈⟩
 refine aA (set_plain (oM st₈) I ⋯ (tI (s := { s₈ with toks := s₈.toks + 1 }) (od := emptyDict) (dx := dx) (es := [⟨PyData.keyHash w.params "_headers", .str "_headers" (s₈.toks + 1), .ref lp⟩]) (k := 1) st₈ I rfl rfl hdx₈ ⋯ (show 1 ≤ 1000 by decide) ?_))
 intro hz₉
 generalize hf : Obj.putName "_headers" (PyData.keyHash w.params "_headers") (.str "_headers" (s₈.toks + 1)) (.ref lp) = f at hz₉ ⊢
 have hfo : f emptyDict = { cls := .type "dict", data := .dict #[⟨PyData.keyHash w.params "_headers", .str "_headers" (s₈.toks + 1), .ref lp⟩] 1 } := by rw [← hf]; rfl'
 have hd₉ : (s₈.heap.update dx f).get? dx = some (f emptyDict) := Heap.get?_update_self _ hdx₈ (by rw [hfo]; rfl)
 have kX : aq (fun b => b = dx) s₈ { s₈ with heap := s₈.heap.update dx f, toks := s₈.toks + 1 + 1 } := ⟨_, _, rfl, fun b o q e => (Heap.get?_update_ne _ _ _ _ q).trans e⟩
 have R₉ := R₈.growX kX (fun b q => ⟨.inl (q ▸ hxM), q ▸ hxF.2⟩) hz₉ (fun z q => q) (fun z q => .inl q) (R₈.dom.size hz₉) R₈.mb
 have nel : ∀ b o, s₈.heap.get? b = some o → o.data ≠ .dict #[] 0 → (s₈.heap.update dx f).get? b = some o := fun b o e h => (Heap.get?_update_ne _ _ _ _ (by rintro rfl; rw [hdx₈] at e; cases e; exact h rfl)).trans e
 have ho₉ : (s₈.heap.update dx f).get? lp = _ := nel _ _ ho₈ (fun e => nomatch e)
 have hx₉ : (s₈.heap.update dx f).get? x = _ := nel _ _ hx₈ (fun e => nomatch e)
 have hMl : ¬ M lp := fun q => A7' _ (A2' (R.dom _ q) hlp)
 have R₁₀ := R₉.freeze R.fm hMl (x := "headers") ⋯ ho₉ (xs := []) .nil
 have R₁₀ : Rel (DD w) M F W env (inE x (some (.list []))) { s₈ with heap := s₈.heap.update dx f, toks := s₈.toks + 1 + 1 } := R₁₀
 have bl : dF (DD w) (n + 1) (inE x (some (.list []))) ((av (ay o69)).drop 3) (.next (inE x (some (.list [])))) := by
  refine a7 (fi (v := .bool true) (c := true) (aK (wpAny_Constant_bool (aB _))) aR (a7 (fT (dI (v := .list []) (ah ?_ ?_ ?_) rfl) .nil) cY)) cY
  all_goals first | kernel_rfl! | decide
 refine au (bl hA R₁₀) fun f' s' g' => ?_
 obtain ⟨rfl, g1, g2, _⟩ := g'
 have z₉ : s.heap.objs.size ≤ (s₈.heap.update dx f).objs.size := A1' z₆ (A1' (A1' g7.1 g8.1) hz₉)
 have hd₁₀ := g2.get (fun q => hxF.2 (R.wf _ q)) hd₉
 refine ⟨rfl, A1' z₉ g1, (((kk₆.trans (Kp.toW k68)).sub fun b q => .inl q).trans (kX.sub fun b q => .inr q)).trans (g2.sub fun b q => .inl q), lp, nsFind #[⟨PyData.keyHash w.params "_headers", .str "_headers" (s₈.toks + 1), .ref lp⟩], 0, hlp, g2.get (fun q => hxF.1 (R.wf _ q)) hx₉, ⟨_, _, _, hd₁₀, by rw [hfo], ?_, fun z => rfl⟩, by rfl', fun y hy => ?_, g2.get (fun q => A7' _ (A2' (hW _ q) hlp)) ho₉⟩
 ·intro e he
  have he := C1' (Array.mem_toList_iff.mpr he)
  exact ⟨"_headers", _, by rw [he]⟩
 ·have h9 : (Value.str "_headers" (s₈.toks + 1)).isStr y = false := qf hy
  show findBy _ _ _ = _
  unfold findBy
  rw [← Array.find?_toList]
  show Option.map _ (List.find? _ [_]) = _
  rw [List.find?_cons]
  dsimp only
  rw [h9]
  rfl
end
end
section
section
variable {w : World} {n : Nat} {M F W : Ap} {env : Env} {ea : ao} {s s' : Shared} {A : Around} {E : Ee}
theorem ja {pos : Pos} {Q : Ee} (st : StD w s.heap) (h : codeAny (model (DD w).prog (DD w).w) A (.call (.ref (nat_lit 175)) ⟨[], []⟩) (fun r s' => match r with | .ok (.ret v) => Q v s' | .ok _ => False | .error e => E e s') s) : wpAny (model (DD w).prog (DD w).w) A (callWith pos (.ref (nat_lit 175)) [] (backTo pos (starEach [] env)) (backToKw pos (keywordEach [] env))) Q E s := by
 unfold callWith
 refine Wb (B3' (dS rfl (au (spliced_nil (M := model (DD w).prog (DD w).w) (A := A) (E := E) (s := s) (Q := fun vs s' => vs = [] ∧ s = s') ⟨rfl, rfl⟩) fun vs s₁ g => ?_)))
 obtain ⟨rfl, rfl⟩ := g
 have hC := st (nat_lit 175) wk (by decide) ⋯
 have e175 : wk = ⟨.type "type", none, .cls (match wk.data with | .cls c => c | _ => ⟨"", [], [], 0, "", false, [], [], false, none, false⟩), wk.slots⟩ := ⋯
 rw [e175] at hC
 obtain ⟨hh, g, d, t, os⟩ := s
 have f1 := tc_lookup
 have hT : (⟨hh, g, d, t, os⟩ : Shared).TypeIs (.ref (nat_lit 175)) "type" := ⟨_, hC, rfl⟩
 refine Wb (wpAny_standAt ?_)
 show wpAny _ _ (keeperOf (.ref (nat_lit 175)) >>= _) _ _ _
 unfold keeperOf specialOf
 repeat (any_goals (first | assumption | with_reducible refine wpAny_loadPart_at hC ?_ | with_reducible refine wpAny_load' hC ?_ | wp_step))
 refine codeAny_mono h fun r s' z => ?_
 rcases r with e | f
 ·exact z
 ·cases f <;> first | exact z | exact z.elim | exact Wb (B3' (wpAny_point (Wq z)))
theorem pR {x : Str} {p pos : Pos} {ea : ao} (hA : bb (n + 1 + 1 + 1) A) (R : Rel (DD w) M F W env ea s) (q1 : lk ea.names x = some .globalImplicit) (q2 : sq x "__debug__" = false) (q3 : lk glT x = some (.ref (nat_lit 175))) :
  wpAny (model (DD w).prog (DD w).w) A (eval (.Call (.Name x p) [] [] pos) env) (fun u s' => s.heap.objs.size ≤ s'.heap.objs.size ∧ Keeps s s' ∧ ∃ a l, u = .ref a ∧ s.heap.objs.size ≤ l ∧ l < s'.heap.objs.size ∧ cj (DD w) (fun b => M b ∨ b = l) s'.heap a l (.hdr [])) E s := by
 rw [arm_eval_Call_Name']
 refine Wb (wpAny_Name ?_ (by simpa using aJ q2))
 unfold loadName
 simp only [Env.blockKind, R.fn, bt R q1, ScopeKind.isAnnotationScope, Bool.false_and, Bool.false_eq_true, if_false]
 refine (DD w).glob R.st R.glb R.blt q3 (ja R.st ?_)
 have hd0 : ∀ b, M b → @LT.lt Nat _ b s.heap.objs.size := R.dom
 have hbs : @LE.le Nat _ 271 s.heap.objs.size := R.bs
 have st := R.st
 have hmb := R.mb
 have hdom := R.dom
 clear R
 obtain ⟨hh, g, d, t, os⟩ := s
 have X := oM st
 refine make_core (makes_of X ⋯) (looks_findIn X (r := some (.ref (nat_lit 69))) ⋯) (fun self => bind_fn X self ⋯) (.inl ⋯) ?_
 generalize hH : (hh.push emptyDict).push (instObj (nat_lit 175) hh.objs.size) = H
 have kk : ∀ b o, hh.get? b = some o → H.get? b = some o := fun b o e => by rw [← hH]; exact A3' _ (A3' _ e)
 have hsz : H.objs.size = hh.objs.size + 2 := by rw [← hH, Heap.size_push, Heap.size_push]
 have hdx : H.get? hh.objs.size = some emptyDict := by rw [← hH]; exact A3' _ (A4' _ rfl)
 have hx : H.get? (hh.objs.size + 1) = some (instObj (nat_lit 175) hh.objs.size) := by
  rw [← hH]
  have := A4' (hh.push emptyDict) (o := instObj (nat_lit 175) hh.objs.size) rfl
  rwa [Heap.size_push] at this
 have hA2 : bb (n + 1 + 1) (A.under (.builtin "type.__call__" ⟨[.ref (nat_lit 175)], []⟩)) :=
  ⟨by have := hA.units; show A.units + 1 + 60 + 20 * (n + 1 + 1) < cLine; lia, by have := hA.depth; show A.depth + 1 + 20 + 10 * (n + 1 + 1) < recursionLimit; lia, hA.handled⟩
 have hbs' : @LE.le Nat _ 271 hh.objs.size := hbs
 have stH : StD w H := fun b o ne e => kk b o (st b o ne e)
 refine dt (D := DD w) (M := fun b => M b ∨ b = hh.objs.size) (s := ⟨H, g, d, t, os⟩) Di hA2 stH ?_ ?_ ?_ (ps := ["self", "headers"]) (xs := [.sta (.ref (hh.objs.size + 1)), .none]) (ea := inE (hh.objs.size + 1) none) (fun E' => ?_) (aV ⋯) fun {M₂ F₂ W₂ env₂ s₂ A₂} hA₂ R₂ hM hz k₂ hF hFW _ => ?_
 ·intro b q
  show @LT.lt Nat _ b H.objs.size
  rcases q with q | rfl
  ·have := hd0 b q; have : @LT.lt Nat _ b hh.objs.size := this; lia
  ·lia
 ·intro b q
  rcases q with q | rfl
  ·exact hmb b q
  ·exact .inl hbs'
 ·show @LE.le Nat _ 271 H.objs.size
  lia
 ·refine ik (a := nat_lit 62) (o := o62) (pt := none) ⋯ (stH _ _ (by decide) ⋯) ?_
  have e : gg (bindArgs (ay o69) ⟨[.ref (hh.objs.size + 1)], []⟩) o62 = pure ([("self", .ref (hh.objs.size + 1)), ("headers", .none)] : Lw) := ⋯
  show wpAny _ _ (gg (bindArgs (ay o69) ⟨[.ref (hh.objs.size + 1)], []⟩) o62) _ _ _
  rw [e]
  exact Wq ⟨A6' _, Kp.refl' _, [.ref (hh.objs.size + 1), .none], rfl, rfl, .cons (.sta _) (.cons .none .nil)⟩
 have hz' : @LE.le Nat _ H.objs.size s₂.heap.objs.size := hz
 have old : ∀ b o, b < H.objs.size → H.get? b = some o → s₂.heap.get? b = some o := fun b o hb e => k₂.get (s := ⟨H, g, d, t, os⟩) (fun q => A7' _ (A2' hb q)) e
 refine au (pn (x := hh.objs.size + 1) (dx := hh.objs.size) hA₂ R₂ (old _ _ (by lia) hx) (old _ _ (by lia) hdx) ⟨fun q => ?_, fun q => ?_⟩ (hM _ (.inr rfl)).1) fun f s₃ g₃ => ?_
 ·have := hF _ q; have : @LE.le Nat _ H.objs.size (hh.objs.size + 1) := this; lia
 ·have := hF _ q; have : @LE.le Nat _ H.objs.size hh.objs.size := this; lia
 obtain ⟨rfl, z₃, k₃, lp, m, k', h1, h2, h3, h4, h5, h6⟩ := g₃
 refine ⟨rfl, ?_, ?_, hh.objs.size + 1, lp, rfl, ?_, A5' h6, .hdr h2 h3 h4 h5 h6 .nil (fun q => ?_) fun q => ?_⟩
 ·show @LE.le Nat _ hh.objs.size s₃.heap.objs.size
  have : @LE.le Nat _ s₂.heap.objs.size s₃.heap.objs.size := z₃
  lia
 ·have k03 : aq (fun b => hh.objs.size ≤ b) (⟨H, g, d, t, os⟩ : Shared) s₃ := (k₂.sub fun b q => by have : @LE.le Nat _ H.objs.size b := q; show @LE.le Nat _ hh.objs.size b; lia).trans (k₃.sub fun b q => by
   rcases q with q | rfl
   ·have := hF _ (R₂.wf _ q); have : @LE.le Nat _ H.objs.size b := this; show @LE.le Nat _ hh.objs.size b; lia
   ·exact A6' _)
  obtain ⟨h', t', rfl, kk'⟩ := k03
  exact ⟨h', t', rfl, fun b o e => kk' b o (fun q => A7' _ (A2' (A5' e) q)) (kk b o e)⟩
 ·show @LE.le Nat _ hh.objs.size lp
  have : @LE.le Nat _ s₂.heap.objs.size lp := h1
  lia
 ·have h1' : @LE.le Nat _ s₂.heap.objs.size lp := h1
  rcases q with q | q
  ·have := hd0 _ q; have : @LT.lt Nat _ (hh.objs.size + 1) hh.objs.size := this; lia
  ·have : @Eq Nat (hh.objs.size + 1) lp := q; lia
 ·have h1' : @LE.le Nat _ s₂.heap.objs.size lp := h1
  rcases q with q | q
  ·have := hd0 _ q; have : @LT.lt Nat _ hh.objs.size hh.objs.size := this; exact A7' _ ‹_›
  ·have : @Eq Nat hh.objs.size lp := q; lia
end
end
section
open PySem PySem.Sre
set_option maxHeartbeats 2000000
noncomputable def m6 : Array Nat := #[14, 4, 0, 1, 1, 6, 1, 16, 46, 1]
noncomputable def A1 (T : Array Nat) (n s : Nat) (first must : Bool) (pc pos handed : Nat) (a : Option Bool) (seen : PySem.Sre.Seen) : M :=
 { code := m6, text := T, lim := n, start := s, lastStart := n, mustAdvance := must, pc, pos, handed, outermost := first, marks := #[], frames := [{ wait := .nextStart, pc := 5, pos := s, outermost := first }], weight := 1, answer := a, seen }
noncomputable def G1 (T : Array Nat) (n s : Nat) (first must : Bool) (handed : Nat) (a : Bool) (o : Option Sre.Outcome) (seen : PySem.Sre.Seen) : M :=
 { code := m6, text := T, lim := n, start := s, lastStart := n, mustAdvance := must, pc := 5, pos := s, handed, outermost := first, marks := #[], frames := [], weight := 0, answer := some a, seen, outcome := o }
section
variable {T : Array Nat} {n s h : Nat} {f must : Bool} {seen : PySem.Sre.Seen}
theorem e1 : (A1 T n s f must 5 s h none seen).step = if (s == 0 || T.getD (s - 1) 0 == 10) = true then A1 T n s f must 7 s h none ((seen.add 6).add 44) else A1 T n s f must 5 s h (some false) ((seen.add 6).add 44) := ⋯
theorem e2 {pc pos : Nat} : (A1 T n s f must pc pos h (some false) seen).step = if s < n then A1 T n (s + 1) false false 5 (s + 1) (s + 1) none seen else G1 T n s f must h false none seen := ⋯
theorem e3 {a : Bool} : (G1 T n s f must h a none seen).step = G1 T n s f must h a (some (if a then .matched else .failed)) seen := ⋯
theorem e4 : (A1 T n s f must 7 s h none seen).step = if s ≥ n then A1 T n s f must 7 s h (some false) (seen.add 16) else match (T.getD s 0 == 46) with
 | true => A1 T n s f must 9 (s + 1) h none (seen.add 16)
 | false => A1 T n s f must 7 s h (some false) (seen.add 16) := ⋯
theorem e5 : (A1 T n s f must 9 (s + 1) h none seen).step = if (f && ((false && s + 1 != n) || (must && s + 1 == s))) = true then A1 T n s f must 9 (s + 1) h (some false) (seen.add 1) else A1 T n s f must 9 (s + 1) (s + 1) (some true) (seen.add 1) := ⋯
theorem e6 {pc pos : Nat} : (A1 T n s f must pc pos h (some true) seen).step = G1 T n s f must h true none seen := ⋯
end
end
section
open PySem PySem.Sre
theorem eC (a b : Nat) (m : M) : M.runFor (a + b) m = M.runFor b (M.runFor a m) := by
 induction a generalizing m with
 | zero => rw [Nat.zero_add]; rfl
 | succ a ih =>
  rw [Nat.succ_add]
  show (if m.outcome.isSome then m else M.runFor (a + b) m.step) = M.runFor b (if m.outcome.isSome then m else M.runFor a m.step)
  cases h : m.outcome.isSome with
  | true =>
   rw [if_pos rfl, if_pos rfl]
   cases b with
   | zero => rfl
   | succ b => show m = (if m.outcome.isSome then m else _); rw [h, if_pos rfl]
  | false => rw [if_neg (by decide), if_neg (by decide)]; exact ih _
theorem gN {m : M} (h : m.outcome.isSome = true) : ∀ b, M.runFor b m = m := by
 intro v0'
 induction v0' with
 | zero =>
  exact  rfl
 | succ b ih' =>
  exact  by show (if m.outcome.isSome then m else _) = m; rw [h, if_pos rfl]
theorem az {m : M} {k : Nat} (h : m.outcome = none) : M.runFor (k + 1) m = M.runFor k m.step := by
 show (if m.outcome.isSome then m else _) = _
 rw [h]; rfl
theorem rE : ∀ (k : Nat) (m : M), (M.runFor (4 * (k + 1)) m).outcome.isSome = true → il (k + 1) m = some (M.runFor (4 * (k + 1)) m) := by
 intro v0'
 induction v0' with
 | zero =>
  exact fun m h => by
   unfold il
   have h' : (m.runFor Builtin.Re.reTurnSteps).outcome.isSome = true := h
   rw [h']
   rfl
 | succ k ih' =>
  exact fun m h => by
   unfold il
   have e : M.runFor (4 * (k + 1 + 1)) m = M.runFor (4 * (k + 1)) (m.runFor Builtin.Re.reTurnSteps) := by
    rw [show 4 * (k + 1 + 1) = 4 + 4 * (k + 1) by exact Nat.add_comm .., eC]; rfl
   cases q : (m.runFor Builtin.Re.reTurnSteps).outcome.isSome with
   | true =>
    dsimp only
    rw [e, gN q]
   | false =>
    dsimp only
    rw [e] at h ⊢
    exact ih' _ h
theorem lM {m m' : M} {N K : Nat} (h : M.runFor N m = m') (ho : m'.outcome.isSome = true) (hN : N ≤ 4 * (K + 1)) : il (K + 1) m = some m' := by
 have e : M.runFor (4 * (K + 1)) m = m' := by
  rw [show 4 * (K + 1) = N + (4 * (K + 1) - N) by exact (Nat.add_sub_cancel' ‹_›).symm, eC, h, gN ho]
 rw [rE K m (by rw [e]; exact ho), e]
theorem gu {m m' : M} {N K : Nat} (h : M.runFor N m = m') (ho : m'.outcome = some .matched) (hN : N ≤ 4 * (K + 1)) : c8 (K + 1) m = some (some m') := by
 unfold c8
 rw [lM h (by rw [ho]; rfl) hN]
 dsimp only
 rw [ho]
theorem dB {m m' : M} {N K : Nat} (h : M.runFor N m = m') (ho : m'.outcome = some .failed) (hN : N ≤ 4 * (K + 1)) : c8 (K + 1) m = some none := by
 unfold c8
 rw [lM h (by rw [ho]; rfl) hN]
 dsimp only
 rw [ho]
noncomputable def pJ (T : Array Nat) (s : Nat) : Bool := (s == 0 || T.getD (s - 1) 0 == 10) && T.getD s 0 == 46
noncomputable def nx1 (T : Array Nat) : Nat → Nat → Option Nat
 | 0, _ => none
 | d + 1, s => match pJ T s with
  | true => some s
  | false => nx1 T d (s + 1)
theorem mV {T : Array Nat} {n s h : Nat} {f must : Bool} {pc pos : Nat} {a : Option Bool} {seen : PySem.Sre.Seen} : (A1 T n s f must pc pos h a seen).outcome = none := rfl
theorem xr {T : Array Nat} {n s h pc pos : Nat} {f must : Bool} {seen : PySem.Sre.Seen} (hs : s < n) : M.runFor 1 (A1 T n s f must pc pos h (some false) seen) = A1 T n (s + 1) false false 5 (s + 1) (s + 1) none seen := by
 rw [az mV, e2, if_pos hs]; rfl
theorem z0 {T : Array Nat} {n s h : Nat} {f must : Bool} {seen : PySem.Sre.Seen} (hs : s < n) (hh : pJ T s = false) : ∃ N seen', N ≤ 3 ∧ M.runFor N (A1 T n s f must 5 s h none seen) = A1 T n (s + 1) false false 5 (s + 1) (s + 1) none seen' := by
 unfold pJ at hh
 cases ha : (s == 0 || T.getD (s - 1) 0 == 10) with
 | false =>
  refine ⟨2, (seen.add 6).add 44, by decide, ?_⟩
  rw [az mV, e1, ha, if_neg (by decide)]
  exact xr hs
 | true =>
  rw [ha, Bool.true_and] at hh
  refine ⟨3, ((seen.add 6).add 44).add 16, by decide, ?_⟩
  rw [az mV, e1, ha, if_pos rfl, az mV, e4, if_neg (by lia), hh]
  exact xr hs
theorem xQ {T : Array Nat} {n s h : Nat} {f : Bool} {seen : PySem.Sre.Seen} (hs : s < n) (hh : pJ T s = true) : ∃ m', M.runFor 5 (A1 T n s f false 5 s h none seen) = m' ∧ m'.outcome = some .matched ∧ m'.start = s ∧ m'.handed = s + 1 := by
 unfold pJ at hh
 obtain ⟨ha, hb⟩ := C4' hh
 refine ⟨_, rfl, ?_⟩
 rw [az mV, e1, ha, if_pos rfl, az mV, e4, if_neg (by lia), hb]
 dsimp only
 rw [az mV, e5, if_neg (by simp), az mV, e6, az rfl, e3]
 exact ⟨rfl, rfl, rfl⟩
theorem Ed {T : Array Nat} {n h : Nat} {f must : Bool} {seen : PySem.Sre.Seen} : ∃ N m', N ≤ 4 ∧ M.runFor N (A1 T n n f must 5 n h none seen) = m' ∧ m'.outcome = some .failed := by
 cases ha : (n == 0 || T.getD (n - 1) 0 == 10) with
 | false =>
  refine ⟨3, _, by decide, rfl, ?_⟩
  rw [az mV, e1, ha, if_neg (by decide), az mV, e2, if_neg (by lia), az rfl, e3]; rfl
 | true =>
  refine ⟨4, _, by decide, rfl, ?_⟩
  rw [az mV, e1, ha, if_pos rfl, az mV, e4, if_pos (by exact A6' _), az mV, e2, if_neg (by lia), az rfl, e3]; rfl
theorem AJ {T : Array Nat} {n : Nat} : ∀ (d s : Nat) (f : Bool) (seen : PySem.Sre.Seen), s + d = n → ∃ N m', N ≤ 3 * d + 5 ∧ M.runFor N (A1 T n s f false 5 s s none seen) = m' ∧ match nx1 T d s with
  | some q => m'.outcome = some .matched ∧ m'.start = q ∧ m'.handed = q + 1
  | none => m'.outcome = some .failed := by
 intro v0'
 induction v0' with
 | zero =>
  exact fun s f seen e => by
   obtain rfl : s = n := by assumption
   obtain ⟨N, m', h1, h2, h3⟩ := Ed (T := T) (n := s) (h := s) (f := f) (must := false) (seen := seen)
   exact ⟨N, m', by exact B6' ‹_›, h2, h3⟩
 | succ d ih' =>
  exact fun s f seen e => by
   unfold nx1
   cases hh : pJ T s with
   | true =>
    obtain ⟨m', h1, h2⟩ := xQ (n := n) (h := s) (f := f) (seen := seen) (by lia) hh
    exact ⟨5, m', Nat.le_add_left 5 _, h1, h2⟩
   | false =>
    obtain ⟨N, seen', h1, h2⟩ := z0 (n := n) (h := s) (f := f) (must := false) (seen := seen) (by lia) hh
    obtain ⟨N', m', h3, h4, h5⟩ := ih' (s + 1) false seen' (by lia)
    exact ⟨N + N', m', (by lia : N + N' ≤ 3 * (d + 1) + 5), by rw [eC, h2]; exact h4, h5⟩
end
section
open PySem PySem.Sre
set_option maxHeartbeats 2000000
noncomputable def jo : Array Nat := #[14, 9, 4, 1, 2, 16, 10, 16, 13, 0, 7, 7, 16, 13, 16, 10, 15, 18, 5, 16, 10, 15, 13, 11, 16, 13, 5, 5, 0, 16, 10, 1, 15, 2, 0, 1]
noncomputable def F0 (s : Nat) (f : Bool) : Sre.Frame := { wait := .nextStart, pc := 10, pos := s, outermost := f }
noncomputable def F1 (k s : Nat) (f : Bool) : Sre.Frame := { wait := .nextBranch, pc := k, pos := s, outermost := f }
noncomputable def F2 (s : Nat) (f : Bool) : Sre.Frame := { wait := .lookNot, pc := 26, pos := s, outermost := f }
noncomputable def BB (T : Array Nat) (n s : Nat) (fr : List Sre.Frame) (w pc pos h : Nat) (om : Bool) (a : Option Bool) (o : Option Sre.Outcome) (seen : PySem.Sre.Seen) : M :=
 { code := jo, text := T, lim := n, start := s, lastStart := n, mustAdvance := false, pc, pos, handed := h, outermost := om, marks := #[], frames := fr, weight := w, answer := a, seen, outcome := o }
noncomputable def Is (T : Array Nat) (n s : Nat) (fr : List Sre.Frame) (w pc pos h : Nat) (om : Bool) (a : Option Bool) (m : M) : Prop := ∃ seen, m = BB T n s fr w pc pos h om a none seen
section
variable {T : Array Nat} {n s h : Nat} {f om : Bool} {m : M} {fr : List Sre.Frame}
theorem Is.run {w pc pos : Nat} {a : Option Bool} {k : Nat} (i : Is T n s fr w pc pos h om a m) : M.runFor (k + 1) m = M.runFor k m.step := by
 obtain ⟨x, rfl⟩ := i; exact az rfl
theorem Is.branch (i : Is T n s [F0 s f] 1 10 s h f none m) : Is T n s [F1 11 s f, F0 s f] 2 12 s s f none m.step := by
 obtain ⟨x, rfl⟩ := i; exact ⟨x.add 7, by rfl'⟩
theorem sG {w pos : Nat} {x : PySem.Sre.Seen} : (BB T n s fr w 12 pos h om none none x).step = if pos ≥ n then BB T n s fr w 12 pos h om (some false) none (x.add 16) else match (T.getD pos 0 == 13) with
 | true => BB T n s fr w 14 (pos + 1) h om none none (x.add 16)
 | false => BB T n s fr w 12 pos h om (some false) none (x.add 16) := ⋯
theorem Is.lit12_yes {w pos : Nat} (i : Is T n s fr w 12 pos h om none m) (h1 : pos < n) (h2 : T.getD pos 0 = 13) : Is T n s fr w 14 (pos + 1) h om none m.step := by
 obtain ⟨x, rfl⟩ := i
 refine ⟨x.add 16, ?_⟩
 rw [sG, if_neg (by omega), h2]; rfl
theorem Is.lit12_no {w pos : Nat} (i : Is T n s fr w 12 pos h om none m) (h1 : n ≤ pos ∨ T.getD pos 0 ≠ 13) : Is T n s fr w 12 pos h om (some false) m.step := by
 obtain ⟨x, rfl⟩ := i
 refine ⟨x.add 16, ?_⟩
 rw [sG]
 by_cases q : pos ≥ n
 ·rw [if_pos q]
 ·rw [if_neg q]
  cases z : (T.getD pos 0 == 13) with
  | true => exact absurd (beq_iff_eq.mp z) (h1.resolve_left q)
  | false => rfl
theorem sO {w pos : Nat} {x : PySem.Sre.Seen} : (BB T n s fr w 14 pos h om none none x).step = if pos ≥ n then BB T n s fr w 14 pos h om (some false) none (x.add 16) else match (T.getD pos 0 == 10) with
 | true => BB T n s fr w 16 (pos + 1) h om none none (x.add 16)
 | false => BB T n s fr w 14 pos h om (some false) none (x.add 16) := ⋯
theorem Is.lit14_yes {w pos : Nat} (i : Is T n s fr w 14 pos h om none m) (h1 : pos < n) (h2 : T.getD pos 0 = 10) : Is T n s fr w 16 (pos + 1) h om none m.step := by
 obtain ⟨x, rfl⟩ := i
 refine ⟨x.add 16, ?_⟩
 rw [sO, if_neg (by omega), h2]; rfl
theorem Is.lit14_no {w pos : Nat} (i : Is T n s fr w 14 pos h om none m) (h1 : n ≤ pos ∨ T.getD pos 0 ≠ 10) : Is T n s fr w 14 pos h om (some false) m.step := by
 obtain ⟨x, rfl⟩ := i
 refine ⟨x.add 16, ?_⟩
 rw [sO]
 by_cases q : pos ≥ n
 ·rw [if_pos q]
 ·rw [if_neg q]
  cases z : (T.getD pos 0 == 10) with
  | true => exact absurd (beq_iff_eq.mp z) (h1.resolve_left q)
  | false => rfl
theorem sN {w pos : Nat} {x : PySem.Sre.Seen} : (BB T n s fr w 19 pos h om none none x).step = if pos ≥ n then BB T n s fr w 19 pos h om (some false) none (x.add 16) else match (T.getD pos 0 == 10) with
 | true => BB T n s fr w 21 (pos + 1) h om none none (x.add 16)
 | false => BB T n s fr w 19 pos h om (some false) none (x.add 16) := ⋯
theorem Is.lit19_yes {w pos : Nat} (i : Is T n s fr w 19 pos h om none m) (h1 : pos < n) (h2 : T.getD pos 0 = 10) : Is T n s fr w 21 (pos + 1) h om none m.step := by
 obtain ⟨x, rfl⟩ := i
 refine ⟨x.add 16, ?_⟩
 rw [sN, if_neg (by omega), h2]; rfl
theorem Is.lit19_no {w pos : Nat} (i : Is T n s fr w 19 pos h om none m) (h1 : n ≤ pos ∨ T.getD pos 0 ≠ 10) : Is T n s fr w 19 pos h om (some false) m.step := by
 obtain ⟨x, rfl⟩ := i
 refine ⟨x.add 16, ?_⟩
 rw [sN]
 by_cases q : pos ≥ n
 ·rw [if_pos q]
 ·rw [if_neg q]
  cases z : (T.getD pos 0 == 10) with
  | true => exact absurd (beq_iff_eq.mp z) (h1.resolve_left q)
  | false => rfl
theorem yl {w pos : Nat} {x : PySem.Sre.Seen} : (BB T n s fr w 24 pos h om none none x).step = if pos ≥ n then BB T n s fr w 24 pos h om (some false) none (x.add 16) else match (T.getD pos 0 == 13) with
 | true => BB T n s fr w 26 (pos + 1) h om none none (x.add 16)
 | false => BB T n s fr w 24 pos h om (some false) none (x.add 16) := ⋯
theorem Is.lit24_yes {w pos : Nat} (i : Is T n s fr w 24 pos h om none m) (h1 : pos < n) (h2 : T.getD pos 0 = 13) : Is T n s fr w 26 (pos + 1) h om none m.step := by
 obtain ⟨x, rfl⟩ := i
 refine ⟨x.add 16, ?_⟩
 rw [yl, if_neg (by omega), h2]; rfl
theorem ww {w pos : Nat} {x : PySem.Sre.Seen} : (BB T n s fr w 29 pos h om none none x).step = if pos ≥ n then BB T n s fr w 29 pos h om (some false) none (x.add 16) else match (T.getD pos 0 == 10) with
 | true => BB T n s fr w 31 (pos + 1) h om none none (x.add 16)
 | false => BB T n s fr w 29 pos h om (some false) none (x.add 16) := ⋯
theorem Is.lit29_no {w pos : Nat} (i : Is T n s fr w 29 pos h om none m) (h1 : n ≤ pos ∨ T.getD pos 0 ≠ 10) : Is T n s fr w 29 pos h om (some false) m.step := by
 obtain ⟨x, rfl⟩ := i
 refine ⟨x.add 16, ?_⟩
 rw [ww]
 by_cases q : pos ≥ n
 ·rw [if_pos q]
 ·rw [if_neg q]
  cases z : (T.getD pos 0 == 10) with
  | true => exact absurd (beq_iff_eq.mp z) (h1.resolve_left q)
  | false => rfl
theorem Is.jump16 {w pos : Nat} (i : Is T n s fr w 16 pos h om none m) : Is T n s fr w 35 pos h om none m.step := by
 obtain ⟨x, rfl⟩ := i; exact ⟨x.add 15, by rfl'⟩
theorem Is.jump21 {w pos : Nat} (i : Is T n s fr w 21 pos h om none m) : Is T n s fr w 35 pos h om none m.step := by
 obtain ⟨x, rfl⟩ := i; exact ⟨x.add 15, by rfl'⟩
theorem Is.jump32 {w pos : Nat} (i : Is T n s fr w 32 pos h om none m) : Is T n s fr w 35 pos h om none m.step := by
 obtain ⟨x, rfl⟩ := i; exact ⟨x.add 15, by rfl'⟩
theorem qI {w pos : Nat} {x : PySem.Sre.Seen} : (BB T n s fr w 35 pos h om none none x).step = if (om && ((false && pos != n) || (false && pos == s))) = true then BB T n s fr w 35 pos h om (some false) none (x.add 1) else BB T n s fr w 35 pos pos om (some true) none (x.add 1) := ⋯
theorem Is.succ {w pos : Nat} (i : Is T n s fr w 35 pos h om none m) : Is T n s fr w 35 pos pos om (some true) m.step := by
 obtain ⟨x, rfl⟩ := i
 refine ⟨x.add 1, ?_⟩
 rw [qI, if_neg (by simp)]
theorem Is.yes1 {k pc pos : Nat} {q : Bool} (i : Is T n s (F1 k s f :: fr) 2 pc pos h q (some true) m) : Is T n s fr 1 k s h f (some true) m.step := by
 obtain ⟨x, rfl⟩ := i; exact ⟨x, by rfl'⟩
theorem Is.no11 {pc pos : Nat} {q : Bool} (i : Is T n s (F1 11 s f :: fr) 2 pc pos h q (some false) m) : Is T n s (F1 18 s f :: fr) 2 19 s s f none m.step := by
 obtain ⟨x, rfl⟩ := i; exact ⟨x, by rfl'⟩
theorem Is.no18 {pc pos : Nat} {q : Bool} (i : Is T n s (F1 18 s f :: fr) 2 pc pos h q (some false) m) : Is T n s (F1 23 s f :: fr) 2 24 s s f none m.step := by
 obtain ⟨x, rfl⟩ := i; exact ⟨x, by rfl'⟩
theorem Is.yes0 {pc pos : Nat} {q : Bool} (i : Is T n s [F0 s f] 1 pc pos h q (some true) m) : Is T n s [] 0 10 s h f (some true) m.step := by
 obtain ⟨x, rfl⟩ := i; exact ⟨x, by rfl'⟩
theorem Is.over {pc pos : Nat} {q : Bool} (i : Is T n s [] 0 pc pos h q (some true) m) : m.step.outcome = some .matched ∧ m.step.start = s ∧ m.step.handed = h := by
 obtain ⟨x, rfl⟩ := i; exact ⟨by rfl', by rfl', by rfl'⟩
theorem Is.look {pos : Nat} (i : Is T n s fr 2 26 pos h om none m) : Is T n s (F2 pos om :: fr) 3 29 pos pos false none m.step := by
 obtain ⟨x, rfl⟩ := i; exact ⟨x.add 5, by rfl'⟩
theorem Is.lookNo {pos pc p : Nat} {q : Bool} (i : Is T n s (F2 p om :: fr) 3 pc pos h q (some false) m) : Is T n s fr 2 32 p h om none m.step := by
 obtain ⟨x, rfl⟩ := i; exact ⟨x, by rfl'⟩
noncomputable def mT (T : Array Nat) (n s : Nat) : Nat := if T.getD s 0 = 13 ∧ s + 1 < n ∧ T.getD (s + 1) 0 = 10 then 2 else 1
theorem yO (i : Is T n s [F0 s f] 1 10 s h f none m) (hs : s < n) (hc : T.getD s 0 = 10 ∨ T.getD s 0 = 13) :
  ∃ N m', N ≤ 20 ∧ M.runFor N m = m' ∧ m'.outcome = some .matched ∧ m'.start = s ∧ m'.handed = s + mT T n s := by
 have j1 := i.branch
 rcases hc with hc | hc
 ·have j2 := j1.lit12_no (.inr (by rw [hc]; decide))
  have j3 := j2.no11
  have j4 := j3.lit19_yes hs hc
  have j5 := j4.jump21.succ.yes1.yes0
  refine ⟨9, _, by decide, rfl, ?_⟩
  have e : mT T n s = 1 := if_neg (by rw [hc]; omega)
  rw [e, i.run, j1.run, j2.run, j3.run, j4.run, j4.jump21.run, j4.jump21.succ.run, j4.jump21.succ.yes1.run, j5.run]
  exact j5.over
 ·have j2 := j1.lit12_yes hs hc
  by_cases h2 : s + 1 < n ∧ T.getD (s + 1) 0 = 10
  ·have j3 := j2.lit14_yes h2.1 h2.2
   have j5 := j3.jump16.succ.yes1.yes0
   refine ⟨8, _, by decide, rfl, ?_⟩
   have e : mT T n s = 2 := if_pos ⟨hc, h2⟩
   rw [e, i.run, j1.run, j2.run, j3.run, j3.jump16.run, j3.jump16.succ.run, j3.jump16.succ.yes1.run, j5.run]
   exact j5.over
  ·have j3 := j2.lit14_no (by by_cases q : s + 1 < n; exact .inr fun q2 => h2 ⟨q, q2⟩; exact .inl (by omega))
   have j4 := j3.no11
   have j5 := j4.lit19_no (.inr (by rw [hc]; decide))
   have j6 := j5.no18
   have j7 := j6.lit24_yes hs hc
   have j8 := j7.look
   have j9 := j8.lit29_no (by by_cases q : s + 1 < n; exact .inr fun q2 => h2 ⟨q, q2⟩; exact .inl (by omega))
   have k1 := j9.lookNo
   have k5 := k1.jump32.succ.yes1.yes0
   refine ⟨15, _, by decide, rfl, ?_⟩
   have e : mT T n s = 1 := if_neg fun q => h2 q.2
   rw [e, i.run, j1.run, j2.run, j3.run, j4.run, j5.run, j6.run, j7.run, j8.run, j9.run, k1.run, k1.jump32.run, k1.jump32.succ.run, k1.jump32.succ.yes1.run, k5.run]
   exact k5.over
end
end
section
open PySem.Builtin.Re
noncomputable def pcs (nx : Nat → Option (Nat × Nat)) (T : Array Nat) (r : Str) : Nat → Nat → Option (List Str)
 | 0, _ => none
 | k + 1, p => match nx p with
  | none => some (if p < T.size then [⟨T.extract p T.size⟩] else [])
  | some (q, e) => match pcs nx T r k e with
   | none => none
   | some l => some ((if p < q then [⟨T.extract p q⟩] else []) ++ r :: l)
noncomputable def pD (code T : Array Nat) (nx : Nat → Option (Nat × Nat)) : Prop := ∀ p, p ≤ T.size → ∃ K, K ≤ 2 ^ 64 ∧ match nx p with
 | none => c8 K (Sre.forSearch code T 0 p T.size false) = some none
 | some (q, e) => q < e ∧ e ≤ T.size ∧ ∃ m, c8 K (Sre.forSearch code T 0 p T.size false) = some (some m) ∧ m.start = q ∧ m.handed = e
section
variable {M : Model} {A : Around} {E : Ee} {s : Shared}
theorem l9 {a : Addr} {fs cs : Array Value} {x : Str} {t : Tok} (p : eS s.heap a fs cs) {Q : ReTarget → Shared → Prop} (h : Q { pattern := .ref a, string := .str x t, code := da cs, text := x.cps, kind := 0, groups := 0, pos := 0, lim := x.cps.size } s) :
  wpAny M A (reWholeTarget (.ref a) (.str x t)) Q E s := by
 obtain ⟨o, ho, hc, hd, _⟩ := p.at
 obtain ⟨c, oc, n, h5, hoc, hdc⟩ := p.code
 unfold reWholeTarget
 have e2 : reTextOf (.str x t) = pure (x.cps, 0) := ⋯
 have e3 : reNoCollectionInside (.str x t) 0 = pure () := ⋯
 refine Wb (wpAny_fieldsOf ho hd ?_)
 rw [e2]
 refine Wb (Wq ?_)
 dsimp only
 rw [p.kind]
 simp only [p.gr, h5]
 rw [e3]
 refine Wb (Wq ?_)
 unfold reRawItems
 refine Wb (Wb (wpAny_seqItems hoc hdc (Wq ?_)))
 exact Wq h
theorem lH {T : Array Nat} {b e : Nat} {Q : Ee} (hz : T.size ≤ 100000) (h : Q (.str ⟨T.extract b e⟩ s.toks) { s with toks := s.toks + 1 }) : wpAny M A (reSlice T 0 b e) Q E s := by
 show wpAny M A (mkStr ⟨T.extract b e⟩) Q E s
 refine wpAny_mkStr h ?_
 show (T.extract b e).size ≤ sizeLine
 rw [Array.size_extract, aX]
 lia
theorem eS.mono {h h' : Heap} {a : Addr} {fs cs : Array Value} (p : eS h a fs cs) (k : ∀ b o, h.get? b = some o → h'.get? b = some o) : eS h' a fs cs := by
 obtain ⟨⟨o, h1, h2⟩, ⟨c, oc, n, h3, h4, h5⟩, h6, h7⟩ := p
 exact ⟨⟨o, k _ _ h1, h2⟩, ⟨c, oc, n, h3, k _ _ h4, h5⟩, h6, h7⟩
end
theorem bM : plainId "re.Pattern.sub.loop" = true := by decide +kernel
theorem dK : entryFor table "re.Pattern.sub.loop" = some Builtin.«re.Pattern.sub.loop» := entryFor_of_tree ⋯
noncomputable def Lay (s0 s : Shared) (l : Addr) (pre : List Str) : Prop := Keeps s0 s ∧ s0.heap.get? l = none ∧ ∃ (vs : List (Str × Tok)) (n : Nat), s.heap.get? l = some { cls := .type "list", data := .seq (strValues vs).toArray n } ∧ vs.map (fun p => p.1) = pre
theorem Lay.push {s0 s : Shared} {l : Addr} {pre : List Str} (h : Lay s0 s l pre) {x : Str} {t : Tok} (hn : pre.length ≤ 100000) {M : Model} {A : Around} {E : Ee} {Q : Unit → Shared → Prop} (k : ∀ s', Lay s0 s' l (pre ++ [x]) → Q () s') : wpAny M A (updateSeq l (·.push (.str x t))) Q E s := by
 obtain ⟨hk, hl, vs, n, ho, hv⟩ := h
 have hz : (strValues vs).toArray.size = pre.length := by rw [← hv]; simp [strValues]
 refine wpAny_updateSeq ho rfl (k _ ⟨?_, hl, vs ++ [(x, t)], (if ((strValues vs).toArray.push (.str x t)).size == (strValues vs).toArray.size then n else n + 1), ?_, ?_⟩) (by rw [hz, aX]; exact A1' ‹_› (by decide)) (by rw [Array.size_push, hz, aX]; exact B4' ‹_› (by decide))
 ·obtain ⟨h', tk, rfl, kk⟩ := hk
  refine ⟨_, tk, rfl, fun b o e => ?_⟩
  have hne : b ≠ l := fun q => by rw [q, hl] at e; cases e
  have e2 := Heap.get?_update_other h' (Obj.mapSeq (·.push (.str x t))) hne.symm
  exact e2.trans (kk b o e)
 ·rw [Heap.get?_update_self _ ho rfl]
  unfold Obj.mapSeq
  rw [show (strValues (vs ++ [(x, t)])).toArray = (strValues vs).toArray.push (.str x t) by simp [strValues]]
 ·rw [List.map_append, hv]; rfl
theorem Lay.tok {s0 s : Shared} {l : Addr} {pre : List Str} (h : Lay s0 s l pre) (k : Nat) : Lay s0 { s with toks := k } l pre := by
 obtain ⟨hk, hl, vs, n, ho, hv⟩ := h
 exact ⟨Kp.trans' hk (Kp.toks' _ _), hl, vs, n, ho, hv⟩
noncomputable def rC (T : ReTarget) (l : Addr) (p q : Nat) (J : Sem Fin) : Sem Fin := if p < q then (reSlice T.text T.kind p q >>= fun v => updateSeq l (·.push v) >>= fun z => J) else J
noncomputable def pG (T : ReTarget) (l : Addr) : Sem Fin :=
 reSlice T.text T.kind 0 0 >>= fun j => seqItems? (.ref l) >>= fun i => if (i.getD #[]).isEmpty then ret j else call (.builtin (if T.kind == 0 then "str.join" else "bytes.join")) [j, .ref l] >>= fun u => ret u
noncomputable def AG (T : ReTarget) (a : Addr) (x r : Str) (t tr : Tok) (l : Addr) (n p : Nat) : Option Sre.M → Sem Fin
 | none => rC T l p T.lim (pG T l)
 | some m => rC T l p m.start (updateSeq l (·.push (.str r tr)) >>= fun z =>
  again (.builtin "re.Pattern.sub.loop" ⟨[.ref a, .str x t, .str r tr, rawInt 0, rawInt 0, rawInt ((n : Int) + 1), rawInt m.handed, rawInt m.handed, .bool (m.handed == m.start), .ref l, .bool false], []⟩))
theorem kG (a : Addr) (x r : Str) (t tr : Tok) (l : Addr) (n p : Nat) : Builtin.«re.Pattern.sub.loop» ⟨[.ref a, .str x t, .str r tr, rawInt 0, rawInt 0, rawInt n, rawInt p, rawInt p, .bool false, .ref l, .bool false], []⟩ = (reWholeTarget (.ref a) (.str x t) >>= fun T => reRunToEnd (Sre.forSearch T.code T.text T.groups p T.lim false) >>= AG T a x r t tr l n p) := ⋯
section
variable {prog : Program} {w : World} {A : Around} {E : Ee} {s0 s : Shared}
theorem lm {T : ReTarget} {l : Addr} {p q : Nat} {J : Sem Fin} {pre : List Str} {Q : Fin → Shared → Prop} (hk : T.kind = 0) (hz : T.text.size ≤ 100000) (hn : pre.length ≤ 100000) (L : Lay s0 s l pre)
  (h : ∀ s', Lay s0 s' l (pre ++ if p < q then [⟨T.text.extract p q⟩] else []) → wpAny (model prog w) A J Q E s') : wpAny (model prog w) A (rC T l p q J) Q E s := by
 unfold rC
 by_cases c : p < q
 ·rw [if_pos c] at h ⊢
  rw [hk]
  exact Wb (lH hz (Wb ((L.tok _).push hn h)))
 ·rw [if_neg c] at h ⊢
  exact h s (by rw [List.append_nil]; exact L)
theorem nT {T : ReTarget} {l : Addr} {out : List Str} {Q : Fin → Shared → Prop} (hk : T.kind = 0) (hz : T.text.size ≤ 100000) (hj : JoinOk "" out = true) (L : Lay s0 s l out)
  (h : ∀ t' s', Keeps s0 s' → Q (.done (.ret (.str (Txt.join "" out) t'))) s') : wpAny (model prog w) A (pG T l) Q E s := by
 unfold pG
 rw [hk]
 refine Wb (lH hz ?_)
 rw [show (⟨T.text.extract 0 0⟩ : Str) = "" by rw [Array.extract_empty_of_stop_le_start (A6' 0)]; rfl]
 obtain ⟨hk, hl, vs, n', ho, hv⟩ := L.tok (s.toks + 1)
 refine Wb (wpAny_seqItems ho rfl ?_)
 by_cases z : (strValues vs).toArray.isEmpty = true
 ·rw [Option.getD_some, if_pos z]
  have z2 : out = [] := by
   rw [← hv]
   simpa [strValues] using z
  have h2 := h s.toks _ hk
  rw [z2] at h2
  exact Wq h2
 ·rw [Option.getD_some, if_neg z]
  exact Wb (SC.join ⟨_, ho, rfl, _, rfl⟩ hv hj fun t' k => Wq (h t' _ (Kp.trans' hk (Kp.toks' _ _))))
end
theorem gf {a : Addr} {fs cs : Array Value} {x r : Str} {t tr : Tok} {nx : Nat → Option (Nat × Nat)} (F : pD (da cs) x.cps nx) (hz : x.cps.size ≤ 100000) {s0 : Shared} (pa : eS s0.heap a fs cs) {l : Addr} :
  ∀ (k p n : Nat) (pre ps : List Str), p ≤ x.cps.size → pcs nx x.cps r k p = some ps → (pre ++ ps).length ≤ 100000 → JoinOk "" (pre ++ ps) = true →
  Meets (Builtin.«re.Pattern.sub.loop» ⟨[.ref a, .str x t, .str r tr, rawInt 0, rawInt 0, rawInt n, rawInt p, rawInt p, .bool false, .ref l, .bool false], []⟩)
   (fun z R s => Lay s0 s l pre ∧ ∀ t' s', Keeps s0 s' → R (.ok (.ret (.str (Txt.join "" (pre ++ ps)) t'))) s') := by
 intro v0'
 induction v0' with
 | zero =>
  exact fun z z z z z e z z => (nomatch e)
 | succ k ih' =>
  exact fun p n pre ps hp e hn hj => fun prog w A R s ⟨L, h⟩ => by
   obtain ⟨K, hK, hF⟩ := F p hp
   rw [kG]
   refine Wb (l9 (pa.mono fun b o e => Kp.get L.1 e) (Wb ?_))
   unfold pcs at e
   cases hnx : nx p with
   | none =>
    rw [hnx] at e hF
    have e := Option.some.inj e
    refine dX hK hF (lm rfl hz (by rw [List.length_append] at hn; exact A1' (Nat.le_add_right ..) ‹_›) L fun s' L => ?_)
    exact nT rfl hz hj (e ▸ L) h
   | some qe =>
    obtain ⟨q, e'⟩ := qe
    rw [hnx] at e hF
    obtain ⟨hq1, hq2, m, hm, rfl, rfl⟩ := hF
    dsimp only at e
    obtain ⟨ps', hr⟩ : ∃ y, pcs nx x.cps r k m.handed = some y := by
     cases hr : pcs nx x.cps r k m.handed with
     | none => rw [hr] at e; cases e
     | some y => exact ⟨y, rfl⟩
    rw [hr] at e
    have hE : pre ++ ps = pre ++ (if p < m.start then [⟨x.cps.extract p m.start⟩] else []) ++ [r] ++ ps' := by rw [← Option.some.inj e]; simp
    rw [hE] at hn hj h
    simp only [List.length_append] at hn
    refine dX hK hm (lm rfl hz (by lia) L fun s' L => Wb (L.push (by rw [List.length_append]; lia) fun s' L => Wq ⟨plainId_quiet bM _, codeAny_builtin dK ?_⟩))
    rw [Around.under_plainId bM, beq_eq_false_iff_ne.mpr (Nat.ne_of_gt hq1)]
    exact ih' m.handed (n + 1) _ ps' hq2 hr (by simp only [List.length_append]; assumption) hj prog w A R s' ⟨L, h⟩
end
section
open PySem.Builtin.Re
theorem bV : Slot "re.Pattern" "sub" "re.Pattern.sub" :=
 .of (owner := "re.Pattern") (n := "sub") (by rw [typeLookup_type, builtinLookup_eq_fast]; rfl') (by decide +kernel) (by decide +kernel) (by decide +kernel)
  (by first | exact .inl (by decide +kernel) | exact .inr (by decide +kernel)) (by rw [isSubtype_type]; rfl')
theorem cZ : typeOf (.builtin "re.Pattern.sub") = pure (.type "method_descriptor") := by show builtinType _ = _; rw [builtinType_eq_fast]; rfl'
theorem eG : entryFor table "re.Pattern.sub" = some Builtin.«re.Pattern.sub» := entryFor_of_tree ⋯
theorem d4 (a b c : Value) : argsOk "re.Pattern.sub" ⟨[a, b, c], []⟩ := by
 unfold argsOk; rw [signature?_of (id := "re.Pattern.sub") (n := ['b', 'u', 's']) (o := ['n', 'r', 'e', 't', 't', 'a', 'P', '.', 'e', 'r']) ⋯ ef]; rfl'
theorem kC : typeLookup (.type "str") "__call__" = pure none := by rw [typeLookup_type, builtinLookup_eq_fast]; rfl'
theorem rU {h : Heap} : h.get? h.objs.size = none := by
 cases e : h.get? h.objs.size with
 | none => rfl
 | some o => exact absurd (A5' e) (A7' _)
theorem nR {a : Addr} {fs cs : Array Value} {x r : Str} {t tr : Tok} {nx : Nat → Option (Nat × Nat)} (F : pD (da cs) x.cps nx) (hz : x.cps.size ≤ 100000) (hr : r.cps.contains 92 = false) {k : Nat} {ps : List Str} (e : pcs nx x.cps r k 0 = some ps) (hn : ps.length ≤ 100000) (hj : JoinOk "" ps = true) :
  Meets (Builtin.«re.Pattern.sub» ⟨[.ref a, .str r tr, .str x t], []⟩) (fun z R s => eS s.heap a fs cs ∧ ∀ t' s', Keeps s s' → R (.ok (.ret (.str (Txt.join "" ps) t'))) s') := fun prog w A R s h => by
 obtain ⟨pa, h⟩ := h
 unfold Builtin.«re.Pattern.sub» reSubstitute
 have e1 : reNamed "re.Pattern.sub" "sub" ["repl", "string", "count"] 2 [.str r tr, .str x t] [] = pure [some (.str r tr), some (.str x t), none] := ⋯
 have e2 : asStr? (.str r tr) = pure (some r) := ⋯
 dsimp only
 rw [e1]
 refine Wb (Wq ?_)
 dsimp only
 refine Wb (Wq ?_)
 refine Wb (wpAny_specialOf (typeIs_str _ _ _) kC ?_)
 rw [e2]
 dsimp only [Option.isSome]
 rw [if_neg (by decide)]
 refine Wb (Wq ?_)
 dsimp only
 rw [hr]
 refine Wb (Wq ?_)
 rw [if_neg (by decide), if_pos (by decide)]
 refine Wb (Wq ?_)
 dsimp only
 refine Wb (B3' (l9 pa ?_))
 rw [if_neg (by decide)]
 refine Wb (wpAny_newList ?_)
 refine Wq ⟨plainId_quiet bM _, codeAny_builtin dK ?_⟩
 rw [Around.under_plainId bM]
 exact gf F hz (s0 := s) pa k 0 0 [] ps (A9' _) e hn hj prog w A R _ ⟨⟨Kp.push' s _ _, rU, [], 0, A4' _ rfl, rfl⟩, h⟩
end
section
open PySem.StrLaws PySem.Builtin.Str
noncomputable def nl2 : List Nat → List Nat
 | [] => []
 | [c] => if c == 10 || c == 13 then [13, 10] else [c]
 | c :: d :: r => if c == 13 && d == 10 then 13 :: 10 :: nl2 r else if c == 10 || c == 13 then 13 :: 10 :: nl2 (d :: r) else c :: nl2 (d :: r)
noncomputable def ge : Bool → List Nat → List Nat
 | _, [] => []
 | b, c :: r => if b && c == 46 then 46 :: 46 :: ge false r else c :: ge (c == 10) r
noncomputable def bz (m : List Nat) : List (List Nat) → List Nat
 | [] => []
 | [r] => r
 | r :: q :: l => r ++ m ++ bz m (q :: l)
noncomputable def ll (l : List Nat) : Prop := ∀ c, c ∈ l → c ≠ 10 ∧ c ≠ 13
theorem ll.tail {c : Nat} {l : List Nat} (h : ll (c :: l)) : ll l := fun d hd => h d (.tail _ hd)
theorem lG {c : Nat} (h : c ≠ 10 ∧ c ≠ 13) (r : List Nat) : nl2 (c :: r) = c :: nl2 r := by
 cases r with
 | nil => unfold nl2; rw [if_neg (by simp [h.1, h.2])]
 | cons d r => rw [nl2]; rw [if_neg (by simp [h.2]), if_neg (by simp [h.1, h.2])]
theorem iL : ∀ {l : List Nat}, ll l → ∀ r, nl2 (l ++ r) = l ++ nl2 r
 | [], _, _ => rfl
 | c :: l, h, r => by
  rw [List.cons_append, lG (h c (.head _)), iL h.tail]; rfl
theorem gd : ∀ {l : List Nat}, ll l → ∀ r, ge false (l ++ r) = l ++ ge false r
 | [], _, _ => rfl
 | c :: l, h, r => by
  rw [List.cons_append, ge, if_neg (by simp), ddot_beq (h c (.head _)).1, gd h.tail]; rfl
where ddot_beq {c : Nat} {r : List Nat} (h : c ≠ 10) : c :: ge (c == 10) r = c :: ge false r := by rw [beq_eq_false_iff_ne.mpr h]
noncomputable def gE (m : List Nat) : Prop := m = [10] ∨ m = [13, 10] ∨ m = [13]
theorem qB {m : List Nat} (h : gE m) (r : List Nat) : nl2 (m ++ 46 :: r) = 13 :: 10 :: nl2 (46 :: r) := by
 rcases h with rfl | rfl | rfl
 ·show nl2 (10 :: 46 :: r) = _; rw [nl2, if_neg (by decide), if_pos (by decide)]
 ·show nl2 (13 :: 10 :: 46 :: r) = _; rw [nl2, if_pos (by decide)]
 ·show nl2 (13 :: 46 :: r) = _; rw [nl2, if_neg (by decide), if_pos (by decide)]
noncomputable def jt (l : List Nat) : Prop := ll l ∧ ∃ r, l = 46 :: r
theorem mx {m : List Nat} (hm : gE m) : ∀ (rows : List (List Nat)) (f : List Nat), ll f → (∀ r, r ∈ rows → jt r) → nl2 (bz m (f :: rows)) = bz [13, 10] (f :: rows) := by
 intro v0'
 induction v0' with
 | nil =>
  exact fun f hf z => by
   show nl2 f = f
   have := iL hf []
   rwa [List.append_nil, show nl2 [] = [] from rfl, List.append_nil] at this
 | cons q rows ih' =>
  exact fun f hf h => by
   obtain ⟨h1, r, rfl⟩ := h q (.head _)
   have ih := ih' (46 :: r) h1 fun x hx => h x (.tail _ hx)
   show nl2 (f ++ m ++ bz m ((46 :: r) :: rows)) = f ++ [13, 10] ++ bz [13, 10] ((46 :: r) :: rows)
   rw [List.append_assoc, iL hf, List.append_assoc, ← ih]
   obtain ⟨y, hy⟩ : ∃ y, bz m ((46 :: r) :: rows) = 46 :: y := by
    cases rows with
    | nil => exact ⟨r, rfl⟩
    | cons a b => exact ⟨_, rfl⟩
   rw [hy, qB hm]; rfl
theorem oP : ∀ (rows : List (List Nat)) (f : List Nat), ll f → (∀ r, r ∈ rows → jt r) → ge false (bz [13, 10] (f :: rows)) = bz [13, 10] (f :: rows.map (46 :: ·)) := by
 intro v0'
 induction v0' with
 | nil =>
  exact fun f hf z => by
   show ge false f = f
   have := gd hf []
   rwa [List.append_nil, show ge false [] = [] from rfl, List.append_nil] at this
 | cons q rows ih' =>
  exact fun f hf h => by
   obtain ⟨h1, r, rfl⟩ := h q (.head _)
   have ih := ih' r h1.tail fun x hx => h x (.tail _ hx)
   show ge false (f ++ [13, 10] ++ bz [13, 10] ((46 :: r) :: rows)) = f ++ [13, 10] ++ bz [13, 10] ((46 :: 46 :: r) :: rows.map (46 :: ·))
   rw [List.append_assoc, gd hf, List.append_assoc]
   have e : ∀ (g : List Nat) (l : List (List Nat)), bz [13, 10] ((46 :: g) :: l) = 46 :: bz [13, 10] (g :: l) := fun g l => by cases l <;> rfl
   rw [e, e, e, ← ih]
   rfl
theorem mZ {m : List Nat} (hm : gE m) {rows : List (List Nat)} {c : Nat} {f : List Nat} (hf : ll (c :: f)) (hc : c ≠ 46) (h : ∀ r, r ∈ rows → jt r) :
  ge true (nl2 (bz m ((c :: f) :: rows))) = bz [13, 10] ((c :: f) :: rows.map (46 :: ·)) := by
 rw [mx hm rows _ hf h]
 have e : ∀ (g : List Nat) (l : List (List Nat)), bz [13, 10] ((c :: g) :: l) = c :: bz [13, 10] (g :: l) := fun g l => by cases l <;> rfl
 rw [e, e, ← oP rows f hf.tail h, ge, if_neg (by simp [hc])]
 rw [beq_eq_false_iff_ne.mpr (hf c (.head _)).1]
theorem sJ {x : Str} {k : Nat} : At x ⟨#[13, 10]⟩ x.length k ↔ ∃ r, x.cps.toList.drop k = 13 :: 10 :: r := by
 unfold At
 rw [subAt_eq]
 have hn : x.length = x.cps.toList.length := by simp [Str.length]
 show k + 2 ≤ x.length ∧ ((x.cps.toList.drop k).take 2 == [13, 10]) = true ↔ _
 rw [hn, beq_iff_eq]
 have hl : (x.cps.toList.drop k).length = x.cps.toList.length - k := List.length_drop
 constructor
 ·rintro ⟨h1, h2⟩
  cases q : x.cps.toList.drop k with
  | nil => rw [q] at h2; cases h2
  | cons a l =>
   cases l with
   | nil => rw [q] at h2; cases h2
   | cons b l => rw [q] at h2; cases h2; exact ⟨_, rfl⟩
 ·rintro ⟨r, q⟩
  rw [q] at hl ⊢
  simp only [List.length_cons] at hl
  exact ⟨by lia, rfl⟩
theorem jU {L l r : List Nat} {a : Nat} (h : L.drop a = l ++ r) (j : Nat) (hj : j ≤ l.length) : L.drop (a + j) = l.drop j ++ r := by
 rw [← List.drop_drop, h, List.drop_append_of_le_length hj]
theorem ln {x : Str} {l r : List Nat} {a : Nat} (hl : ll l) (h : x.cps.toList.drop a = l ++ r) (k : Nat) (h1 : a ≤ k) (h2 : k < a + l.length) : ¬ At x ⟨#[13, 10]⟩ x.length k := by
 rw [sJ]
 rintro ⟨q, hq⟩
 have e := jU h (k - a) (by lia)
 rw [show a + (k - a) = k by exact Nat.add_sub_cancel' ‹_›, hq] at e
 cases g : l.drop (k - a) with
 | nil =>
  have := congrArg List.length g
  rw [List.length_drop] at this
  simp only [List.length_nil] at this
  lia
 | cons b t =>
  rw [g] at e
  have e : 13 = b := (List.cons.inj e).1
  subst e
  exact (hl 13 (List.mem_of_mem_drop (i := k - a) (by rw [g]; exact List.Mem.head _))).2 rfl
theorem mG {x : Str} : ∀ (rows : List (List Nat)) (r : List Nat) (a : Nat) (cuts : List Nat) (f : Nat), a ≤ x.length → (∀ q, q ∈ r :: rows → ll q) → x.cps.toList.drop a = bz [13, 10] (r :: rows) → ChainG x ⟨#[13, 10]⟩ x.length a cuts f → (∀ k, f ≤ k → ¬ At x ⟨#[13, 10]⟩ x.length k) →
  partsFrom x 2 a cuts = (r :: rows).map fun l => ⟨l.toArray⟩ := by
 intro v0'
 induction v0' with
 | nil =>
  exact fun r a cuts f ha hr e c hf => by
   have hn : x.length = x.cps.toList.length := by simp [Str.length]
   have hl : (x.cps.toList.drop a).length = x.cps.toList.length - a := List.length_drop
   rw [e] at hl
   have hl : r.length = x.cps.toList.length - a := hl
   have e' : x.cps.toList.drop a = r ++ [] := by rw [List.append_nil]; exact e
   cases cuts with
   | nil =>
    show [strSub x a x.length] = _
    congr 1
    apply Str.ext'
    apply Array.toList_inj.mp
    rw [strSub_toList, e', List.append_nil, List.take_of_length_le (by lia)]
   | cons b cuts =>
    obtain ⟨c1, c2, c3, c4⟩ := c
    refine absurd c2 (ln (hr r (.head _)) e' b c1 ?_)
    have := c2.1
    have h2 : (⟨#[13, 10]⟩ : Str).length = 2 := rfl
    lia
 | cons q rows ih' =>
  exact fun r a cuts f ha hr e c hf => by
   have hn : x.length = x.cps.toList.length := by simp [Str.length]
   have e' : x.cps.toList.drop a = r ++ ([13, 10] ++ bz [13, 10] (q :: rows)) := by rw [e, ← List.append_assoc]; rfl
   have hat : At x ⟨#[13, 10]⟩ x.length (a + r.length) := sJ.mpr ⟨bz [13, 10] (q :: rows), by rw [jU e' _ (A6' _), List.drop_length]; rfl⟩
   cases cuts with
   | nil =>
    obtain rfl : f = a := c
    exact absurd hat (hf _ (Nat.le_add_right _ _))
   | cons b cuts =>
    obtain ⟨c1, c2, c3, c4⟩ := c
    have hb : b = a + r.length := by
     refine Nat.le_antisymm (Nat.le_of_not_lt fun h => ?_) (Nat.le_of_not_lt fun h => ?_)
     ·first | exact c3 _ (Nat.le_add_right _ _) h hat | exact c2 _ (Nat.le_add_right _ _) h hat
     ·exact ln (hr r (.head _)) e' b c1 h (by assumption)
    subst hb
    have h2 : (⟨#[13, 10]⟩ : Str).length = 2 := rfl
    have e3 : x.cps.toList.drop (a + r.length + 2) = bz [13, 10] (q :: rows) := by
     rw [← List.drop_drop, jU e' _ (A6' _), List.drop_length]; rfl
    show strSub x a (a + r.length) :: partsFrom x 2 (a + r.length + 2) cuts = _
    rw [ih' q (a + r.length + 2) cuts f (by have := hat.1; assumption) (fun y hy => hr y (.tail _ hy)) e3 (by assumption) hf]
    show _ = _ :: _
    congr 1
    apply Str.ext'
    apply Array.toList_inj.mp
    rw [strSub_toList, e', show a + r.length - a = r.length by exact Nat.add_sub_cancel_left .., List.take_left]
theorem mR {x : Str} {r : List Nat} {rows : List (List Nat)} (hr : ∀ q, q ∈ r :: rows → ll q) (e : x.cps.toList = bz [13, 10] (r :: rows)) :
  partsBetween x (occurrences x ⟨#[13, 10]⟩ 0 x.length (x.length + 1)) 2 = (r :: rows).map fun l => ⟨l.toArray⟩ := by
 obtain ⟨f, h1, h2⟩ := occ_tight x ⟨#[13, 10]⟩ (by decide)
 rw [partsBetween_eq]
 exact mG rows r 0 _ f (A9' _) hr e h1 h2
end
section
open PySem.Sre
noncomputable def nxA (T : Array Nat) (p : Nat) : Option (Nat × Nat) := (nx1 T (T.size - p) p).map fun q => (q, q + 1)
theorem mt {T : Array Nat} : ∀ {d s q : Nat}, nx1 T d s = some q → s ≤ q ∧ q < s + d ∧ pJ T q = true
 | 0, s, q, e => nomatch e
 | d + 1, s, q, e => by
  unfold nx1 at e
  cases h : pJ T s with
  | true => rw [h] at e; cases e; exact ⟨A6' _, by lia, h⟩
  | false => rw [h] at e; have := mt e; exact ⟨by lia, by lia, this.2.2⟩
theorem Cm {T : Array Nat} {p n : Nat} : forSearch m6 T 0 p n false = if (decide (p > n) || decide (n - p < 1)) = true then
  { code := m6, text := T, lim := n, start := p, pc := 5, pos := p, handed := p, marks := #[], seen := ({} : Sre.Seen).add 14, answer := some false }
  else A1 T n p true false 5 p p none (({} : Sre.Seen).add 14) := ⋯
theorem xM {T : Array Nat} (hz : T.size ≤ 100000) : pD m6 T (nxA T) := fun p hp => by
 by_cases q : p = T.size
 ·subst q
  refine ⟨1, by decide, ?_⟩
  rw [show nxA T T.size = none by unfold nxA; rw [Nat.sub_self]; rfl]
  dsimp only
  rw [Cm, if_pos (by simp)]
  exact dB (K := 0) (N := 1) rfl (by rw [az rfl]; rfl) (by decide)
 ·obtain ⟨N, m', h1, h2, h3⟩ := AJ (T := T) (n := T.size) (T.size - p) p true (({} : Sre.Seen).add 14) (by exact Nat.add_sub_cancel' ‹_›)
  refine ⟨T.size + 1 + 1, by lia, ?_⟩
  rw [Cm, if_neg (by simp; lia)]
  unfold nxA
  cases e : nx1 T (T.size - p) p with
  | none =>
   rw [e] at h3
   exact dB h2 h3 (by lia)
  | some q =>
   rw [e] at h3
   have := mt e
   exact ⟨by exact A6' _, by lia, m', gu h2 h3.1 (by lia), h3.2.1, h3.2.2⟩
noncomputable def tC (T : Array Nat) (s : Nat) : Bool := T.getD s 0 == 10 || T.getD s 0 == 13
noncomputable def nx2 (T : Array Nat) : Nat → Nat → Option Nat
 | 0, _ => none
 | d + 1, s => match tC T s with
  | true => some s
  | false => nx2 T d (s + 1)
theorem lE {T : Array Nat} : ∀ {d s q : Nat}, nx2 T d s = some q → s ≤ q ∧ q < s + d ∧ tC T q = true
 | 0, s, q, e => nomatch e
 | d + 1, s, q, e => by
  unfold nx2 at e
  cases h : tC T s with
  | true => rw [h] at e; cases e; exact ⟨A6' _, by lia, h⟩
  | false => rw [h] at e; have := lE e; exact ⟨by lia, by lia, this.2.2⟩
noncomputable def nxB (T : Array Nat) (p : Nat) : Option (Nat × Nat) := (nx2 T (T.size - p) p).map fun q => (q, q + mT T T.size q)
theorem Eh {c : Nat} {seen : Sre.Seen} : inSet jo c 36 5 true seen = if (c == 10) = true then .ok (true, seen.add 16) else if (c == 13) = true then .ok (true, (seen.add 16).add 16) else .ok (false, ((seen.add 16).add 16).add 0) := ⋯
theorem lg {m : M} {k s : Nat} {seen : Sre.Seen} : Sre.M.admitted m (k + 1) s seen = if s ≥ m.lim then .ok (none, seen) else match inSet m.code (m.text.getD s 0) m.code.size 5 true seen with
  | .ok (true, seen) => .ok (some s, seen)
  | .ok (false, seen) => Sre.M.admitted m k (s + 1) seen
  | .error why => .error why := rfl
theorem DQ {m : M} {T : Array Nat} {n : Nat} (hl : m.lim = n) (hc : m.code = jo) (ht : m.text = T) : ∀ (d s : Nat) (seen : Sre.Seen), s + d = n → ∃ seen', Sre.M.admitted m (d + 1) s seen = .ok (nx2 T d s, seen') := by
 intro v0'
 induction v0' with
 | zero =>
  exact fun s seen e => ⟨seen, by rw [lg, hl, if_pos (show s ≥ n by lia)]; rfl⟩
 | succ d ih' =>
  exact fun s seen e => by
   obtain ⟨x, hx⟩ := ih' (s + 1) (((seen.add 16).add 16).add 0) (by lia)
   rw [lg, hl, hc, ht, if_neg (show ¬ s ≥ n by lia), show jo.size = 36 from rfl, Eh]
   unfold nx2 tC
   cases h1 : (T.getD s 0 == 10) with
   | true => exact ⟨_, rfl⟩
   | false =>
    rw [if_neg (by decide)]
    cases h2 : (T.getD s 0 == 13) with
    | true => exact ⟨_, rfl⟩
    | false =>
     rw [if_neg (by decide)]
     exact ⟨x, hx⟩
noncomputable def X2 (T : Array Nat) (n p : Nat) : M := BB T n p [] 0 10 p p true none none (({} : Sre.Seen).add 14)
theorem Cu {T : Array Nat} {p n : Nat} : forSearch jo T 0 p n false = if (decide (p > n) || decide (n - p < 1)) = true then
  { code := jo, text := T, lim := n, start := p, pc := 10, pos := p, handed := p, marks := #[], seen := ({} : Sre.Seen).add 14, answer := some false }
  else match Sre.M.admitted (X2 T n p) (n + 1 - p) p (({} : Sre.Seen).add 14) with
   | .ok (some s, seen) => BB T n s [F0 s true] 1 10 s s true none none seen
   | .ok (none, seen) => BB T n p [] 0 10 p p true (some false) none seen
   | .error why => (X2 T n p).stick why := ⋯
theorem xe {T : Array Nat} : pD jo T (nxB T) := fun p hp => by
 by_cases q : p = T.size
 ·subst q
  refine ⟨1, by decide, ?_⟩
  rw [show nxB T T.size = none by unfold nxB; rw [Nat.sub_self]; rfl]
  dsimp only
  rw [Cu, if_pos (by simp)]
  exact dB (K := 0) (N := 1) rfl (by rw [az rfl]; rfl) (by decide)
 ·obtain ⟨seen', hx⟩ := DQ (m := X2 T T.size p) (T := T) (n := T.size) rfl rfl rfl (T.size - p) p (({} : Sre.Seen).add 14) (by exact Nat.add_sub_cancel' ‹_›)
  refine ⟨19 + 1, by decide, ?_⟩
  have hx : Sre.M.admitted (X2 T T.size p) (T.size + 1 - p) p (({} : Sre.Seen).add 14) = .ok (nx2 T (T.size - p) p, seen') := by
   rw [show T.size + 1 - p = T.size - p + 1 by exact Nat.succ_sub ‹_›]; exact hx
  rw [Cu, if_neg (by simp; lia), hx]
  unfold nxB
  cases e : nx2 T (T.size - p) p with
  | none => exact dB (N := 1) rfl (by rw [az rfl]; rfl) (by decide)
  | some q =>
   have := lE e
   have h3 := this.2.2
   unfold tC at h3
   rw [Bool.or_eq_true, beq_iff_eq, beq_iff_eq] at h3
   obtain ⟨N, m', h1, h2, h4, h5, h6⟩ := yO (T := T) (n := T.size) (s := q) (h := q) (f := true) ⟨seen', rfl⟩ (by lia) h3
   refine ⟨?_, ?_, m', gu h2 h4 (by exact A1' ‹_› (by decide)), h5, h6⟩
   ·unfold mT; split <;> lia
   ·unfold mT; split <;> lia
end
section
open PySem.StrLaws PySem.Builtin.Str
theorem sR {nx : Nat → Option (Nat × Nat)} {T : Array Nat} {r : Str} (out : Nat → List Nat) (h : ∀ p, p ≤ T.size → match nx p with
  | none => out p = T.toList.drop p
  | some (q, e) => p ≤ q ∧ q < e ∧ e ≤ T.size ∧ out p = (T.toList.drop p).take (q - p) ++ (r.cps.toList ++ out e)) :
  ∀ k p, p ≤ T.size → T.size - p < k → ∃ ps, pcs nx T r k p = some ps ∧ (ps.map fun x => x.cps.toList).flatten = out p ∧ ps.length ≤ 2 * (T.size - p) + 1 := by
 intro v0'
 induction v0' with
 | zero =>
  exact fun p y hk => absurd hk (Nat.not_lt_zero _)
 | succ k ih' =>
  exact fun p hp hk => by
   have h1 := h p hp
   unfold pcs
   cases e : nx p with
   | none =>
    rw [e] at h1
    dsimp only at h1 ⊢
    refine ⟨_, rfl, ?_, ?_⟩
    ·by_cases q : p < T.size
     ·rw [if_pos q, h1]
      simp only [List.map_cons, List.map_nil, List.flatten_cons, List.flatten_nil, List.append_nil, Array.toList_extract, List.extract_eq_take_drop]
      rw [List.take_of_length_le (by simp)]
     ·rw [if_neg q, h1, List.drop_eq_nil_of_le (by simp; exact Nat.not_lt.mp ‹_›)]; rfl
    ·split
     ·simp
     ·simp
   | some qe =>
    obtain ⟨q, f⟩ := qe
    rw [e] at h1
    dsimp only at h1 ⊢
    obtain ⟨h2, h3, h4, h5⟩ := h1
    obtain ⟨ps, i1, i2, i3⟩ := ih' f h4 (by lia)
    rw [i1]
    refine ⟨_, rfl, ?_, ?_⟩
    ·rw [h5, ← i2]
     by_cases z : p < q
     ·rw [if_pos z]
      simp [Array.toList_extract, List.extract_eq_take_drop]
     ·rw [if_neg z, show q - p = 0 by lia]
      simp
    ·by_cases z : p < q
     ·rw [if_pos z]; simp; lia
     ·rw [if_neg z]; simp; lia
theorem f0 : ∀ ps : List Str, Txt.join "" ps = ⟨(ps.map fun x => x.cps.toList).flatten.toArray⟩ := fun ps => by
 show glued _ ps = _
 rw [glued_eq_join]
 induction ps with
 | nil => rfl
 | cons a l ih =>
  cases l with
  | nil =>
   apply Str.ext'
   show a.cps = _
   simp
  | cons b l =>
   show a ++ _ ++ Str.join "" (b :: l) = _
   rw [ih]
   apply Str.ext'
   apply Array.toList_inj.mp
   simp only [Str.cps_append, Array.toList_append, List.map_cons, List.flatten_cons]
   rw [show (Str.ofString "").cps.toList = [] from by rfl']
   simp
theorem po : ∀ (ps : List Str) (a : Nat), ps.foldl (fun a x => a + x.length + (Str.ofString "").length) a = a + ((ps.map fun x => x.cps.toList).flatten).length := by
 intro v0'
 induction v0' with
 | nil =>
  exact fun a => rfl
 | cons x l ih' =>
  exact fun a => by
   rw [List.foldl_cons, ih', show (Str.ofString "").length = 0 from by rfl']
   simp [Str.length]
   exact Nat.add_assoc ..
theorem kB {ps : List Str} (h : ((ps.map fun x => x.cps.toList).flatten).length ≤ 1000000) : JoinOk "" ps = true := by
 unfold JoinOk
 rw [List.foldl_toArray, po]
 have : Builtin.Str.tooLong (0 + ((ps.map fun x => x.cps.toList).flatten).length) = false := by
  unfold Builtin.Str.tooLong
  rw [decide_eq_false_iff_not, aX]
  lia
 rw [this]; rfl
noncomputable def dY (T : Array Nat) (p : Nat) : Bool := p == 0 || T.getD (p - 1) 0 == 10
theorem eq {T : Array Nat} {s : Nat} (h : s < T.size) : T.toList.drop s = T.getD s 0 :: T.toList.drop (s + 1) := by
 rw [List.drop_eq_getElem_cons (by simpa using h)]
 congr 1
 simp [Array.getD, h]
theorem vt {T : Array Nat} : ∀ (d s : Nat), s + d = T.size → match nx1 T d s with
  | none => ge (dY T s) (T.toList.drop s) = T.toList.drop s
  | some q => ge (dY T s) (T.toList.drop s) = (T.toList.drop s).take (q - s) ++ ([46, 46] ++ ge (dY T (q + 1)) (T.toList.drop (q + 1))) := by
 intro v0'
 induction v0' with
 | zero =>
  exact fun s e => by
   show ge _ _ = _
   rw [List.drop_eq_nil_of_le (by simp; lia)]; rfl
 | succ d ih' =>
  exact fun s e => by
   have ih := ih' (s + 1) (by lia)
   have hs : dY T (s + 1) = (T.getD s 0 == 10) := by unfold dY; simp
   unfold nx1
   have hh : pJ T s = (dY T s && T.getD s 0 == 46) := rfl
   rw [eq (by lia : s < T.size)]
   cases h : pJ T s with
   | true =>
    dsimp only
    have h' := h
    rw [hh] at h
    rw [ge, if_pos h, Nat.sub_self, List.take_zero, hs]
    have : T.getD s 0 = 46 := by
     have := (C4' h).2
     exact beq_iff_eq.mp this
    rw [this]; rfl
   | false =>
    rw [hh] at h
    dsimp only
    rw [ge, if_neg (by rw [h]; decide), ← hs]
    cases g : nx1 T d (s + 1) with
    | none => rw [g] at ih; dsimp only at ih ⊢; rw [ih]
    | some q =>
     rw [g] at ih
     dsimp only at ih ⊢
     have := mt g
     rw [ih, show q - s = q - (s + 1) + 1 by lia, List.take_succ_cons]; rfl
theorem xI {T : Array Nat} : ∀ (d s : Nat), s + d = T.size → match nx2 T d s with
  | none => nl2 (T.toList.drop s) = T.toList.drop s
  | some q => nl2 (T.toList.drop s) = (T.toList.drop s).take (q - s) ++ ([13, 10] ++ nl2 (T.toList.drop (q + mT T T.size q))) := by
 intro v0'
 induction v0' with
 | zero =>
  exact fun s e => by
   show nl2 _ = _
   rw [List.drop_eq_nil_of_le (by simp; lia)]; rfl
 | succ d ih' =>
  exact fun s e => by
   have ih := ih' (s + 1) (by lia)
   unfold nx2
   have hh : tC T s = (T.getD s 0 == 10 || T.getD s 0 == 13) := rfl
   rw [eq (by lia : s < T.size)]
   cases h : tC T s with
   | true =>
    rw [hh] at h
    dsimp only
    rw [Nat.sub_self, List.take_zero, List.nil_append]
    by_cases z : s + 1 < T.size
    ·rw [eq z, nl2]
     by_cases y : T.getD s 0 = 13 ∧ T.getD (s + 1) 0 = 10
     ·rw [if_pos (by rw [y.1, y.2]; rfl), show mT T T.size s = 2 from if_pos ⟨y.1, z, y.2⟩]; rfl
     ·rw [if_neg (by simpa using y), if_pos h, show mT T T.size s = 1 from if_neg fun q => y ⟨q.1, q.2.2⟩, eq z]; rfl
    ·rw [List.drop_eq_nil_of_le (by simp; exact Nat.not_lt.mp ‹_› : T.toList.length ≤ s + 1), nl2, if_pos h, show mT T T.size s = 1 from if_neg fun q => z q.2.1,
      List.drop_eq_nil_of_le (by simp; exact Nat.not_lt.mp ‹_› : T.toList.length ≤ s + 1)]
     rfl
   | false =>
    rw [hh] at h
    have h := Bool.or_eq_false_iff.mp h
    dsimp only
    rw [lG ⟨beq_eq_false_iff_ne.mp h.1, beq_eq_false_iff_ne.mp h.2⟩]
    cases g : nx2 T d (s + 1) with
    | none => rw [g] at ih; dsimp only at ih ⊢; rw [ih]
    | some q =>
     rw [g] at ih
     dsimp only at ih ⊢
     have := lE g
     rw [ih, show q - s = q - (s + 1) + 1 by lia, List.take_succ_cons]; rfl
noncomputable def c7 (x : Str) : Str := ⟨(ge true x.cps.toList).toArray⟩
noncomputable def cO (x : Str) : Str := ⟨(nl2 x.cps.toList).toArray⟩
theorem u9 {x : Str} (hz : x.cps.size ≤ 100000) (ho : (c7 x).cps.size ≤ 1000000) : ∃ ps, pcs (nxA x.cps) x.cps ".." (x.cps.size + 1) 0 = some ps ∧ Txt.join "" ps = c7 x ∧ JoinOk "" ps = true ∧ ps.length ≤ 2 * x.cps.size + 1 := by
 obtain ⟨ps, h1, h2, h3⟩ := sR (nx := nxA x.cps) (T := x.cps) (r := "..") (fun p => ge (dY x.cps p) (x.cps.toList.drop p)) (fun p hp => by
  have := vt (T := x.cps) (x.cps.size - p) p (by exact Nat.add_sub_cancel' ‹_›)
  unfold nxA
  cases g : nx1 x.cps (x.cps.size - p) p with
  | none => rw [g] at this; exact this
  | some q =>
   rw [g] at this
   have k := mt g
   exact ⟨k.1, by exact A6' _, by lia, this⟩) (x.cps.size + 1) 0 (A9' _) (by exact A6' _)
 have e : (ps.map fun x => x.cps.toList).flatten = (c7 x).cps.toList := by rw [h2]; rfl
 refine ⟨ps, h1, ?_, kB ?_, by assumption⟩
 ·rw [f0, e]
 ·rw [e]; simpa using ho
theorem tT {x : Str} (hz : x.cps.size ≤ 100000) (ho : (cO x).cps.size ≤ 1000000) : ∃ ps, pcs (nxB x.cps) x.cps "\r\n" (x.cps.size + 1) 0 = some ps ∧ Txt.join "" ps = cO x ∧ JoinOk "" ps = true ∧ ps.length ≤ 2 * x.cps.size + 1 := by
 obtain ⟨ps, h1, h2, h3⟩ := sR (nx := nxB x.cps) (T := x.cps) (r := "\r\n") (fun p => nl2 (x.cps.toList.drop p)) (fun p hp => by
  have := xI (T := x.cps) (x.cps.size - p) p (by exact Nat.add_sub_cancel' ‹_›)
  unfold nxB
  cases g : nx2 x.cps (x.cps.size - p) p with
  | none => rw [g] at this; exact this
  | some q =>
   rw [g] at this
   have k := lE g
   refine ⟨k.1, ?_, ?_, this⟩
   ·unfold mT; split <;> lia
   ·unfold mT; split <;> lia) (x.cps.size + 1) 0 (A9' _) (by exact A6' _)
 have e : (ps.map fun x => x.cps.toList).flatten = (cO x).cps.toList := by rw [h2]; rfl
 refine ⟨ps, h1, ?_, kB ?_, by assumption⟩
 ·rw [f0, e]
 ·rw [e]; simpa using ho
end
section
noncomputable def gw (o : Obj) : Array Value := match o.data with
 | .seq vs _ => vs
 | _ => #[]
theorem so {w : World} {h : Heap} {a c : Addr} {oa oc : Obj} (st : StD w h) (na : a ≠ nat_lit 267) (nc : c ≠ nat_lit 267) (h1 : (H1 w.params).get? a = some oa) (h2 : (H1 w.params).get? c = some oc) (q1 : oa.cls = .type "re.Pattern") (q2 : oa.data = .fields (mL oa)) (q3 : oa.dict = none) (q4 : (mL oa).getD 5 .none = .ref c)
  (q5 : oc.data = .seq (gw oc) 0) (q6 : Builtin.Re.reRawNat ((mL oa).getD 6 .none) = 0) (q7 : Builtin.Re.reRawNat ((mL oa).getD 2 .none) = 0) : eS h a (mL oa) (gw oc) :=
 ⟨⟨oa, st _ _ na h1, q1, q2, q3⟩, ⟨c, oc, 0, q4, st _ _ nc h2, q5⟩, q6, q7⟩
theorem Ck {w : World} {h : Heap} (st : StD w h) : eS h (nat_lit 234) (mL CL) (gw Bp) := so (c := nat_lit 233) st (by decide) (by decide) ⋯ ⋯ ⋯ ⋯ ⋯ ⋯ ⋯ ⋯ ⋯
theorem Cx {w : World} {h : Heap} (st : StD w h) : eS h (nat_lit 239) (mL CK) (gw Am) := so (c := nat_lit 238) st (by decide) (by decide) ⋯ ⋯ ⋯ ⋯ ⋯ ⋯ ⋯ ⋯ ⋯
theorem wV : da (gw Bp) = m6 := ⋯
theorem wy : da (gw Am) = jo := ⋯
theorem lF {D : Std} {a : Addr} {fs cs : Array Value} {x r : Str} {nx : Nat → Option (Nat × Nat)} (F : pD (da cs) x.cps nx) (hz : x.cps.size ≤ 100000) (hr : r.cps.contains 92 = false) {k : Nat} {ps : List Str} (e : pcs nx x.cps r k 0 = some ps) (hn : ps.length ≤ 100000) (hj : JoinOk "" ps = true)
  {M : Ap} {s : Shared} {A : Around} {E : Ee} {tr t : Tok} (p : eS s.heap a fs cs) :
  wpAny (model D.prog D.w) A (call (.builtin "re.Pattern.sub") [.ref a, .str r tr, .str x t]) (Got D.prog D.w M s (.str (Txt.join "" ps))) E s := by
 obtain ⟨o, h1, h2, h3⟩ := p.at
 exact call_meets bV ⟨o, h1, h2⟩ eG (d4 _ _ _) (nR F hz hr e hn hj) ⟨p, fun t' s' k => ⟨k, .str _ _⟩⟩
noncomputable def nm246 : List (Str × NameKind) := (ay vW).scope.names
section
variable {w : World} {n : Nat}
theorem mD {x : Str} (h1 : x.cps.size ≤ 30000) (h2 : (cO x).cps.size ≤ 30000) (h3 : (c7 (cO x)).cps.size ≤ 30000) : gy (DD w) n { baseE nm246 with loc := [("data", .str x)] } (av (ay vW)) (.str (c7 (cO x))) := by
 obtain ⟨ps, a1, a2, a3, a4⟩ := tT (x := x) (by exact A1' ‹_› (by decide)) (by exact A1' ‹_› (by decide))
 obtain ⟨qs, b1, b2, b3, b4⟩ := u9 (x := cO x) (by exact A1' ‹_› (by decide)) (by exact A1' ‹_› (by decide))
 refine g9 (bR (dm (jS (T := "re.Pattern") (id := "re.Pattern.sub") (p := nat_lit 234) (vs := [.str "..", .str (cO x)]) (dn ?_ ?_ ?_) ?_ ?_
  (ai (aK (Constant_str (aW _ _ _))) (ai (jS (T := "re.Pattern") (id := "re.Pattern.sub") (p := nat_lit 239) (vs := [.sta (.str "\r\n" (nat_lit 2207)), .str x]) (dn ?_ ?_ ?_) ?_ ?_
   (ai (dn ?_ ?_ ?_) (ai (ah ?_ ?_ ?_) al)) bf bV cZ ?_ ?_) al))
  bf bV cZ ?_ ?_)))
 all_goals first | kernel_rfl! | decide | skip
 ·exact fun h st => let ⟨o, a, b, _, c⟩ := (Cx st).at; ⟨o, a, b, c⟩
 ·intro M s A E us hA st hd rv
  obtain ⟨u, v, rfl, r1, r2⟩ := rv.two
  have e := r1.sta_inv
  subst e
  obtain ⟨t, rfl⟩ := r2.str_inv
  exact a2 ▸ lF (wy ▸ xe) (by exact A1' ‹_› (by decide)) ⋯ a1 (by lia) a3 (Cx st)
 ·exact fun h st => let ⟨o, a, b, _, c⟩ := (Ck st).at; ⟨o, a, b, c⟩
 ·intro M s A E us hA st hd rv
  obtain ⟨u, v, rfl, r1, r2⟩ := rv.two
  obtain ⟨tr, rfl⟩ := r1.str_inv
  obtain ⟨t, rfl⟩ := r2.str_inv
  exact b2 ▸ lF (wV ▸ xM (by exact A1' ‹_› (by decide))) (by exact A1' ‹_› (by decide)) ⋯ b1 (by lia) b3 (Ck st)
theorem rY {x : Str} (h1 : x.cps.size ≤ 30000) (h2 : (cO x).cps.size ≤ 30000) (h3 : (c7 (cO x)).cps.size ≤ 30000) : rD (DD w) (n + 1) "quotedata" [.str x] (.str (c7 (cO x))) := fun {_ s _ _ _ _} hA hst hd hmb hbs e rv => by
 cases e.symm.trans (show (DD w).gl "quotedata" = some (.ref (nat_lit 246)) by rfl')
 refine ⟨.inr ⟨nat_lit 246, vW, ay vW, rfl, hst _ _ (by decide) ⋯, by rfl'⟩, ?_⟩
 obtain ⟨v, rfl, r1⟩ := rv.one
 exact gb (ag := ⟨[v], []⟩) Ah hA hst hd hmb hbs (ps := ["data"]) (vals := [v]) (xs := [.str x]) rfl ⋯ (.cons r1 .nil) (aV ⋯) (mD h1 h2 h3)
end
end
section
section
variable {D : Std} {n : Nat} {ea e1 : ao}
noncomputable def oO (P : Around → Env → Prop) (Z : Env → Heap → Prop) (D : Std) (n : Nat) (ea : ao) (body : List Stmt) (r : V) : Prop := ∀ {M F W : Ap} {env : Env} {s : Shared} {A : Around} {E : Ee}, bb n A → P A env → Rel D M F W env ea s →
 wpAny (model D.prog D.w) A (execs body env) (fun f s' => ∃ u, f = .ret u ∧ aq (fun b => W b ∨ s.heap.objs.size ≤ b) s s' ∧ (∀ M₀ : Ap, (∀ b, M₀ b → M b ∧ ¬ F b) → VR D.prog D.w M₀ s'.heap u r) ∧ Z env s'.heap) E s
theorem dR {P : Around → Env → Prop} {Z : Env → Heap → Prop} {x : Str} {p : Pos} {value : Expr} {pos : Pos} {mv : MV} {body : List Stmt} {r : V} (hx : cI ea x = true) (hmw : ea.mw = true) (hc : gG value)
  (hv : ∀ {M F W : Ap} {env : Env} {s : Shared} {A : Around} {E : Ee}, bb n A → Rel D M F W env ea s → wpAny (model D.prog D.w) A (eval value env) (fun u s' => s.heap.objs.size ≤ s'.heap.objs.size ∧ Keeps s s' ∧ ∃ a l, u = .ref a ∧ s.heap.objs.size ≤ l ∧ l < s'.heap.objs.size ∧ cj D (fun b => M b ∨ b = l) s'.heap a l mv) E s)
  (hb : oO P Z D n (cF ea x mv) body r) : oO P Z D n ea (.Assign [.Name x p] value pos :: body) r := fun {M F W env s A E} hA hP R => by
 refine B2' (yz R hx hmw hc (hv hA R) fun l s₁ h1 hz k R₁ => ?_)
 refine au (hb hA hP R₁) fun f s' g => ?_
 obtain ⟨u, rfl, kw, rv, zz⟩ := g
 refine ⟨u, rfl, (k.sub fun b q => .inl q).trans (kw.sub fun b q => ?_), fun M₀ h0 => rv M₀ fun b q => ?_, zz⟩
 ·rcases q with (q | rfl) | q
  ·exact .inl q
  ·exact .inr h1
  ·exact .inr (A1' hz q)
 ·obtain ⟨q1, q2⟩ := h0 b q
  refine ⟨.inl q1, fun q3 => ?_⟩
  rcases q3 with q3 | rfl
  ·exact q2 q3
  ·exact A7' _ (A2' (R.dom _ q1) h1)
theorem An {T : Tab D n} {X : Fx D n} {ke k : Nat} {st : Stmt} {o : Out} (h : (m4 T X (evD T ke) (exD T X ke k) ea st).map (·.1) = some o) : eQ D n ea st o := by
 cases q : m4 T X (evD T ke) (exD T X ke k) ea st with
 | none => rw [q] at h; cases h
 | some a => rw [q] at h; cases h; exact a.2
end
section
variable {w : World} {n : Nat} {ea : ao}
theorem rn {P : Around → Env → Prop} {Z : Env → Heap → Prop} {x f : Str} {p fp pos cpos : Pos} {body : List Stmt} {r : V} (hx : cI ea x = true) (hmw : ea.mw = true) (q1 : lk ea.names f = some .globalImplicit) (q2 : sq f "__debug__" = false) (q3 : lk glT f = some (.ref (nat_lit 175)))
  (hb : oO P Z (DD w) (n + 1 + 1 + 1) (cF ea x (.hdr [])) body r) : oO P Z (DD w) (n + 1 + 1 + 1) ea (.Assign [.Name x p] (.Call (.Name f fp) [] [] cpos) pos :: body) r :=
 dR hx hmw (fun z z z z => rfl) (fun hA R => pR hA R q1 q2 q3) hb
end
end
section
section
variable (w : World) (n : Nat)
noncomputable def bnT (x : Str) : Option { b : Bn // (DD w).gl x = some b.val } :=
 match h : sq x "len" with
 | true => some ⟨.len, by rw [aN.mp h]; rfl'⟩
 | false => match h : sq x "sum" with
 | true => some ⟨.sum, by rw [aN.mp h]; rfl'⟩
 | false => match h : sq x "min" with
 | true => some ⟨.min, by rw [aN.mp h]; rfl'⟩
 | false => match h : sq x "max" with
 | true => some ⟨.max, by rw [aN.mp h]; rfl'⟩
 | false => match h : sq x "chr" with
 | true => some ⟨.chr, by rw [aN.mp h]; rfl'⟩
 | false => match h : sq x "ord" with
 | true => some ⟨.ord, by rw [aN.mp h]; rfl'⟩
 | false => match h : sq x "str" with
 | true => some ⟨.str, by rw [aN.mp h]; rfl'⟩
 | false => match h : sq x "int" with
 | true => some ⟨.int, by rw [aN.mp h]; rfl'⟩
 | false => match h : sq x "bytes" with
 | true => some ⟨.bytes, by rw [aN.mp h]; rfl'⟩
 | false => none
noncomputable def TB : Tab (DD w) n where
 cf := fun x xs => match bnT w x with
  | some b => match pf (DD w) b.1 xs with
   | some r => some ⟨r.1, gm.cf r.2 b.2⟩
   | none => none
  | none => none
 mf := fun m x xs => match x with
  | .str x => zm (DD w) n m x xs
  | _ => none
 mm := fun z z z => none
 md := fun z z => none
 sp := fun z z => none
 it := Bv (show (DD w).gl "range" = some (.type "range") by rfl') (show (DD w).gl "enumerate" = some (.type "enumerate") by rfl')
noncomputable def FB : Fx (DD w) n where
 ms := fun z z z => none
 sp := fun z z z => none
 st := fun z z z z => none
end
noncomputable def ap : List Stmt := av (ay uN)
noncomputable def nmL : List (Str × NameKind) := (ay uN).scope.names
noncomputable def baseL : ao := { baseE nmL with tw := true }
noncomputable def aa (b : List Stmt) (k : Nat) : Stmt := b.getD k (.Pass ⟨0, 0, 0, 0⟩)
noncomputable def an (x : Stmt) : List Stmt := (sp x).b
noncomputable def aw (x : Stmt) : Expr := (sp x).t
noncomputable def af (x : Stmt) : Expr := (sp x).v
noncomputable def gen (e : Expr) : Comprehension := (xp e).gs.getD 0 ⟨noX, noX, [], 0⟩
noncomputable def aj (k : Nat) (e : Expr) : Expr := (xp e).es.getD k noX
noncomputable def dZ (e : Expr) : Expr := (xp e).f
noncomputable def bS (e : Expr) : Expr := dZ (dZ e)
noncomputable def kOf (e : Expr) : Nat := (xp e).k
noncomputable def a5 (e : Expr) : Expr := aj 0 e
noncomputable def mW (e : Expr) : Expr := aj 1 e
noncomputable def cG (e : Expr) : Expr := (gen e).target
noncomputable def cIt (e : Expr) : Expr := (gen e).iter
noncomputable def eM (e : Expr) : List Expr := (gen e).ifs
noncomputable def cSc (e : Expr) : Scope := (xp e).sc
noncomputable def bv (k : Nat) (e : Expr) : Expr := aj k e
noncomputable def sOb (e : Expr) : Expr := aj 0 e
noncomputable def sIx (e : Expr) : Expr := aj 1 e
noncomputable def gh (k : Nat) (e : Expr) : Expr := aj k e
end
section
noncomputable def Al (xs : List Int) : Lv := [("script", V.list (xs.map V.int))]
noncomputable def E0 (xs : List Int) : ao := { baseL with cel := Al xs }
noncomputable def E1 (xs : List Int) (c0 c1 : Int) : ao := { baseL with loc := [("cells", V.list [.int c0, .int c1])], cel := Al xs }
noncomputable def cC : Expr := af (aa ap 0)
noncomputable def cS : Expr := aj 0 (aj 1 (a5 cC))
theorem Aq : cC = .ListComp (a5 cC) [⟨cG cC, cIt cC, [], 0⟩] (cSc cC) (cC.pos) := ⋯
theorem zN : cS = .ListComp (a5 cS) [⟨cG cS, cIt cS, [], 0⟩] (cSc cS) (cS.pos) := ⋯
theorem fg {D : Std} {n : Nat} {ea : ao} {T : Tab D n} {k : Nat} {t e : Expr} {xs : List V} (h : (itC T (evD T k) ea t e).map (·.1) = some xs) : dP D n ea t e xs := by
 cases q : itC T (evD T k) ea t e with
 | none => rw [q] at h; cases h
 | some a => rw [q] at h; cases h; exact a.2
noncomputable def lwE (xs : List Int) (p : Option (Int × Int)) : ao := { cenvOf (E0 xs) (cSc cC) with loc := match p with | none => [] | some p => [("k", .int p.1), ("start", .int p.2)] }
noncomputable def lwS (xs : List Int) (p : Int × Int) (q : Option Int) : ao := { cenvOf (lwE xs (some p)) (cSc cS) with loc := match q with | none => [] | some x => [("x", .int x)] }
noncomputable def fG (xs : List Int) (k : Int) : List Int := (sliceRange (sliceBounds (some k) (some 60) (some 2) xs.length).1 (sliceBounds (some k) (some 60) (some 2) xs.length).2.1 (sliceBounds (some k) (some 60) (some 2) xs.length).2.2).filterMap (xs[·]?)
theorem oi (xs : List Int) (k : Int) : eg (xs.map .int) (some k) (some 60) (some 2) = (fG xs k).map .int := by
 unfold eg fG
 rw [List.length_map]
 generalize sliceRange _ _ _ = js
 induction js with
 | nil => rfl
 | cons j js ih =>
  rw [List.filterMap_cons, List.filterMap_cons, List.getElem?_map]
  cases xs[j]? with
  | none => exact ih
  | some v => show _ :: _ = _ :: _; rw [ih]
theorem mA (xs : List Int) (k : Int) (h : xs.length ≤ 63) (hk : k = 0 ∨ k = 1) : (fG xs k).length ≤ 100000 := by
 refine A1' (List.length_filterMap_le _ _) ?_
 have key : ∀ m : Fin 64, ∀ k : Fin 2, (sliceRange (sliceBounds (some (k.1 : Int)) (some 60) (some 2) m.1).1 (sliceBounds (some (k.1 : Int)) (some 60) (some 2) m.1).2.1 (sliceBounds (some (k.1 : Int)) (some 60) (some 2) m.1).2.2).length ≤ 100000 := by decide +kernel
 rcases hk with rfl | rfl
 ·exact key ⟨xs.length, by exact Nat.lt_succ_of_le ‹_›⟩ 0
 ·exact key ⟨xs.length, by exact Nat.lt_succ_of_le ‹_›⟩ 1
section
variable {w : World} {n : Nat}
theorem qW {xs : List Int} {p : Int × Int} : ∀ (zs : List Int) (q : Option Int), cT (DD w) n (a5 cS) (cG cS) [] (lwS xs p q) (zs.map .int) ((zs.map fun x => x.fmod 1000000000000).map .int) := by
 intro v0'
 induction v0' with
 | nil =>
  exact fun y => .nil
 | cons z zs ih' =>
  exact fun q => by
   refine .take (e1 := lwS xs p (some z)) (by cases q <;> exact aI ⋯) aE (aF (T := TB w n) (k := 5) ⋯) (ih' (some z))
theorem gJ {xs : List Int} (h : xs.length ≤ 63) {k a : Int} (hk : k = 0 ∨ k = 1) : ∃ c, Ev (DD w) n (lwE xs (some (k, a))) (a5 cC) (.int c) := by
 have i1 : Ev (DD w) n (lwE xs (some (k, a))) cS (.list (((fG xs k).map fun x => x.fmod 1000000000000).map .int)) := by
  rw [zN]
  refine pe (xs := (fG xs k).map .int) ⋯ ?_ (by rw [List.length_map]; exact mA xs k h hk) (qW _ none)
  refine dI (v := .list ((fG xs k).map .int)) ?_ rfl
  rw [← oi]
  exact uj (aD ⋯ ⋯ ⋯) (d8 (ah ⋯ ⋯ ⋯)) (d8 (aK (wpAny_Constant_int (aP _ _ _)))) (d8 (aK (wpAny_Constant_int (aP _ _ _)))) (ft (by rw [List.length_map]; exact A1' ‹_› (by decide)) (by decide))
 refine ⟨a + ((fG xs k).map fun x => x.fmod 1000000000000).sum, eh (ah (v := .int a) ?_ ?_ ?_) (ct (vs := [_]) (fv := .builtin "sum") ?_ ?_ ?_ (ai i1 al) (gm.cf xW ⋯)) (ee fun z z => AutoIntOps.add_0 (aP _ _ _))⟩
 all_goals rfl'
theorem Dm {xs : List Int} (h : xs.length ≤ 63) : ∃ c0 c1 : Int, eQ (DD w) n (E0 xs) (aa ap 0) (.next (E1 xs c0 c1)) := by
 obtain ⟨c0, h0⟩ := gJ (w := w) (n := n) h (k := 0) (a := 85) (.inl rfl)
 obtain ⟨c1, h1⟩ := gJ (w := w) (n := n) h (k := 1) (a := 2138) (.inr rfl)
 refine ⟨c0, c1, ?_⟩
 have i1 : Ev (DD w) n (E0 xs) cC (.list [.int c0, .int c1]) := by
  rw [Aq]
  refine pe (xs := fq 0 [.int 85, .int 2138]) ⋯ ?_ (by decide) (.take (e1 := lwE xs (some (0, 85))) (aI ⋯) aE h0 (.take (e1 := lwE xs (some (1, 2138))) (aI ⋯) aE h1 .nil))
  exact fg (T := TB w n) (k := 5) ⋯
 have i2 : dG (DD w) (E0 xs) "cells" (.list [.int c0, .int c1]) (E1 xs c0 c1) := aO ⋯
 have i4 : eQ (DD w) n (E0 xs) (.Assign [.Name "cells" (aw (aa ap 0)).pos] cC (aa ap 0).pos) (.next (E1 xs c0 c1)) := bA i1 i2
 rw [show aa ap 0 = .Assign [.Name "cells" (aw (aa ap 0)).pos] cC (aa ap 0).pos by rfl']
 exact @i4
end
end
section
section
variable {prog : Program} {w : World} {D : Std} {n : Nat} {ea : ao}
abbrev SOk (x : Str) : Prop := PyData.strOk x = true
theorem aM {x : Str} (h : SOk x) : eP prog w n (.str x) (.str x) := ⟨by unfold PyData.canLay0; exact h, A9' _, fun r => by obtain ⟨t, rfl⟩ := r.str_inv; exact ⟨_, .str x t⟩⟩
theorem bP {α : Type} {f : α → V} {g : α → PyData} : ∀ {l : List α}, (∀ x ∈ l, eP prog w n (f x) (g x)) → iI prog w n (l.map f) (l.map g)
 | [], _ => ch
 | x :: _, h => ba (h x (.head _)) (bP fun y hy => h y (.tail _ hy))
theorem io {x : Str} : ∀ {l : List Str}, ((l.map PyData.str).any fun y => PyData.eqv y (.str x)) = l.contains x
 | [] => rfl
 | y :: l => by
  rw [List.map_cons, List.any_cons, io, List.contains_cons]
  congr 1
  show (y == x) = (x == y)
  rw [Bool.eq_iff_iff, beq_iff_eq, beq_iff_eq]
  exact eq_comm
theorem l6 {x : Str} {l : List Str} (hx : SOk x) (hl : ∀ y ∈ l, SOk y) : a6 prog w .NotIn (.str x) (.list (l.map .str)) (!l.contains x) :=
 io ▸ (gV (aM hx) (bP fun y hy => aM (hl y hy))).2
end
abbrev P2 := Nat × Nat
noncomputable def am (p : P2) : Str := ⟨#[p.1, p.2]⟩
noncomputable def tV (ps : List P2) : V := .list ((ps.map am).map .str)
noncomputable def Ltr (p : P2) : Prop := p.1 < 128 ∧ p.2 < 128
theorem cx {p q : P2} (h : am p = am q) : p = q := by
 obtain ⟨a, b⟩ := p
 obtain ⟨c, d⟩ := q
 simp only [am, Str.mk.injEq] at h
 have h := Array.toList_inj.mpr h
 cases h
 rfl
theorem dA {p : P2} (h : Ltr p) : SOk (am p) := by
 show (#[p.1, p.2]).all _ = true
 have h1 := h.1
 have h2 := h.2
 simp
 lia
theorem gS {p : P2} : ∀ {ps : List P2}, (ps.map am).contains (am p) = ps.contains p
 | [] => rfl
 | q :: ps => by
  rw [List.map_cons, List.contains_cons, List.contains_cons, gS]
  congr 1
  rw [Bool.eq_iff_iff, beq_iff_eq, beq_iff_eq]
  exact ⟨cx, fun h => by rw [h]⟩
noncomputable def T1 (i j k : Nat) : List P2 := [(97, 98), (97 + i, 99), (97 + j, 100), (97 + k, 101)]
noncomputable def Q9 : List P2 := [(97, 99), (98, 99), (97, 100), (98, 100), (99, 100), (97, 101), (98, 101), (99, 101), (100, 101)]
noncomputable def bit (c : Int) (k : Nat) : Bool := ((c.fdiv 24).fdiv (4 ^ k)).fmod 4 == 3
noncomputable def grow (b : Bool) (p : P2) (ps : List P2) : List P2 := if (b && !ps.contains p) = true then ps ++ [p] else ps
noncomputable def tie : (Nat → Bool) → Nat → List P2 → List P2 → List P2
 | _, _, [], ps => ps
 | b, k, q :: qs, ps => tie b (k + 1) qs (grow (b k) q ps)
noncomputable def E2 (xs : List Int) (c0 c1 : Int) (ps : List P2) (l : Option (Int × P2)) : ao :=
 { baseL with loc := ("cells", V.list [.int c0, .int c1]) :: (match l with | none => [] | some l => [("k", .int l.1), ("pair", .str (am l.2))]), cel := [("script", V.list (xs.map V.int)), ("tied", tV ps)] }
section
variable {w : World} {n : Nat} {xs : List Int} {c0 c1 : Int}
theorem tD {ea : ao} {e : Expr} {c : Const} {kk : Nat} {cp p : Pos} {i : Int} {x : Str} (hx : Ev (DD w) n ea (.Constant c kk cp) (.str x)) (he : Ev (DD w) n ea e (.int i)) (h1 : fitsSsize i = true) (h2 : (Txt.charAt x i).isSome = true) : Ev (DD w) n ea (.Subscript (.Constant c kk cp) e p) (.str (Txt.item x i)) :=
 d6 hx he (oB h1 h2)
noncomputable def el1 (k : Nat) : Expr := aj k (af (aa ap 1))
theorem uT {e ix : Expr} {x y : Str} {v : Int} {p1 p2 p3 p4 : Pos} {k1 k2 : Nat} (he : e = .BinOp (.Subscript (.Constant (.str x) k1 p1) ix p2) .Add (.Constant (.str y) k2 p3) p4) (hv : Ev (DD w) n (E1 xs c0 c1) ix (.int v)) (h1 : fitsSsize v = true) (h2 : (Txt.charAt x v).isSome = true) {r : P2} (h3 : Txt.item x v ++ y = am r) : Ev (DD w) n (E1 xs c0 c1) e (.str (am r)) := by
 rw [he, ← h3]
 refine eh (tD (aK (Constant_str (aW _ _ _))) hv h1 h2) (aK (Constant_str (aW _ _ _))) (fz ?_)
 have := congrArg Str.length h3
 rw [Str.length_append] at this
 rw [this]
 show 2 ≤ _
 decide
theorem Ek {i j k : Nat} (h1 : c0.fmod 2 = i) (h2 : (c0.fdiv 2).fmod 3 = j) (h3 : (c0.fdiv 6).fmod 4 = k) (i1 : i < 2) (i2 : j < 3) (i3 : k < 4) : eQ (DD w) n (E1 xs c0 c1) (aa ap 1) (.next (E2 xs c0 c1 (T1 i j k) none)) := by
 have a0 : Ev (DD w) n (E1 xs c0 c1) (el1 0) (.str (am (97, 98))) := aF (T := TB w n) (k := 5) ⋯
 have a1 : Ev (DD w) n (E1 xs c0 c1) (el1 1) (.str (am (97 + i, 99))) := by
  refine uT (v := i) rfl (h1 ▸ aF (T := TB w n) (k := 9) ⋯) ?_ ?_ ?_
  all_goals (rcases i with _ | _ | i <;> first | kernel_rfl! | lia)
 have a2 : Ev (DD w) n (E1 xs c0 c1) (el1 2) (.str (am (97 + j, 100))) := by
  refine uT (v := j) rfl (h2 ▸ aF (T := TB w n) (k := 9) ⋯) ?_ ?_ ?_
  all_goals (rcases j with _ | _ | _ | i <;> first | kernel_rfl! | lia)
 have a3 : Ev (DD w) n (E1 xs c0 c1) (el1 3) (.str (am (97 + k, 101))) := by
  refine uT (v := k) rfl (h3 ▸ aF (T := TB w n) (k := 9) ⋯) ?_ ?_ ?_
  all_goals (rcases k with _ | _ | _ | _ | i <;> first | kernel_rfl! | lia)
 have i2 : dG (DD w) (E1 xs c0 c1) "tied" (tV (T1 i j k)) (E2 xs c0 c1 (T1 i j k) none) := aO ⋯
 have i4 : eQ (DD w) n (E1 xs c0 c1) (.Assign [.Name "tied" (aw (aa ap 1)).pos] (.List [el1 0, el1 1, el1 2, el1 3] (af (aa ap 1)).pos) (aa ap 1).pos) (.next (E2 xs c0 c1 (T1 i j k) none)) :=
  bA (eW (by decide) (ai a0 (ai a1 (ai a2 (ai a3 al))))) i2
 rw [show aa ap 1 = .Assign [.Name "tied" (aw (aa ap 1)).pos] (.List [el1 0, el1 1, el1 2, el1 3] (af (aa ap 1)).pos) (aa ap 1).pos by rfl']
 exact @i4
end
end
section
section
variable {w : World} {n : Nat} {xs : List Int} {c0 c1 : Int}
noncomputable def b2T : Expr := af (aa (an (aa ap 2)) 0)
noncomputable def b2C : Expr := aj 0 b2T
noncomputable def b2N : Expr := aj 1 b2T
theorem AK : an (aa ap 2) = [.If (.BoolOp .And [b2C, b2N] b2T.pos) (an (aa (an (aa ap 2)) 0)) [] (aa (an (aa ap 2)) 0).pos] := ⋯
theorem xc {k : Nat} (hk : k < 9) {ps : List P2} {p : P2} : Ev (DD w) n (E2 xs c0 c1 ps (some (k, p))) b2C (.bool (bit c0 k)) := by
 rcases k with _ | _ | _ | _ | _ | _ | _ | _ | _ | k
 all_goals first | lia | exact aF (T := TB w n) (k := 12) ⋯
theorem xE {k : Nat} (hk : k < 9) {ps : List P2} {p : P2} (hp : Ltr p) (hl : ∀ q ∈ ps, Ltr q) (hn : ps.length ≤ 9000) : dF (DD w) n (E2 xs c0 c1 ps (some (k, p))) [.If (.BoolOp .And [b2C, b2N] b2T.pos) (an (aa (an (aa ap 2)) 0)) [] (aa (an (aa ap 2)) 0).pos] (.next (E2 xs c0 c1 (grow (bit c0 k) p ps) (some (k, p)))) := by
 have hb := xc (w := w) (n := n) (xs := xs) (c0 := c0) (c1 := c1) hk (ps := ps) (p := p)
 have hc : Ev (DD w) n (E2 xs c0 c1 ps (some (k, p))) b2N (.bool (!ps.contains p)) := by
  have e : a6 (DD w).prog (DD w).w .NotIn (.str (am p)) (tV ps) (!ps.contains p) := gS (p := p) (ps := ps) ▸ l6 (dA hp) fun y hy => by
   obtain ⟨q, hq, rfl⟩ := C5' hy
   exact dA (hl q hq)
  refine bo (ah ?_ ?_ ?_) (aD ?_ ?_ ?_) e
  all_goals rfl'
 have key : ∀ c : Bool, Ev (DD w) n (E2 xs c0 c1 ps (some (k, p))) (.BoolOp .And [b2C, b2N] b2T.pos) (.bool c) → (bit c0 k && !ps.contains p) = c → dF (DD w) n (E2 xs c0 c1 ps (some (k, p))) [.If (.BoolOp .And [b2C, b2N] b2T.pos) (an (aa (an (aa ap 2)) 0)) [] (aa (an (aa ap 2)) 0).pos] (.next (E2 xs c0 c1 (grow (bit c0 k) p ps) (some (k, p)))) := by
  intro c he hc
  cases c with
  | false =>
   have : grow (bit c0 k) p ps = ps := by unfold grow; rw [if_neg (by rw [hc]; decide)]
   rw [this]
   exact a7 (fi he aR cY) cY
  | true =>
   have : grow (bit c0 k) p ps = ps ++ [p] := by unfold grow; rw [if_pos hc]
   rw [this]
   have i1 : dN (DD w).prog (DD w).w .Add (tV ps) (tV [p]) (tV (ps ++ [p])) := by
    unfold tV
    rw [List.map_append, List.map_append]
    exact cQ (by simp; exact A1' ‹_› (by decide))
   refine a7 (fi he aR (a7 (bA (eh (aD ?_ ?_ ?_) (eW ?_ (ai (ah (v := .str (am p)) ?_ ?_ ?_) al)) i1) (aO ?_)) cY)) cY
   all_goals first | kernel_rfl! | decide
 rcases Bool.eq_false_or_eq_true (bit c0 k) with h | h
 ·have hb2 : Ev (DD w) n (E2 xs c0 c1 ps (some (k, p))) b2C (.bool true) := h ▸ hb
  exact @key (!ps.contains p) (w3 hb2 aR rfl (gU hc)) (by rw [h]; rfl)
 ·have hb2 : Ev (DD w) n (E2 xs c0 c1 ps (some (k, p))) b2C (.bool false) := h ▸ hb
  exact @key false (ju hb2 aR rfl) (by rw [h]; rfl)
theorem BJ {k : Nat} (hk : k < 9) {ps : List P2} {p : P2} (hp : Ltr p) (hl : ∀ q ∈ ps, Ltr q) (hn : ps.length ≤ 9000) : dF (DD w) n (E2 xs c0 c1 ps (some (k, p))) (an (aa ap 2)) (.next (E2 xs c0 c1 (grow (bit c0 k) p ps) (some (k, p)))) := by
 rw [AK]; exact @xE w n xs c0 c1 k hk ps p hp hl hn
theorem zn : ∀ (qs : List P2) (k : Nat) (ps : List P2) (l : Option (Int × P2)), k + qs.length ≤ 9 → (∀ q ∈ qs, Ltr q) → (∀ q ∈ ps, Ltr q) → ps.length + qs.length ≤ 9000 → ∃ l', im (DD w) n (aw (aa ap 2)) (an (aa ap 2)) (E2 xs c0 c1 ps l) (fq k ((qs.map am).map .str)) (.next (E2 xs c0 c1 (tie (bit c0) k qs ps) l')) := by
 intro v0'
 induction v0' with
 | nil =>
  exact fun k ps l z z z z => ⟨l, .nil⟩
 | cons q qs ih' =>
  exact fun k ps l hk hq hp hn => by
   rw [List.length_cons] at hk hn
   have hg : ∀ r ∈ grow (bit c0 k) q ps, Ltr r := by
    intro r hr
    unfold grow at hr
    split at hr
    ·rcases C3' hr with h | h
     ·exact hp r h
     ·rw [C1' h]; exact hq q (.head _)
    ·exact hp r hr
   have hl : (grow (bit c0 k) q ps).length ≤ ps.length + 1 := by
    unfold grow; split
    ·simp
    ·exact Nat.le_succ _
   obtain ⟨l', h⟩ := ih' (k + 1) (grow (bit c0 k) q ps) (some (k, q)) (by lia) (fun r hr => hq r (.tail _ hr)) hg (by lia)
   refine ⟨l', .next (e1 := E2 xs c0 c1 ps (some (k, q))) ?_ (BJ (by exact B4' (Nat.le_add_right ..) ‹_›) (hq q (.head _)) hp (by exact A1' (Nat.le_add_right ..) ‹_›)) h⟩
   cases l <;> exact aI ⋯
theorem x5 : ∀ q ∈ Q9, Ltr q := fun q hq => by
 have : ∀ q ∈ Q9, q.1 < 128 ∧ q.2 < 128 := by decide
 exact this q hq
theorem DX {i j k : Nat} (i1 : i < 2) (i2 : j < 3) (i3 : k < 4) : ∃ l', eQ (DD w) n (E2 xs c0 c1 (T1 i j k) none) (aa ap 2) (.next (E2 xs c0 c1 (tie (bit c0) 0 Q9 (T1 i j k)) l')) := by
 obtain ⟨l', h⟩ := zn (w := w) (n := n) (xs := xs) (c0 := c0) (c1 := c1) Q9 0 (T1 i j k) none (by decide) x5 (by
  intro q hq
  simp only [T1, List.mem_cons, List.not_mem_nil, or_false] at hq
  unfold Ltr
  rcases hq with rfl | rfl | rfl | rfl <;> simp <;> lia) (by show 4 + 9 ≤ _; decide)
 refine ⟨l', ?_⟩
 have i4 : dP (DD w) n (E2 xs c0 c1 (T1 i j k) none) (aw (aa ap 2)) (af (aa ap 2)) (fq 0 ((Q9.map am).map .str)) := fg (T := TB w n) (k := 9) ⋯
 have i5 : eQ (DD w) n (E2 xs c0 c1 (T1 i j k) none) (.For (aw (aa ap 2)) (af (aa ap 2)) (an (aa ap 2)) [] (aa ap 2).pos) (.next (E2 xs c0 c1 (tie (bit c0) 0 Q9 (T1 i j k)) l')) := fT i4 h
 rw [show aa ap 2 = .For (aw (aa ap 2)) (af (aa ap 2)) (an (aa ap 2)) [] (aa ap 2).pos by rfl']
 exact @i5
end
end
section
structure Sx (D : Std) (n : Nat) (ea : ao) (st : Stmt) (o : Out) : Prop where
 h : eQ D n ea st o
structure Bx (D : Std) (n : Nat) (ea : ao) (b : List Stmt) (o : Out) : Prop where
 h : dF D n ea b o
structure Dp (P : Around → Env → Prop) (Z : Env → Heap → Prop) (D : Std) (n : Nat) (ea : ao) (b : List Stmt) (r : V) : Prop where
 h : oO P Z D n ea b r
abbrev Dx := Dp (fun z z => True) fun z z => True
section
variable {D : Std} {n : Nat} {ea e1 e2 : ao} {b : List Stmt} {st : Stmt} {o : Out} {r : V}
theorem Bx.nil : Bx D n ea [] (.next ea) := ⟨@cY _ _ _⟩
theorem Bx.next (a : Sx D n ea st (.next e1)) (q : Bx D n e1 b o) : Bx D n ea (st :: b) o := ⟨@a7 _ _ _ _ _ _ _ @a.h @q.h⟩
theorem Bx.ret {v : V} (a : Sx D n ea st (.ret e1 v)) : Bx D n ea (st :: b) (.ret e1 v) := ⟨@bR _ _ _ _ _ _ _ @a.h⟩
theorem Sx.name {x : Str} {p pos : Pos} {value : Expr} {v : V} (h : Ev D n ea value v) (a : dG D ea x v e1) : Sx D n ea (.Assign [.Name x p] value pos) (.next e1) := ⟨@bA _ _ _ _ _ _ _ _ _ h @a⟩
theorem Sx.fxname {x : Str} {p pos : Pos} {value : Expr} {v : V} (h : FxE D n ea value e1 v) (a : dG D e1 x v e2) : Sx D n ea (.Assign [.Name x p] value pos) (.next e2) := ⟨by exact nD h a⟩
theorem Sx.fxexpr {pos : Pos} {value : Expr} {v : V} (h : FxE D n ea value e1 v) : Sx D n ea (.Expr value pos) (.next e1) := ⟨by exact hV h⟩
theorem Sx.ret {e : Expr} {p : Pos} {v : V} (h : Ev D n ea e v) : Sx D n ea (.Return (some e) p) (.ret ea v) := ⟨by exact dm h⟩
theorem Sx.ife {t : Expr} {b o : List Stmt} {p : Pos} {v : V} {c : Bool} {r : Out} (h : Ev D n ea t v) (hc : dT D v c) (hb : Bx D n ea (if c = true then b else o) r) : Sx D n ea (.If t b o p) r := ⟨by exact fi h hc hb.h⟩
theorem Sx.loop {target it : Expr} {body : List Stmt} {pos : Pos} {xs : List V} {out : Out} (ei : dP D n ea target it xs) (e : im D n target body ea xs out) : Sx D n ea (.For target it body [] pos) out := ⟨by exact fT ei e⟩
theorem Sx.put {y : Str} {yp p pos : Pos} {i value : Expr} {kvs : Lv} {k : Str} {v : V} (hmw : ea.mw = true) (hy : sq y "__debug__" = false) (hmo : lk ea.mo y = some (.dic kvs)) (hv : Ev D n ea value v) (hi : Ev D n ea i (.str k)) (hl : kvs.length ≤ 10000) :
  Sx D n ea (.Assign [.Subscript (.Name y yp) i p] value pos) (.next { ea with mo := [(y, .dic (bL kvs k v))] }) := ⟨by exact se hmw hy hmo hv hi hl⟩
theorem im.more {target : Expr} {body : List Stmt} {x : V} {xs : List V} (a : bw D ea target x e1) (q : Bx D n e1 body (.next e2)) (l : im D n target body e2 xs o) : im D n target body ea (x :: xs) o := .next a q.h l
theorem Dp.step {P : Around → Env → Prop} {Z : Env → Heap → Prop} (h : Sx D n ea st (.next e1)) (q : Dp P Z D n e1 b r) : Dp P Z D n ea (st :: b) r := ⟨fun {M F W env s A E} hA hP R => B2' (au (h.h hA R) fun f s₁ g => by
 obtain ⟨rfl, hz, k, R₁⟩ := g
 refine au (q.h hA hP R₁) fun f s' g => ?_
 obtain ⟨u, rfl, kw, rv⟩ := g
 exact ⟨u, rfl, (k.sub fun b q => .inl q).trans (kw.sub fun b q => q.imp id (A1' hz)), rv⟩)⟩
theorem Dp.ok (h : Dx D n ea b r) : gy D n ea b r := fun hA R => au (h.h hA trivial R) fun _ _ ⟨u, e, kw, rv, _⟩ => ⟨u, e, kw, rv⟩
theorem Dp.lastZ {P : Around → Env → Prop} {Z : Env → Heap → Prop} (h : Bx D n ea b (.ret e1 r)) (hz : ∀ {M F W : Ap} {env : Env} {s : Shared}, Rel D M F W env e1 s → Z env s.heap) : Dp P Z D n ea b r := ⟨fun hA z R => au (h.h hA R) fun f s' g => by
 obtain ⟨_, kw, R', u, rfl, rv⟩ := g
 exact ⟨u, rfl, kw.sub fun b q => .inl q, fun M₀ h0 => rv.mono (fun z z z e => e) fun b q => .inl (h0 b q).1, hz R'⟩⟩
theorem Dp.last {P : Around → Env → Prop} (h : Bx D n ea b (.ret e1 r)) : Dp P (fun z z => True) D n ea b r := .lastZ h fun z => trivial
theorem zp {T : Tab D n} {X : Fx D n} {ke k : Nat} (h : (exD T X ke k ea b).map (·.1) = some o) : Bx D n ea b o := ⟨by exact AU h⟩
theorem eO {T : Tab D n} {X : Fx D n} {ke k : Nat} (h : (m4 T X (evD T ke) (exD T X ke k) ea st).map (·.1) = some o) : Sx D n ea st o := ⟨by exact An h⟩
end
theorem Dp.hdr {P : Around → Env → Prop} {Z : Env → Heap → Prop} {w : World} {n : Nat} {ea : ao} {x f : Str} {p fp pos cpos : Pos} {body : List Stmt} {r : V} (hx : cI ea x = true) (hmw : ea.mw = true) (q1 : lk ea.names f = some .globalImplicit) (q2 : sq f "__debug__" = false) (q3 : lk glT f = some (.ref (nat_lit 175)))
  (hb : Dp P Z (DD w) (n + 1 + 1 + 1) (cF ea x (.hdr [])) body r) : Dp P Z (DD w) (n + 1 + 1 + 1) ea (.Assign [.Name x p] (.Call (.Name f fp) [] [] cpos) pos :: body) r := ⟨by exact rn hx hmw q1 q2 q3 hb.h⟩
end
section
noncomputable def Lo (c : Nat) : Prop := 97 ≤ c ∧ c ≤ 101
noncomputable def one (c : Nat) : Str := ⟨#[c]⟩
theorem dr {c : Nat} (h : Lo c) : c = 97 ∨ c = 98 ∨ c = 99 ∨ c = 100 ∨ c = 101 := by unfold Lo at h; lia
noncomputable def abc : List Nat := [97, 98, 99, 100, 101]
theorem bU {x : Nat} (h : Lo x) : x ∈ abc := by
 rcases dr h with rfl | rfl | rfl | rfl | rfl <;> decide
noncomputable def mp {α : Type} (f : Nat → α) (l : List Nat) : List α := l.foldr (fun x r => f x :: r) []
theorem lo1 {α : Type} {f g : Nat → α} {c : Nat} (hc : Lo c) (h : abc.map f = mp g abc) : f c = g c := by
 have k : ∀ l : List Nat, l.map f = mp g l → ∀ x ∈ l, f x = g x := fun l => by
  induction l with
  | nil => exact fun z z q => nomatch q
  | cons y l ih =>
   intro e x q
   obtain ⟨e1, e2⟩ := List.cons.inj e
   rcases C2' q with rfl | q
   ·exact e1
   ·exact ih e2 x q
 exact k abc h c (bU hc)
noncomputable def lt (b : Bool) (c : Nat) : Nat := match b with | true => c - 32 | false => c
theorem dM {c : Nat} (h : Lo c) (b d : Bool) : bu d (one (lt b c)) := by
 cases b <;> cases d <;> exact lo1 h (by rfl' : abc.map (fun c => c8 _ (dj _ (one (lt _ c)))) = mp (fun z => some none) abc)
theorem jD {u v : Nat} (h : Lo u) (g : Lo v) (b : Bool) : bu true (am (lt b u, lt b v)) := by
 cases b <;> exact lo1 g (lo1 h (by rfl' : (abc.map fun u => abc.map fun v => c8 _ (dj _ (am (lt _ u, lt _ v)))) = mp (fun z => mp (fun z => some none) abc) abc))
theorem dL {c : Nat} (h : Lo c) (b : Bool) : Txt.lower (one (lt b c)) = one c := by
 cases b <;> exact lo1 h (by rfl' : (abc.map fun c => Txt.lower (one (lt _ c))) = mp one abc)
theorem xF {c : Nat} (h : Lo c) (b : Bool) : Txt.swapcase (one (lt b c)) = one (lt (!b) c) := by
 cases b <;> exact lo1 h (by rfl' : (abc.map fun c => Txt.swapcase (one (lt _ c))) = mp (fun c => one (lt _ c)) abc)
theorem lP {c : Nat} (h : Lo c) : Txt.upper (one c) = one (lt true c) := lo1 h (by rfl' : (abc.map fun c => Txt.upper (one c)) = mp (fun c => one (lt true c)) abc)
theorem lj {u v : Nat} (h : Lo u) (g : Lo v) : Txt.upper (am (u, v)) = am (lt true u, lt true v) := lo1 g (lo1 h (by rfl' : (abc.map fun u => abc.map fun v => Txt.upper (am (u, v))) = mp (fun u => mp (fun v => am (lt true u, lt true v)) abc) abc))
theorem eY {u v : Nat} (h : Lo u) (g : Lo v) (b : Bool) : Txt.lower (am (lt b u, lt b v)) = am (u, v) := by
 cases b <;> exact lo1 g (lo1 h (by rfl' : (abc.map fun u => abc.map fun v => Txt.lower (am (lt _ u, lt _ v))) = mp (fun u => mp (fun v => am (u, v)) abc) abc))
theorem qz {c : Nat} : JoinOk "; " [one c] = true ∧ Txt.join "; " [one c] = one c := ⟨by rfl', by rfl'⟩
theorem wq {c : Nat} (h : Lo c) (b : Bool) : Low (one (lt b c)) := by
 unfold Low; rw [dL h]; exact (by rfl' : iO (one c).length = true)
theorem wE {u v : Nat} (h : Lo u) (g : Lo v) (b : Bool) : Low (am (lt b u, lt b v)) := by
 unfold Low; rw [eY h g]; exact (by rfl' : iO (am (u, v)).length = true)
theorem kK {a b : Nat} (h : one a = one b) : a = b := by
 simp only [one, Str.mk.injEq] at h
 have h := Array.toList_inj.mpr h
 cases h
 rfl
theorem n6 {p : P2} (h : Lo p.1) (g : Lo p.2) : iO (Txt.upper (am p)).length = true := by
 rw [show p = (p.1, p.2) from rfl, lj h g]; rfl'
noncomputable def cK (b : Bool) (p : P2) : Ls := [(one (lt b p.1), one p.2), (one (lt (!b) p.2), one p.1)]
noncomputable def aL (f : Nat → Bool) : Nat → List P2 → Ls
 | _, [] => []
 | k, p :: ps => cK (f k) p ++ aL f (k + 1) ps
noncomputable def spl (c : Int) (k : Nat) : Bool := (c.fdiv (2 ^ k)).fmod 2 == 1
noncomputable def Tie (p : P2) : Prop := Lo p.1 ∧ Lo p.2
noncomputable def E3 (xs : List Int) (c0 c1 : Int) (ps : List P2) (l : Option (Int × P2)) (q : Option P2) (rows : Ls) : ao :=
 { baseL with loc := ("cells", V.list [.int c0, .int c1]) :: ((match l with | none => [] | some l => [("k", .int l.1), ("pair", .str (am l.2))]) ++ (match q with | none => [] | some q => [("spelled", .str (am q))])), cel := [("script", V.list (xs.map V.int)), ("tied", tV ps)], mo := [("net", .hdr (ak rows))] }
noncomputable def b4 : List Stmt := an (aa ap 4)
noncomputable def ix4 : Expr := aj 1 (af (aa b4 0))
noncomputable def tu4 : Expr := aj 0 (af (aa b4 0))
section
variable {w : World} {n : Nat} {xs : List Int} {c0 c1 : Int} {ps : List P2} {rows : Ls} {q : Option P2}
theorem xl {k : Nat} {p : P2} (hk : k < 13) : Ev (DD w) n (E3 xs c0 c1 ps (some (k, p)) q rows) ix4 (.int ((c1.fdiv (2 ^ k)).fmod 2)) := by
 rcases k with _ | _ | _ | _ | _ | _ | _ | _ | _ | _ | _ | _ | _ | k
 all_goals first | lia | exact aF (T := TB w n) (k := 12) ⋯
theorem xY {k : Int} {p : P2} (h : Tie p) : Ev (DD w) n (E3 xs c0 c1 ps (some (k, p)) q rows) tu4 (.tup [.str (am p), .str (am (lt true p.1, lt true p.2))]) := by
 obtain ⟨a, b⟩ := p
 rw [← lj h.1 h.2]
 refine mO ?_ (ai (ah ?_ ?_ ?_) (ai (br (v := .str (am (a, b))) (ah ?_ ?_ ?_) ?_ ?_ al (eI (n6 h.1 h.2))) al))
 all_goals first | kernel_rfl! | decide
theorem mM {k : Nat} {p : P2} (h : Tie p) (hk : k < 13) : Ev (DD w) n (E3 xs c0 c1 ps (some (k, p)) q rows) (af (aa b4 0)) (.str (am (lt (spl c1 k) p.1, lt (spl c1 k) p.2))) := by
 have h1 := xl (w := w) (n := n) (xs := xs) (c0 := c0) (c1 := c1) (ps := ps) (q := q) (rows := rows) (p := p) hk
 have h2 := xY (w := w) (n := n) (xs := xs) (c0 := c0) (c1 := c1) (ps := ps) (q := q) (rows := rows) (k := k) h
 have h3 : (c1.fdiv (2 ^ k)).fmod 2 = 0 ∨ (c1.fdiv (2 ^ k)).fmod 2 = 1 := by
  generalize c1.fdiv (2 ^ k) = z
  rw [Int.fmod_eq_emod_of_nonneg _ (by decide)]
  lia
 have e : af (aa b4 0) = .Subscript tu4 ix4 (af (aa b4 0)).pos := ⋯
 rw [e]
 unfold spl
 rcases h3 with h3 | h3
 ·rw [h3] at h1 ⊢
  exact d6 h2 h1 (eR (j := 0) (by decide) ⋯ rfl)
 ·rw [h3] at h1 ⊢
  exact d6 h2 h1 (eR (j := 1) (by decide) ⋯ rfl)
theorem bk {rows : Ls} : (ak rows).length = rows.length := by unfold ak; rw [List.length_map]
theorem Ax {k : Nat} {p : P2} (h : Tie p) (hk : k < 13) (hn : rows.length ≤ 9000) : Bx (DD w) (n + 1 + 1) (E3 xs c0 c1 ps (some (k, p)) q rows) b4 (.next (E3 xs c0 c1 ps (some (k, p)) (some (lt (spl c1 k) p.1, lt (spl c1 k) p.2)) (rows ++ cK (spl c1 k) p))) := by
 have h1 := mM (w := w) (n := n + 1 + 1) (xs := xs) (c0 := c0) (c1 := c1) (ps := ps) (q := q) (rows := rows) (p := p) h hk
 obtain ⟨u, v⟩ := p
 generalize spl c1 k = b at *
 have a1 : dG (DD w) (E3 xs c0 c1 ps (some (k, (u, v))) q rows) "spelled" (.str (am (lt b u, lt b v))) (E3 xs c0 c1 ps (some (k, (u, v))) (some (lt b u, lt b v)) rows) := by
  cases q <;> exact aO ⋯
 have e : rows ++ cK b (u, v) = rows ++ [(one (lt b u), one v)] ++ [(one (lt (!b) v), one u)] := by unfold cK; simp
 rw [e]
 have g : b4 = [.Assign [.Name "spelled" (aw (aa b4 0)).pos] (af (aa b4 0)) (aa b4 0).pos, aa b4 1, aa b4 2] := ⋯
 rw [g]
 refine .next (.name h1 a1) ?_
 refine .next (e1 := E3 xs c0 c1 ps (some (k, (u, v))) (some (lt b u, lt b v)) (rows ++ [(one (lt b u), one v)])) ?_ (.next (e1 := E3 xs c0 c1 ps (some (k, (u, v))) (some (lt b u, lt b v)) (rows ++ [(one (lt b u), one v)] ++ [(one (lt (!b) v), one u)])) ?_ .nil)
 ·have i1 : Ev (DD w) (n + 1 + 1) (E3 xs c0 c1 ps (some (k, (u, v))) (some (lt b u, lt b v)) rows) (aj 0 (af (aa b4 1))) (.str (one (lt b u))) := aF (T := TB w (n + 1 + 1)) (k := 5) ⋯
  have i2 : Ev (DD w) (n + 1 + 1) (E3 xs c0 c1 ps (some (k, (u, v))) (some (lt b u, lt b v)) rows) (aj 1 (af (aa b4 1))) (.str (one v)) := aF (T := TB w (n + 1 + 1)) (k := 5) ⋯
  exact .fxexpr (dU (mv := .hdr (ak rows)) ⋯ ⋯ ⋯ ⋯ (by decide) (ai i1 (ai i2 al)) (pd (dM h.1 b true) (dM h.2 false false) (by rw [bk]; exact A1' ‹_› (by decide)) qz.1 qz.2))
 ·have i1 : Ev (DD w) (n + 1 + 1) (E3 xs c0 c1 ps (some (k, (u, v))) (some (lt b u, lt b v)) (rows ++ [(one (lt b u), one v)])) (aj 0 (af (aa b4 2))) (.str (one (lt (!b) v))) := by
   rw [← xF h.2 b]
   have i0 : Ev (DD w) (n + 1 + 1) (E3 xs c0 c1 ps (some (k, (u, v))) (some (lt b u, lt b v)) (rows ++ [(one (lt b u), one v)])) (bS (aj 0 (af (aa b4 2)))) (.str (one (lt b v))) := aF (T := TB w (n + 1 + 1)) (k := 5) ⋯
   exact br i0 ⋯ (by decide) al (gK (by rw [xF h.2 b]; exact (by rfl' : iO (one (lt (!b) v)).length = true)))
  have i2 : Ev (DD w) (n + 1 + 1) (E3 xs c0 c1 ps (some (k, (u, v))) (some (lt b u, lt b v)) (rows ++ [(one (lt b u), one v)])) (aj 1 (af (aa b4 2))) (.str (one u)) := aF (T := TB w (n + 1 + 1)) (k := 5) ⋯
  exact .fxexpr (dU (mv := .hdr (ak (rows ++ [(one (lt b u), one v)]))) ⋯ ⋯ ⋯ ⋯ (by decide) (ai i1 (ai i2 al)) (pd (dM h.2 (!b) true) (dM h.1 false false) (by rw [bk, List.length_append]; show rows.length + 1 ≤ _; exact B4' ‹_› (by decide)) qz.1 qz.2))
end
end
section
noncomputable def adj : List P2 → Nat → List Nat
 | [], _ => []
 | p :: r, x => match p.1 == x with
  | true => p.2 :: adj r x
  | false => match p.2 == x with
   | true => p.1 :: adj r x
   | false => adj r x
noncomputable def fR (ps : List P2) : Prop := ∀ p ∈ ps, Tie p ∧ p.1 ≠ p.2
theorem f7 {f : Nat → Bool} : ∀ {ps : List P2} {k : Nat}, fR ps → ∀ r ∈ aL f k ps, Low r.1
 | [], _, _, r, hr => nomatch hr
 | p :: ps, k, h, r, hr => by
  unfold aL at hr
  rcases C3' hr with hr | hr
  ·unfold cK at hr
   rcases C2' hr with e | hr
   ·subst e; exact wq (h p (.head _)).1.1 _
   ·rw [C1' hr]; exact wq (h p (.head _)).1.2 _
  ·exact f7 (fun q hq => h q (.tail _ hq)) r hr
theorem fX {f : Nat → Bool} : ∀ {ps : List P2} {k : Nat}, (aL f k ps).length = 2 * ps.length
 | [], _ => rfl
 | p :: ps, k => by
  unfold aL cK
  rw [List.length_append, fX, List.length_cons, List.length_cons, List.length_cons]
  simp only [List.length_nil]
  exact Nat.add_comm ..
theorem jb {p : Str × Str} {r : Ls} {x : Str} : iQ (p :: r) x = match Txt.lower p.1 == x with | true => p.2 :: iQ r x | false => iQ r x := rfl
theorem dQ {a b : Nat} : (one a == one b) = (a == b) := by
 rw [Bool.eq_iff_iff, beq_iff_eq, beq_iff_eq]
 exact ⟨kK, fun h => by rw [h]⟩
theorem lc {f : Nat → Bool} {x : Nat} : ∀ {ps : List P2} {k : Nat}, fR ps → iQ (aL f k ps) (one x) = (adj ps x).map one
 | [], _, _ => rfl
 | p :: ps, k, h => by
  have hp := h p (.head _)
  have ih := lc (f := f) (x := x) (ps := ps) (k := k + 1) fun q hq => h q (.tail _ hq)
  unfold aL cK adj
  rw [List.cons_append, List.cons_append, List.nil_append, jb, jb]
  dsimp only
  rw [dL hp.1.1, dL hp.1.2, dQ, dQ, ih]
  cases e1 : p.1 == x with
  | true =>
   have : (p.2 == x) = false := by
    rw [beq_eq_false_iff_ne]
    intro e2
    exact hp.2 ((beq_iff_eq.mp e1).trans e2.symm)
   rw [this]; rfl
  | false => cases p.2 == x <;> rfl
section
variable {w : World} {n : Nat} {xs : List Int} {c0 c1 : Int} {ps : List P2}
theorem zS : ∀ (qs : List P2) (k : Nat) (rows : Ls) (l : Option (Int × P2)) (q : Option P2), k + qs.length ≤ 13 → fR qs → rows.length + 2 * qs.length ≤ 9000 → (l = none → q = none) → ∃ l' q', im (DD w) (n + 1 + 1) (aw (aa ap 4)) b4 (E3 xs c0 c1 ps l q rows) (fq k ((qs.map am).map .str)) (.next (E3 xs c0 c1 ps l' q' (rows ++ aL (spl c1) k qs))) ∧ (qs = [] → l' = l ∧ q' = q) ∧ (qs ≠ [] → l'.isSome = true ∧ q'.isSome = true) := by
 intro v0'
 induction v0' with
 | nil =>
  exact fun k rows l q z z z z => ⟨l, q, by show im _ _ _ _ _ [] (.next (E3 xs c0 c1 ps l q (rows ++ []))); rw [List.append_nil]; exact .nil, fun z => ⟨rfl, rfl⟩, fun h => absurd rfl h⟩
 | cons p qs ih' =>
  exact fun k rows l q hk ht hn hl => by
   rw [List.length_cons] at hk hn
   have hp := ht p (.head _)
   obtain ⟨l', q', h, hs1, hs⟩ := ih' (k + 1) (rows ++ cK (spl c1 k) p) (some (k, p)) (some (lt (spl c1 k) p.1, lt (spl c1 k) p.2)) (by lia) (fun r hr => ht r (.tail _ hr)) (by rw [List.length_append]; show rows.length + 2 + _ ≤ _; lia) (fun e => nomatch e)
   refine ⟨l', q', ?_, fun e => (nomatch e), fun z => ?_⟩
   ·rw [show aL (spl c1) k (p :: qs) = cK (spl c1 k) p ++ aL (spl c1) (k + 1) qs from rfl, ← List.append_assoc]
    refine .more (e1 := E3 xs c0 c1 ps (some (k, p)) q rows) ?_ (Ax hp.1 (by exact B4' (Nat.le_add_right ..) ‹_›) (by exact A1' (Nat.le_add_right ..) ‹_›)) h
    cases l with
    | none => rw [hl rfl]; exact aI ⋯
    | some l => cases q <;> exact aI ⋯
   ·cases qs with
    | nil =>
     obtain ⟨e1, e2⟩ := hs1 rfl
     rw [e1, e2]; exact ⟨rfl, rfl⟩
    | cons a b => exact hs (fun e => nomatch e)
noncomputable def cR (l : List Nat) : V := .list ((l.map one).map .str)
noncomputable def rt (ps : List P2) : V := .dict (abc.map fun x => (one x, cR (adj ps x)))
noncomputable def c5 : Expr := af (aa ap 5)
noncomputable def lw5 (ea : ao) (x : Option Nat) : ao := { cenvOf ea (cSc c5) with loc := match x with | none => [] | some x => [("x", .str (one x))] }
theorem np {f : Nat → Bool} {l : Option (Int × P2)} {q : Option P2} {x : Nat} (hx : Lo x) (ht : fR ps) (hn : ps.length ≤ 13) : Ev (DD w) (n + 1 + 1) (lw5 (E3 xs c0 c1 ps l q (aL f 0 ps)) (some x)) (mW c5) (cR (adj ps x)) := by
 have h1 := @ye w n (aL f 0 ps) (one (lt true x)) (wq hx true) (by rw [dL hx]; exact dM hx false true) (f7 ht) (by rw [bk, fX]; lia)
 rw [dL hx, lc ht] at h1
 have i1 : Ev (DD w) (n + 1 + 1) (lw5 (E3 xs c0 c1 ps l q (aL f 0 ps)) (some x)) (aj 0 (mW c5)) (.str (one (lt true x))) := by
  rw [← lP hx]
  refine br (v := .str (one x)) (ah ?_ ?_ ?_) ?_ ?_ al (eI (by rw [lP hx]; exact (by rfl' : iO (one (lt true x)).length = true)))
  all_goals first | kernel_rfl! | decide
 exact bx ⋯ ⋯ ⋯ (by decide) (ai i1 al) @h1
end
end
section
structure G where
 xs : List Int
 c0 : Int
 c1 : Int
 ps : List P2
 l : Int × P2
 q : P2
noncomputable def EG (g : G) (loc cel : Lv) (mo : List (Str × MV)) : ao :=
 { baseL with loc := ("cells", V.list [.int g.c0, .int g.c1]) :: ("k", .int g.l.1) :: ("pair", .str (am g.l.2)) :: ("spelled", .str (am g.q)) :: ("near", rt g.ps) :: loc, cel := ("script", V.list (g.xs.map V.int)) :: ("tied", tV g.ps) :: cel, mo := mo }
section
variable {w : World} {n : Nat} {g : G}
theorem Be : c5 = .DictComp (a5 c5) (mW c5) [⟨cG c5, cIt c5, [], 0⟩] (cSc c5) c5.pos := ⋯
theorem DP {f : Nat → Bool} (ht : fR g.ps) (hn : g.ps.length ≤ 13) : Sx (DD w) (n + 1 + 1) (E3 g.xs g.c0 g.c1 g.ps (some g.l) (some g.q) (aL f 0 g.ps)) (aa ap 5) (.next (EG g [] [] [("net", .hdr (ak (aL f 0 g.ps)))])) := by
 have key : ∀ x o, Lo x → bw (DD w) (lw5 (E3 g.xs g.c0 g.c1 g.ps (some g.l) (some g.q) (aL f 0 g.ps)) o) (cG c5) (.str (one x)) (lw5 (E3 g.xs g.c0 g.c1 g.ps (some g.l) (some g.q) (aL f 0 g.ps)) (some x)) := fun x o z => by
  cases o <;> exact aI ⋯
 have kx : ∀ x, Ev (DD w) (n + 1 + 1) (lw5 (E3 g.xs g.c0 g.c1 g.ps (some g.l) (some g.q) (aL f 0 g.ps)) (some x)) (a5 c5) (.str (one x)) := fun x => aF (T := TB w (n + 1 + 1)) (k := 5) ⋯
 have l97 : Lo 97 := ⟨by decide, by decide⟩
 have l98 : Lo 98 := ⟨by decide, by decide⟩
 have l99 : Lo 99 := ⟨by decide, by decide⟩
 have l100 : Lo 100 := ⟨by decide, by decide⟩
 have l101 : Lo 101 := ⟨by decide, by decide⟩
 have cd : d7 (DD w) (n + 1 + 1) (a5 c5) (mW c5) (cG c5) [] (lw5 (E3 g.xs g.c0 g.c1 g.ps (some g.l) (some g.q) (aL f 0 g.ps)) none) [] [.str (one 97), .str (one 98), .str (one 99), .str (one 100), .str (one 101)] (bL (bL (bL (bL (bL [] (one 97) (cR (adj g.ps 97))) (one 98) (cR (adj g.ps 98))) (one 99) (cR (adj g.ps 99))) (one 100) (cR (adj g.ps 100))) (one 101) (cR (adj g.ps 101))) :=
  .take (key 97 none l97) aE (kx 97) (np l97 ht hn) (.take (key 98 _ l98) aE (kx 98) (np l98 ht hn) (.take (key 99 _ l99) aE (kx 99) (np l99 ht hn) (.take (key 100 _ l100) aE (kx 100) (np l100 ht hn) (.take (key 101 _ l101) aE (kx 101) (np l101 ht hn) .nil))))
 have i1 : Ev (DD w) (n + 1 + 1) (E3 g.xs g.c0 g.c1 g.ps (some g.l) (some g.q) (aL f 0 g.ps)) c5 (.dict (bL (bL (bL (bL (bL [] (one 97) (cR (adj g.ps 97))) (one 98) (cR (adj g.ps 98))) (one 99) (cR (adj g.ps 99))) (one 100) (cR (adj g.ps 100))) (one 101) (cR (adj g.ps 101)))) := by
  rw [Be]
  exact xo ⋯ (fg (T := TB w (n + 1 + 1)) (k := 5) ⋯) (by show 5 ≤ _; decide) cd
 rw [show aa ap 5 = .Assign [.Name "near" (aw (aa ap 5)).pos] c5 (aa ap 5).pos by rfl']
 exact .name i1 (aO ⋯)
noncomputable def marks : List Str := ["\n", "\r\n", "\r"]
noncomputable def zR (j : Nat) : Lv := [("mark", .str (marks.getD j ""))]
theorem CN {rs : List V} {j : Nat} (h : (g.c1.fdiv 1024).fmod 3 = j) (hj : j < 3) : Sx (DD w) n (EG g [] [] [("net", .hdr rs)]) (aa ap 7) (.next (EG g (zR j) [] [("net", .hdr rs)])) := by
 have i1 : Ev (DD w) n (EG g [] [] [("net", .hdr rs)]) (aj 0 (af (aa ap 7))) (.tup [.str "\n", .str "\r\n", .str "\r"]) := aF (T := TB w n) (k := 9) ⋯
 have i2 : Ev (DD w) n (EG g [] [] [("net", .hdr rs)]) (aj 1 (af (aa ap 7))) (.int j) := h ▸ aF (T := TB w n) (k := 9) ⋯
 have i3 : Ev (DD w) n (EG g [] [] [("net", .hdr rs)]) (af (aa ap 7)) (.str (marks.getD j "")) := by
  rw [show af (aa ap 7) = .Subscript (aj 0 (af (aa ap 7))) (aj 1 (af (aa ap 7))) (af (aa ap 7)).pos by rfl']
  refine d6 i1 i2 (eR (j := j) (by omega) ?_ ?_)
  all_goals (rcases j with _ | _ | _ | i <;> first | kernel_rfl! | omega)
 rw [show aa ap 7 = .Assign [.Name "mark" (aw (aa ap 7)).pos] (af (aa ap 7)) (aa ap 7).pos by rfl']
 exact .name i3 (aO ⋯)
end
end
section
section
variable {D : Std} {n : Nat} {ea e1 : ao}
theorem tn {y k : Str} {yp p : Pos} {i : Expr} {kvs : Lv} {c : V} (hy : sq y "__debug__" = false) (hmo : lk ea.mo y = some (.dic kvs)) (hi : Ev D n ea i (.str k)) (e : cc kvs k = some c) : Ev D n ea (.Subscript (.Name y yp) i p) c :=
 .mk' ⟨fun z z => rfl, fun z z => rfl, fun z => rfl, fun z z z z z => rfl, fun z z z => rfl⟩ (fun z z z z => rfl) (fun z z => rfl) fun {_ _ _ _ _ _ _} hA R => by
  refine Subscript_ (wpAny_Name (au (bJ R hmo) fun ov s₁ h₁ => ?_) (by simpa using aJ hy))
  obtain ⟨rfl, a, l, rfl, _, hF, _, mobj, _⟩ := h₁
  refine au (hi.ev hA R) fun iv s₂ g => cz.after g.2.1 g.1 ?_
  obtain ⟨tk, rfl⟩ := g.2.2.str_inv
  have mobj₂ := mobj.keep (X := fun z => False) (fun b q => q.elim) (fun q => q) (Kp.toW g.2.1)
  cases mobj₂ with | dic hd hm r =>
  have l := fy r k
  rw [e] at l
  obtain ⟨v, e1, r1⟩ := l
  exact sr (T := "dict") hd.mapOf.typeIs slot_dict_getitem.lookup (wpAny_getItem_of (knd := PySem.strKind D.prog D.w) (PySem.strKind_is _ _ _ _) hd.mapOf e1 ⟨Kp.toks' _ _, r1⟩)
theorem Dp.dict {P : Around → Env → Prop} {Z : Env → Heap → Prop} {x : Str} {p dp pos : Pos} {body : List Stmt} {r : V} (hx : cI ea x = true) (hmw : ea.mw = true) (hb : Dp P Z D n (cF ea x (.dic [])) body r) : Dp P Z D n ea (.Assign [.Name x p] (.Dict [] [] dp) pos :: body) r :=
 ⟨by
  intro M F W env s A E
  exact dR hx hmw (fun z z z z => rfl) (fun {M F W env s A E} hA R => by
   rw [eval_Dict_empty]
   refine Wb (wpAny_standAt (eK ?_))
   have hd : ({ s with heap := s.heap.push { cls := .type "dict", data := .dict #[] } } : Shared).heap.DictOf (PySem.strKind D.prog D.w) s.heap.objs.size [] := Heap.DictOf.new (knd := PySem.strKind D.prog D.w) s.heap
   refine ⟨aC .., Kp.push' s _ s.toks, s.heap.objs.size, s.heap.objs.size, rfl, A6' _, A5' (A4' _ rfl), .dic hd ?_ .nil⟩
   have q1 : @LE.le Nat _ D.base s.heap.objs.size := R.bs
   have q2 : @LT.lt Nat _ 1 D.base := D.b2
   have : s.heap.objs.size ≠ 1 := by lia
   exact beq_eq_false_iff_ne.mpr this) hb.h⟩
theorem Dp.retMo {P : Around → Env → Prop} {y : Str} {yp pos : Pos} {body : List Stmt} {kvs : Lv} (hy : sq y "__debug__" = false) (hmo : lk ea.mo y = some (.dic kvs)) : Dp P (fun z z => True) D n ea (.Return (some (.Name y yp)) pos :: body) (.dict kvs) :=
 ⟨by
  intro M F W env s A E hA _ R
  refine B2' (wpAny_Return_some (wpAny_Name (au (bJ R hmo) fun ov s₁ h₁ => ?_) (by simpa using aJ hy)))
  obtain ⟨rfl, a, l, rfl, _, hF, _, mobj, _⟩ := h₁
  cases mobj with | dic hd hm r =>
  exact ⟨_, rfl, aq.refl _, fun M₀ h0 => .dict (fun q => (h0 _ q).2 hF) hd hm (r.mono (fun z z z e => e) fun b q => .inl (h0 b q).1), trivial⟩⟩
end
end
section
section
variable {D : Std} {n : Nat} {ea : ao}
theorem rf {a b : Expr} {p : Pos} {x y : Bool} (ha : Ev D n ea a (.bool x)) (hb : Ev D n ea b (.bool y)) : Ev D n ea (.BoolOp .Or [a, b] p) (.bool (x || y)) := by
 cases x with
 | true => exact ju ha aR rfl
 | false => exact w3 ha aR rfl (gU hb)
theorem jA {a b : Expr} {p : Pos} {x y : Bool} (ha : Ev D n ea a (.bool x)) (hb : Ev D n ea b (.bool y)) : Ev D n ea (.BoolOp .And [a, b] p) (.bool (x && y)) := by
 cases x with
 | false => exact ju ha aR rfl
 | true => exact w3 ha aR rfl (gU hb)
theorem yA {t b o : Expr} {p : Pos} {c : Bool} {x y : V} (ht : Ev D n ea t (.bool c)) (hb : Ev D n ea b x) (ho : Ev D n ea o y) : Ev D n ea (.IfExp t b o p) (if c = true then x else y) := by
 cases c with
 | true => exact qY ht aR hb
 | false => exact qY ht aR ho
theorem vh {prog : Program} {w : World} {x : Str} {l : List Str} (hx : SOk x) (hl : ∀ y ∈ l, SOk y) : a6 prog w .In (.str x) (.list (l.map .str)) (l.contains x) :=
 io ▸ (gV (aM hx) (bP fun y hy => aM (hl y hy))).1
theorem oA {prog : Program} {w : World} {p : P2} {ps : List P2} (hp : Ltr p) (hl : ∀ q ∈ ps, Ltr q) : a6 prog w .In (.str (am p)) (tV ps) (ps.contains p) := gS (p := p) (ps := ps) ▸ vh (dA hp) fun y hy => by
 obtain ⟨q, hq, rfl⟩ := C5' hy
 exact dA (hl q hq)
end
theorem Lo.ltr {u v : Nat} (h : Lo u) (g : Lo v) : Ltr (u, v) := ⟨by have := h.2; show u < 128; exact B4' ‹_› (by decide), by have := g.2; show v < 128; exact B4' ‹_› (by decide)⟩
noncomputable def nm253 : List (Str × NameKind) := (ay vB).scope.names
noncomputable def stB : List Stmt := av (ay vB)
noncomputable def aG : List P2 := abc.flatMap fun u => abc.map fun v => (u, v)
noncomputable def d0 (ps : List P2) (p : P2) : Int := if p.1 == p.2 then 0 else if (ps.contains p || ps.contains (p.2, p.1)) = true then 1 else 9
noncomputable def kvs (ks : List P2) (d : P2 → Int) : Lv := ks.map fun p => (am p, .int (d p))
noncomputable def LE (ps : List P2) (r : Lv) (m : Lv) : ao := { baseE nm253 with loc := ("tied", tV ps) :: r, mo := [("steps", .dic m)] }
theorem lf {p : P2} {d : P2 → Int} {v : V} : ∀ {l : List P2}, p ∉ l → bL (kvs l d) (am p) v = kvs l d ++ [(am p, v)]
 | [], _ => rfl
 | q :: l, h => by
  show (match sq (am p) (am q) with | true => _ | false => _) = _
  rw [dE fun e => h (by rw [cx e]; exact .head _)]
  show _ :: bL (kvs l d) (am p) v = _
  rw [lf fun q => h (.tail _ q)]; rfl
theorem tL {l : List P2} {d : P2 → Int} {p : P2} : kvs l d ++ [(am p, .int (d p))] = kvs (l ++ [p]) d := by unfold kvs; rw [List.map_append]; rfl
noncomputable def oU (s : Str) : Option Nat → Lv
 | none => []
 | some u => [(s, .str (one u))]
noncomputable def s1 : Stmt := aa stB 1
noncomputable def s1b : Stmt := aa (an s1) 0
noncomputable def s1p : Stmt := aa (an s1b) 0
noncomputable def s1v : Expr := af s1p
noncomputable def ifT (e : Expr) : Expr := aj 0 e
noncomputable def ifB (e : Expr) : Expr := aj 1 e
noncomputable def ifO (e : Expr) : Expr := aj 2 e
section
variable {w : World} {n : Nat} {ps : List P2} {m : Lv}
theorem Ab {u v : Nat} (hu : Lo u) (hv : Lo v) (hl : ∀ q ∈ ps, Ltr q) : Ev (DD w) n (LE ps (oU "u" (some u) ++ oU "v" (some v)) m) s1v (.int (d0 ps (u, v))) := by
 have e1 : s1v = .IfExp (ifT s1v) (ifB s1v) (.IfExp (.BoolOp .Or [bv 0 (ifT (ifO s1v)), bv 1 (ifT (ifO s1v))] (ifT (ifO s1v)).pos) (ifB (ifO s1v)) (ifO (ifO s1v)) (ifO s1v).pos) s1v.pos := ⋯
 have i1 : Ev (DD w) n (LE ps (oU "u" (some u) ++ oU "v" (some v)) m) (ifT s1v) (.bool (u == v)) := by
  rw [← dQ]
  refine bo (ah ?_ ?_ ?_) (ah ?_ ?_ ?_) f5
  all_goals rfl'
 have ad : ∀ (e : Expr), (evD (TB w n) 5 (LE ps (oU "u" (some u) ++ oU "v" (some v)) m) e).map (·.1) = some (.str (am (u, v))) → Ev (DD w) n (LE ps (oU "u" (some u) ++ oU "v" (some v)) m) e (.str (am (u, v))) := fun e h => aF h
 have i2 : Ev (DD w) n (LE ps (oU "u" (some u) ++ oU "v" (some v)) m) (bv 0 (ifT (ifO s1v))) (.bool (ps.contains (u, v))) := by
  refine bo (aF (T := TB w n) (k := 5) ?_) (ah ?_ ?_ ?_) (oA (hu.ltr hv) hl)
  all_goals rfl'
 have i3 : Ev (DD w) n (LE ps (oU "u" (some u) ++ oU "v" (some v)) m) (bv 1 (ifT (ifO s1v))) (.bool (ps.contains (v, u))) := by
  refine bo (aF (T := TB w n) (k := 5) ?_) (ah ?_ ?_ ?_) (oA (hv.ltr hu) hl)
  all_goals rfl'
 have i4 := yA (p := s1v.pos) i1 (aF (T := TB w n) (k := 5) (x := .int 0) (e := ifB s1v) ⋯) (yA (p := (ifO s1v).pos) (rf (p := (ifT (ifO s1v)).pos) i2 i3) (aF (T := TB w n) (k := 5) (x := .int 1) (e := ifB (ifO s1v)) ⋯) (aF (T := TB w n) (k := 5) (x := .int 9) (e := ifO (ifO s1v)) ⋯))
 rw [e1]
 have e2 : V.int (d0 ps (u, v)) = if (u == v) = true then V.int 0 else if (ps.contains (u, v) || ps.contains (v, u)) = true then V.int 1 else V.int 9 := by
  unfold d0
  dsimp only
  split
  ·rfl
  ·split <;> rfl
 rw [e2]
 exact i4
theorem Ej {u v : Nat} {done : List P2} (hu : Lo u) (hv : Lo v) (hl : ∀ q ∈ ps, Ltr q) (hn : (u, v) ∉ done) (hd : done.length ≤ 1000) : Bx (DD w) n (LE ps (oU "u" (some u) ++ oU "v" (some v)) (kvs done (d0 ps))) (an s1b) (.next (LE ps (oU "u" (some u) ++ oU "v" (some v)) (kvs (done ++ [(u, v)]) (d0 ps)))) := by
 rw [← tL, ← lf hn]
 rw [show an s1b = [.Assign [.Subscript (.Name "steps" (aj 0 (aw s1p)).pos) (aj 1 (aw s1p)) (aw s1p).pos] s1v s1p.pos] by rfl']
 exact .next (.put (kvs := kvs done (d0 ps)) ⋯ ⋯ ⋯ (Ab hu hv hl) (aF (T := TB w n) (k := 5) ⋯) (by unfold kvs; rw [List.length_map]; exact A1' ‹_› (by decide))) .nil
end
end
section
noncomputable def eT (l : List Nat) : List V := l.map fun c => V.str (one c)
section
variable {w : World} {n : Nat} {ps : List P2}
theorem BQ {u : Nat} (hu : Lo u) (hl : ∀ q ∈ ps, Ltr q) : ∀ (vs : List Nat) (o : Option Nat) (done : List P2), (∀ v ∈ vs, Lo v) → vs.Nodup → (∀ v ∈ vs, (u, v) ∉ done) → done.length + vs.length ≤ 1000 → ∃ o', im (DD w) n (aw s1b) (an s1b) (LE ps (oU "u" (some u) ++ oU "v" o) (kvs done (d0 ps))) (eT vs) (.next (LE ps (oU "u" (some u) ++ oU "v" o') (kvs (done ++ vs.map fun v => (u, v)) (d0 ps)))) ∧ (vs ≠ [] ∨ o.isSome = true → o'.isSome = true) := by
 intro v0'
 induction v0' with
 | nil =>
  exact fun o done z z z z => ⟨o, by rw [List.map_nil, List.append_nil]; exact .nil, fun h => h.resolve_left fun q => q rfl⟩
 | cons v vs ih' =>
  exact fun o done h1 h2 h3 h4 => by
   rw [List.length_cons] at h4
   rw [List.nodup_cons] at h2
   obtain ⟨o', h5, h6⟩ := ih' (some v) (done ++ [(u, v)]) (fun x hx => h1 x (.tail _ hx)) h2.2 (fun x hx q => by
    rcases C3' q with q | q
    ·exact h3 x (.tail _ hx) q
    ·have := C1' q
     cases this
     exact h2.1 hx) (by rw [List.length_append]; show done.length + 1 + _ ≤ _; lia)
   refine ⟨o', ?_, fun z => h6 (.inr rfl)⟩
   rw [show done ++ (v :: vs).map (fun v => (u, v)) = done ++ [(u, v)] ++ vs.map fun v => (u, v) by simp]
   refine .more (e1 := LE ps (oU "u" (some u) ++ oU "v" (some v)) (kvs done (d0 ps))) ?_ (Ej hu (h1 v (.head _)) hl (h3 v (.head _)) (by exact A1' (Nat.le_add_right ..) ‹_›)) h5
   cases o <;> exact aI ⋯
theorem bG : ∀ v ∈ abc, Lo v := fun v hv => by
 have : ∀ v ∈ abc, 97 ≤ v ∧ v ≤ 101 := by decide
 exact this v hv
theorem xd (hl : ∀ q ∈ ps, Ltr q) : ∀ (us : List Nat) (o p : Option Nat) (done : List P2), (o = none → p = none) → (∀ u ∈ us, Lo u) → us.Nodup → (∀ u ∈ us, ∀ v, (u, v) ∉ done) → done.length + 5 * us.length ≤ 1000 → ∃ o' p', im (DD w) n (aw s1) (an s1) (LE ps (oU "u" o ++ oU "v" p) (kvs done (d0 ps))) (eT us) (.next (LE ps (oU "u" o' ++ oU "v" p') (kvs (done ++ us.flatMap fun u => abc.map fun v => (u, v)) (d0 ps)))) ∧ (us ≠ [] ∨ (o.isSome = true ∧ p.isSome = true) → o'.isSome = true ∧ p'.isSome = true) := by
 intro v0'
 induction v0' with
 | nil =>
  exact fun o p done y y y y y => ⟨o, p, by rw [List.flatMap_nil, List.append_nil]; exact .nil, fun h => h.resolve_left fun q => q rfl⟩
 | cons u us ih' =>
  exact fun o p done hop h1 h2 h3 h4 => by
   rw [List.length_cons] at h4
   rw [List.nodup_cons] at h2
   obtain ⟨p', h5, h6⟩ := BQ (w := w) (n := n) (h1 u (.head _)) hl abc p done bG (by decide) (fun v y => h3 u (.head _) v) (by show _ + 5 ≤ _; lia)
   obtain ⟨o'', p'', h7, h8⟩ := ih' (some u) p' (done ++ abc.map fun v => (u, v)) (fun e => nomatch e) (fun x hx => h1 x (.tail _ hx)) h2.2 (fun x hx v q => by
    rcases C3' q with q | q
    ·exact h3 x (.tail _ hx) v q
    ·obtain ⟨z, _, hz⟩ := C5' q
     cases hz
     exact h2.1 hx) (by rw [List.length_append]; show done.length + 5 + _ ≤ _; lia)
   refine ⟨o'', p'', ?_, fun y => h8 (.inr ⟨rfl, h6 (.inl (by decide))⟩)⟩
   rw [List.flatMap_cons, ← List.append_assoc]
   have i1 : dP (DD w) n (LE ps (oU "u" (some u) ++ oU "v" p) (kvs done (d0 ps))) (aw s1b) (af s1b) (eT abc) := fg (T := TB w n) (k := 5) ⋯
   refine .more (e1 := LE ps (oU "u" (some u) ++ oU "v" p) (kvs done (d0 ps))) ?_ ?_ h7
   ·cases o with
    | none => rw [hop rfl]; exact aI ⋯
    | some o => cases p <;> exact aI ⋯
   ·rw [show an s1 = [.For (aw s1b) (af s1b) (an s1b) [] s1b.pos] by rfl']
    exact .next (.loop i1 h5) .nil
noncomputable def upd (d : P2 → Int) (p : P2) (x : Int) : P2 → Int := fun q => if (q == p) = true then x else d q
noncomputable def dk (a b : Int) : Int := if b < a then b else a
noncomputable def aQ (w : Nat) (d : P2 → Int) (p : P2) : P2 → Int := upd (upd d p (dk (d p) (d (p.1, w) + d (w, p.2)))) (p.2, p.1) (dk (d p) (d (p.1, w) + d (w, p.2)))
noncomputable def Q10 : List P2 := [(97, 98), (97, 99), (97, 100), (97, 101), (98, 99), (98, 100), (98, 101), (99, 100), (99, 101), (100, 101)]
noncomputable def cu (ps : List P2) : P2 → Int := abc.foldl (fun d w => Q10.foldl (aQ w) d) (d0 ps)
theorem ma {d : P2 → Int} {u v : Nat} (hu : Lo u) (hv : Lo v) : cc (kvs aG d) (am (u, v)) = some (.int (d (u, v))) :=
 lo1 hv (lo1 hu (by rfl' : (abc.map fun u => abc.map fun v => cc (kvs aG d) (am (u, v))) = mp (fun u => mp (fun v => some (.int (d (u, v)))) abc) abc))
theorem wH {d : P2 → Int} {u v : Nat} {x : Int} (hu : Lo u) (hv : Lo v) : bL (kvs aG d) (am (u, v)) (.int x) = kvs aG (upd d (u, v) x) :=
 lo1 hv (lo1 hu (by rfl' : (abc.map fun u => abc.map fun v => bL (kvs aG d) (am (u, v)) (.int x)) = mp (fun u => mp (fun v => kvs aG (upd d (u, v) x)) abc) abc))
noncomputable def oF : Option Int → Lv
 | none => []
 | some i => [("fewest", .int i)]
noncomputable def LF (ps : List P2) (u v : Nat) (w : Option Nat) (f : Option Int) (d : P2 → Int) : ao := LE ps (("u", .str (one u)) :: ("v", .str (one v)) :: (oU "w" w ++ oF f)) (kvs aG d)
noncomputable def s2 : Stmt := aa stB 2
noncomputable def s2b : Stmt := aa (an s2) 0
noncomputable def s2k (k : Nat) : Stmt := aa (an s2b) k
theorem oQ {ea : ao} {e : Expr} {a b : Nat} (h : (evD (TB w n) 5 ea e).map (·.1) = some (.str (am (a, b)))) : Ev (DD w) n ea e (.str (am (a, b))) := aF h
theorem yg {u v x : Nat} {f : Option Int} {d : P2 → Int} (hu : Lo u) (hv : Lo v) (hx : Lo x) : ∃ f', Bx (DD w) n (LF ps u v (some x) f d) (an s2b) (.next (LF ps u v (some x) (some f') (aQ x d (u, v)))) := by
 let z := dk (d (u, v)) (d (u, x) + d (x, v))
 have g (k : Nat) (e : Expr) (a b : Nat) (ha : Lo a) (hb : Lo b) (h : (evD (TB w n) 5 (LF ps u v (some x) f d) (sIx e)).map (·.1) = some (.str (am (a, b)))) (he : e = .Subscript (.Name "steps" (sOb e).pos) (sIx e) e.pos) : Ev (DD w) n (LF ps u v (some x) f d) e (.int (d (a, b))) := by
  rw [he]
  exact tn (kvs := kvs aG d) ⋯ ⋯ (oQ h) (ma ha hb)
 have i1 := g 0 (aj 0 (af (s2k 0))) u v hu hv ⋯ ⋯
 have i2 := g 0 (aj 0 (aj 1 (af (s2k 0)))) u x hu hx ⋯ ⋯
 have i3 := g 0 (aj 1 (aj 1 (af (s2k 0)))) x v hx hv ⋯ ⋯
 have i4 : Ev (DD w) n (LF ps u v (some x) f d) (af (s2k 0)) (.int z) :=
  ct (fv := .builtin "min") ⋯ ⋯ ⋯ (ai i1 (ai (eh i2 i3 (ee fun q q => AutoIntOps.add_0 (aP _ _ _))) al)) (gm.cf (b := .min) sz ⋯)
 refine ⟨z, ?_⟩
 have a1 : dG (DD w) (LF ps u v (some x) f d) "fewest" (.int z) (LF ps u v (some x) (some z) d) := by cases f <;> exact aO ⋯
 rw [show an s2b = [.Assign [.Name "fewest" (aw (s2k 0)).pos] (af (s2k 0)) (s2k 0).pos, .Assign [.Subscript (.Name "steps" (sOb (aw (s2k 1))).pos) (sIx (aw (s2k 1))) (aw (s2k 1)).pos] (af (s2k 1)) (s2k 1).pos, .Assign [.Subscript (.Name "steps" (sOb (aw (s2k 2))).pos) (sIx (aw (s2k 2))) (aw (s2k 2)).pos] (af (s2k 2)) (s2k 2).pos] by rfl']
 refine .next (.name i4 a1) (.next (e1 := LF ps u v (some x) (some z) (upd d (u, v) z)) ?_ (.next (e1 := LF ps u v (some x) (some z) (aQ x d (u, v))) ?_ .nil))
 ·have := Sx.put (D := DD w) (n := n) (ea := LF ps u v (some x) (some z) d) (y := "steps") (yp := (sOb (aw (s2k 1))).pos) (p := (aw (s2k 1)).pos) (pos := (s2k 1).pos) (i := sIx (aw (s2k 1))) (value := af (s2k 1)) (kvs := kvs aG d) (k := am (u, v)) (v := .int z) ⋯ ⋯ ⋯ (aF (T := TB w n) (k := 5) ⋯) (oQ ⋯) (by unfold kvs; rw [List.length_map]; decide)
  rw [wH hu hv] at this
  exact this
 ·have := Sx.put (D := DD w) (n := n) (ea := LF ps u v (some x) (some z) (upd d (u, v) z)) (y := "steps") (yp := (sOb (aw (s2k 2))).pos) (p := (aw (s2k 2)).pos) (pos := (s2k 2).pos) (i := sIx (aw (s2k 2))) (value := af (s2k 2)) (kvs := kvs aG (upd d (u, v) z)) (k := am (v, u)) (v := .int z) ⋯ ⋯ ⋯ (aF (T := TB w n) (k := 5) ⋯) (oQ ⋯) (by unfold kvs; rw [List.length_map]; decide)
  rw [wH hv hu] at this
  exact this
end
end
section
section
variable {w : World} {n : Nat} {ps : List P2}
noncomputable def Los (p : P2) : Prop := Lo p.1 ∧ Lo p.2
theorem x7 : ∀ p ∈ Q10, Los p := fun p hp => by
 have : ∀ p ∈ Q10, (97 ≤ p.1 ∧ p.1 ≤ 101) ∧ (97 ≤ p.2 ∧ p.2 ≤ 101) := by decide
 exact this p hp
theorem Bs {x : Nat} (hx : Lo x) : ∀ (qs : List P2) (u v : Nat) (f : Option Int) (d : P2 → Int), (∀ q ∈ qs, Los q) → ∃ u' v' f', im (DD w) n (aw s2b) (an s2b) (LF ps u v (some x) f d) ((qs.map am).map .str) (.next (LF ps u' v' (some x) f' (qs.foldl (aQ x) d))) := by
 intro v0'
 induction v0' with
 | nil =>
  exact fun u v f d z => ⟨u, v, f, .nil⟩
 | cons q qs ih' =>
  exact fun u v f d h => by
   obtain ⟨a, b⟩ := q
   have hq := h _ (.head _)
   obtain ⟨f', h1⟩ := yg (w := w) (n := n) (ps := ps) (f := f) (d := d) hq.1 hq.2 hx
   obtain ⟨u', v', f'', h2⟩ := ih' a b (some f') (aQ x d (a, b)) fun r hr => h r (.tail _ hr)
   refine ⟨u', v', f'', .more (e1 := LF ps a b (some x) f d) ?_ h1 h2⟩
   cases f <;> exact aI ⋯
theorem wG : ∀ (xs : List Nat) (u v : Nat) (o : Option Nat) (f : Option Int) (d : P2 → Int), (o = none → f = none) → (∀ x ∈ xs, Lo x) → ∃ u' v' o' f', im (DD w) n (aw s2) (an s2) (LF ps u v o f d) (eT xs) (.next (LF ps u' v' o' f' (xs.foldl (fun d x => Q10.foldl (aQ x) d) d))) := by
 intro v0'
 induction v0' with
 | nil =>
  exact fun u v o f d z z => ⟨u, v, o, f, .nil⟩
 | cons x xs ih' =>
  exact fun u v o f d ho h => by
   obtain ⟨u', v', f', h1⟩ := Bs (w := w) (n := n) (ps := ps) (h x (.head _)) Q10 u v f d x7
   obtain ⟨u2, v2, o2, f2, h2⟩ := ih' u' v' (some x) f' (Q10.foldl (aQ x) d) (fun e => nomatch e) fun y hy => h y (.tail _ hy)
   have i1 : dP (DD w) n (LF ps u v (some x) f d) (aw s2b) (af s2b) ((Q10.map am).map .str) := by
    cases f <;> exact fg (T := TB w n) (k := 9) ⋯
   refine ⟨u2, v2, o2, f2, .more (e1 := LF ps u v (some x) f d) ?_ ?_ h2⟩
   ·cases o with
    | none => rw [ho rfl]; exact aI ⋯
    | some o => cases f <;> exact aI ⋯
   ·rw [show an s2 = [.For (aw s2b) (af s2b) (an s2b) [] s2b.pos] by rfl']
    exact .next (.loop i1 h1) .nil
theorem mJ (hl : ∀ q ∈ ps, Ltr q) : Dx (DD w) n { baseE nm253 with loc := [("tied", tV ps)] } stB (.dict (kvs aG (cu ps))) := by
 rw [show stB = [.Assign [.Name "steps" (aw (aa stB 0)).pos] (.Dict [] [] (af (aa stB 0)).pos) (aa stB 0).pos, .For (aw s1) (af s1) (an s1) [] s1.pos, .For (aw s2) (af s2) (an s2) [] s2.pos, .Return (some (.Name "steps" (af (aa stB 3)).pos)) (aa stB 3).pos] by rfl']
 refine .dict ⋯ ⋯ ?_
 obtain ⟨o', p', h1, h2⟩ := xd (w := w) (n := n) hl abc none none [] (fun z => rfl) bG (by decide) (fun u z v q => nomatch q) (by decide)
 obtain ⟨h3, h4⟩ := h2 (.inl (by decide))
 obtain ⟨u, rfl⟩ := Option.isSome_iff_exists.mp h3
 obtain ⟨v, rfl⟩ := Option.isSome_iff_exists.mp h4
 obtain ⟨u', v', o', f', h5⟩ := wG (w := w) (n := n) (ps := ps) abc u v none none (d0 ps) (fun z => rfl) bG
 have i1 : dP (DD w) n (cF { baseE nm253 with loc := [("tied", tV ps)] } "steps" (.dic [])) (aw s1) (af s1) (eT abc) := fg (T := TB w n) (k := 5) ⋯
 have i2 : dP (DD w) n (LF ps u v none none (d0 ps)) (aw s2) (af s2) (eT abc) := fg (T := TB w n) (k := 5) ⋯
 refine .step (e1 := LF ps u v none none (d0 ps)) (.loop i1 h1) (.step (.loop i2 h5) ?_)
 exact .retMo ⋯ ⋯
theorem qi (hl : ∀ q ∈ ps, Ltr q) : rD (DD w) (n + 1) "_law_steps" [tV ps] (.dict (kvs aG (cu ps))) := fun {_ s _ _ _ _} hA hst hd hmb hbs e rv => by
 cases e.symm.trans (show (DD w).gl "_law_steps" = some (.ref (nat_lit 253)) by rfl')
 refine ⟨.inr ⟨nat_lit 253, vB, ay vB, rfl, hst _ _ (by decide) ⋯, by rfl'⟩, ?_⟩
 obtain ⟨v, rfl, r1⟩ := rv.one
 exact gb (ag := ⟨[v], []⟩) Bg hA hst hd hmb hbs (ps := ["tied"]) (vals := [v]) (xs := [tV ps]) rfl ⋯ (.cons r1 .nil) (aV ⋯) (mJ hl).ok
end
end
section
noncomputable def ca (k : Nat) (p : P2) : Str := ⟨(List.replicate k 46 ++ [p.1, p.2]).toArray⟩
noncomputable def flV (k : Nat) (ps : List P2) : V := .list ((ps.map (ca k)).map .str)
noncomputable def bp (k : Nat) : Str := ⟨(List.replicate k 46).toArray⟩
noncomputable def hJ (rows : Ls) : V := .list (ak rows)
noncomputable def Ag : Ls := abc.map fun x => (am (x, x), bp 0)
noncomputable def bN (ps : List P2) : V := .dict (kvs aG (cu ps))
noncomputable def L8 (j : Nat) : Lv := [("mark", .str (marks.getD j ""))]
noncomputable def L10 (j : Nat) : Lv := [("mark", .str (marks.getD j "")), ("flight", flV 1 (abc.map fun x => (x, x)))]
noncomputable def L11 (j : Nat) (k : Nat) (fl : List P2) (rows : Ls) : Lv := [("mark", .str (marks.getD j "")), ("flight", flV k fl), ("laid", hJ rows)]
section
variable {w : World} {n : Nat} {g : G} {j : Nat}
theorem fR.ltr {ps : List P2} (h : fR ps) : ∀ q ∈ ps, Ltr q := fun q hq => by
 have := (h q hq).1
 exact this.1.ltr this.2
theorem DT (h : fR g.ps) {rs : List V} : Sx (DD w) (n + 1) (EG g (L8 j) [] [("net", .hdr rs)]) (aa ap 8) (.next (EG g (L8 j) [("steps", bN g.ps)] [("net", .hdr rs)])) := by
 have i1 : Ev (DD w) (n + 1) (EG g (L8 j) [] [("net", .hdr rs)]) (aj 0 (af (aa ap 8))) (tV g.ps) := aD ⋯ ⋯ ⋯
 have i2 : Ev (DD w) (n + 1) (EG g (L8 j) [] [("net", .hdr rs)]) (af (aa ap 8)) (bN g.ps) :=
  ct (fv := .ref (nat_lit 253)) ⋯ ⋯ ⋯ (ai i1 al) (qi h.ltr)
 rw [show aa ap 8 = .Assign [.Name "steps" (aw (aa ap 8)).pos] (af (aa ap 8)) (aa ap 8).pos by rfl']
 exact .name i2 (aO ⋯)
theorem Bj : Sx (DD w) n (EG g (L8 j) [("steps", bN g.ps)] [("table", .hdr [])]) (aa ap 10) (.next (EG g (L10 j) [("steps", bN g.ps)] [("table", .hdr [])])) :=
 eO (T := TB w n) (X := FB w n) (ke := 12) (k := 3) ⋯
theorem BL : Sx (DD w) n (EG g (L10 j) [("steps", bN g.ps)] [("table", .hdr [])]) (aa ap 11) (.next (EG g (L11 j 1 (abc.map fun x => (x, x)) Ag) [("steps", bN g.ps)] [("table", .hdr [])])) :=
 eO (T := TB w n) (X := FB w n) (ke := 12) (k := 3) ⋯
end
end
section
theorem i8 {α : Type} {x : Str} {v : α} : ∀ {l r : List (Str × α)}, lk l x = some v → lk (l ++ r) x = some v
 | (k, u) :: l, r, e => by
  show (match sq x k with | true => some u | false => lk (l ++ r) x) = _
  have e : (match sq x k with | true => some u | false => lk l x) = some v := e
  cases h : sq x k with
  | true => rw [h] at e; exact e
  | false => rw [h] at e; exact i8 e
section
variable {D : Std} {n : Nat} {M F W : Ap} {env : Env} {ea e1 : ao} {s : Shared}
theorem Rel.drop {l r : Lv} (R : Rel D M F W env { ea with loc := l ++ r } s) : Rel D M F W env { ea with loc := l } s := by
 refine { R with loc := ?_ }
 obtain ⟨m, hm, hl, hu⟩ := R.loc
 exact ⟨m, hm, fun x v e => hl x v (i8 e), hu⟩
theorem Bx.drop {b : List Stmt} {l r : Lv} (h : Bx D n ea b (.next { e1 with loc := l ++ r })) : Bx D n ea b (.next { e1 with loc := l }) :=
 ⟨fun z z z z z z z hA R => au (h.h hA R) fun z z g => ⟨g.1, g.2.1, g.2.2.1, g.2.2.2.drop⟩⟩
theorem Sx.drop {st : Stmt} {l r : Lv} (h : Sx D n ea st (.next { e1 with loc := l ++ r })) : Sx D n ea st (.next { e1 with loc := l }) :=
 ⟨fun z z z z z z z hA R => au (h.h hA R) fun z z g => ⟨g.1, g.2.1, g.2.2.1, g.2.2.2.drop⟩⟩
end
abbrev Row := Bool × P2 × Nat
noncomputable def aZ (r : Row) : Str × Str := (am (lt r.1 r.2.1.1, lt r.1 r.2.1.2), bp r.2.2)
noncomputable def look : List Row → P2 → Option Nat
 | [], _ => none
 | r :: t, p => match r.2.1 == p with
  | true => some r.2.2
  | false => look t p
noncomputable def bg (t : List Row) : Prop := ∀ r ∈ t, Los r.2.1
theorem qP {p q : P2} : (am p == am q) = (p == q) := by
 rw [Bool.eq_iff_iff, beq_iff_eq, beq_iff_eq]
 exact ⟨cx, fun h => by rw [h]⟩
theorem ii {p : P2} : ∀ {t : List Row}, bg t → hget (t.map aZ) (am p) = (look t p).map bp
 | [], _ => rfl
 | r :: t, h => by
  obtain ⟨b, q, k⟩ := r
  have hq := h _ (.head _)
  show (match Txt.lower (am (lt b q.1, lt b q.2)) == am p with | true => some (bp k) | false => hget (t.map aZ) (am p)) = Option.map bp (match q == p with | true => some k | false => look t p)
  rw [eY hq.1 hq.2, qP, ii fun r hr => h r (.tail _ hr)]
  cases q == p <;> rfl
theorem jN {t : List Row} (h : bg t) : ∀ p ∈ t.map aZ, Low p.1 := fun p hp => by
 obtain ⟨r, hr, rfl⟩ := C5' hp
 exact wE (h r hr).1 (h r hr).2 r.1
theorem gx {k : Nat} (h : k < 10) : bu false (bp k) := by
 rcases k with _ | _ | _ | _ | _ | _ | _ | _ | _ | _ | k <;> first | lia | exact (by rfl' : c8 _ _ = _)
theorem ql {a b : Nat} (h : bp a = bp b) : a = b := by
 simp only [bp, Str.mk.injEq] at h
 have := congrArg List.length (Array.toList_inj.mpr h)
 simpa using this
theorem qd {a b : Nat} : (bp a == bp b) = (a == b) := by
 rw [Bool.eq_iff_iff, beq_iff_eq, beq_iff_eq]
 exact ⟨ql, fun h => by rw [h]⟩
theorem p5 {k : Nat} {p q : P2} (h : ca k p = ca k q) : p = q := by
 simp only [ca, Str.mk.injEq] at h
 have h := List.append_cancel_left (Array.toList_inj.mpr h)
 obtain ⟨a, b⟩ := p
 obtain ⟨c, d⟩ := q
 cases h
 rfl
theorem on {k : Nat} {p : P2} (h : Ltr p) : SOk (ca k p) := by
 show (List.toArray (List.replicate k 46 ++ [p.1, p.2])).all _ = true
 have h1 := h.1
 have h2 := h.2
 simp
 lia
theorem pi {k : Nat} {p : P2} : ∀ {ps : List P2}, (ps.map (ca k)).contains (ca k p) = ps.contains p
 | [] => rfl
 | q :: ps => by
  rw [List.map_cons, List.contains_cons, List.contains_cons, pi]
  congr 1
  rw [Bool.eq_iff_iff, beq_iff_eq, beq_iff_eq]
  exact ⟨p5, fun h => by rw [h]⟩
section
variable {w : World} {n : Nat}
noncomputable def iW (t : List Row) (p : P2) (k : Nat) : Nat := (look t p).getD k
noncomputable def cA (t : List Row) (p : P2) (k : Nat) : List Row := match look t p with
 | some _ => t
 | none => t ++ [(true, p, k)]
theorem jL {t : List Row} {p : P2} {k : Nat} (h : bg t) (hp : Los p) : bg (cA t p k) := by
 unfold cA
 cases look t p with
 | some _ => exact h
 | none =>
  intro r hr
  rcases C3' hr with hr | hr
  ·exact h r hr
  ·rw [C1' hr]; exact hp
theorem wU {t : List Row} {u v k : Nat} (h : bg t) (hu : Lo u) (hv : Lo v) (hk : k < 10) (hn : t.length ≤ 9000) : rB (DD w) (n + 1 + 1 + 1) "setdefault" (.hdr (ak (t.map aZ))) [.str (am (lt true u, lt true v)), .str (bp k)] (.hdr (ak ((cA t (u, v) k).map aZ))) (.str (bp (iW t (u, v) k))) := by
 have e := ii (p := (u, v)) h
 rw [← eY hu hv true] at e
 unfold cA iW
 cases q : look t (u, v) with
 | some k' =>
  rw [q] at e
  exact @wY w n (t.map aZ) (am (lt true u, lt true v)) (bp k') (bp k) (wE hu hv true) (by rw [eY hu hv]; exact jD hu hv false) (jN h) e
 | none =>
  rw [q] at e
  have := @oD w n (t.map aZ) (am (lt true u, lt true v)) (bp k) (wE hu hv true) (by rw [eY hu hv]; exact jD hu hv false) (jN h) e (jD hu hv true) (gx hk) (by rw [bk, List.length_map]; exact A1' ‹_› (by decide))
  rw [show (t ++ [(true, (u, v), k)]).map aZ = t.map aZ ++ [(am (lt true u, lt true v), bp k)] by rw [List.map_append]; rfl]
  exact @this
end
end
section
noncomputable def EH (g : G) (j k : Nat) (fl : List P2) (ld : Ls) (r : Lv) (t : List Row) : ao :=
 EG g (("mark", .str (marks.getD j "")) :: ("flight", flV k fl) :: ("laid", hJ ld) :: r) [("steps", bN g.ps)] [("table", .hdr (ak (t.map aZ)))]
noncomputable def b13 : List Stmt := an (aa ap 13)
noncomputable def iP : Stmt := aa b13 3
noncomputable def m8 : Stmt := aa (an iP) 0
noncomputable def cP : List Stmt := an m8
noncomputable def rX (hv sv : V) (k u v x : Nat) (o : Option Nat) : Lv := ("hand", hv) :: ("sent", sv) :: ("row", .str (ca (k + 1) (u, v))) :: ("x", .str (one x)) :: (match o with | none => [] | some d => [("told", .str (bp d))])
noncomputable def jT (t : List Row) (fl : List P2) (k : Nat) (p : P2) : List P2 := if (iW t p k == k && !fl.contains p) = true then fl ++ [p] else fl
theorem rp {k : Nat} (h : 1 ≤ k ∧ k ≤ 4) : k = 1 ∨ k = 2 ∨ k = 3 ∨ k = 4 := by lia
section
variable {w : World} {n : Nat} {g : G} {j k u v x : Nat} {fl : List P2} {ld : Ls} {hv sv : V} {t : List Row} {o : Option Nat}
theorem Bx.dropH {ea : ao} {b : List Stmt} {r r' : Lv} (h : Bx (DD w) n ea b (.next (EH g j k fl ld (r ++ r') t))) : Bx (DD w) n ea b (.next (EH g j k fl ld r t)) :=
 Bx.drop (e1 := EH g j k fl ld r t) (l := (EH g j k fl ld r t).loc) (r := r') h
theorem Sx.dropH {ea : ao} {b : Stmt} {r r' : Lv} (h : Sx (DD w) n ea b (.next (EH g j k fl ld (r ++ r') t))) : Sx (DD w) n ea b (.next (EH g j k fl ld r t)) :=
 Sx.drop (e1 := EH g j k fl ld r t) (l := (EH g j k fl ld r t).loc) (r := r') h
noncomputable def CU : Expr := bS (aj 0 (af (aa cP 0)))
theorem DG (hk : 1 ≤ k ∧ k ≤ 4) : Ev (DD w) n (EH g j (k + 1) fl ld (rX hv sv k u v x o) t) CU (.str (am (u, x))) := by
 rcases rp hk with rfl | rfl | rfl | rfl <;> cases o <;> exact aF (T := TB w n) (k := 9) ⋯
noncomputable def CM : Expr := aj 1 (af (aa cP 0))
theorem Dy (hk : 1 ≤ k ∧ k ≤ 4) : Ev (DD w) n (EH g j (k + 1) fl ld (rX hv sv k u v x o) t) CM (.str (bp k)) := by
 rcases rp hk with rfl | rfl | rfl | rfl <;> cases o <;> exact aF (T := TB w n) (k := 9) ⋯
theorem DH (ht : bg t) (hk : 1 ≤ k ∧ k ≤ 4) (hu : Lo u) (hx : Lo x) (hn : t.length ≤ 9000) : Sx (DD w) (n + 1 + 1 + 1) (EH g j (k + 1) fl ld (rX hv sv k u v x o) t) (aa cP 0) (.next (EH g j (k + 1) fl ld (rX hv sv k u v x (some (iW t (u, x) k))) (cA t (u, x) k))) := by
 have i1 : Ev (DD w) (n + 1 + 1 + 1) (EH g j (k + 1) fl ld (rX hv sv k u v x o) t) (aj 0 (af (aa cP 0))) (.str (am (lt true u, lt true x))) := by
  rw [← lj hu hx]
  exact br (DG hk) ⋯ (by decide) al (eI (n6 hu hx))
 have i2 : FxE (DD w) (n + 1 + 1 + 1) (EH g j (k + 1) fl ld (rX hv sv k u v x o) t) (af (aa cP 0)) (EH g j (k + 1) fl ld (rX hv sv k u v x o) (cA t (u, x) k)) (.str (bp (iW t (u, x) k))) :=
  dU (mv := .hdr (ak (t.map aZ))) (mv' := .hdr (ak ((cA t (u, x) k).map aZ))) ⋯ ⋯ ⋯ ⋯ (by decide) (ai i1 (ai (Dy hk) al)) (wU ht hu hx (by lia) hn)
 rw [show aa cP 0 = .Assign [.Name "told" (aw (aa cP 0)).pos] (af (aa cP 0)) (aa cP 0).pos by rfl']
 refine .fxname i2 ?_
 cases o <;> exact aO ⋯
theorem lu {d : Nat} (h : d < 10) : Txt.mul "." (d : Int) = bp d := by
 rcases d with _ | _ | _ | _ | _ | _ | _ | _ | _ | _ | d <;> first | lia | rfl'
theorem zX (hk : 1 ≤ k ∧ k ≤ 4) (hu : Lo u) (hx : Lo x) {d : Nat} (hd : d < 10) (h : cu g.ps (u, x) = d) : Sx (DD w) n (EH g j (k + 1) fl ld (rX hv sv k u v x (some d)) t) (aa cP 1) (.next (EH g j (k + 1) fl ld (rX hv sv k u v x (some d)) t)) := by
 have i0 : Ev (DD w) n (EH g j (k + 1) fl ld (rX hv sv k u v x (some d)) t) (aj 1 (aj 1 (af (aa cP 1)))) (.int (cu g.ps (u, x))) := by
  refine d6 (aD (v := bN g.ps) ?_ ?_ ?_) (b := .str (am (u, x))) ?_ (ck (ma hu hx))
  ·rfl'
  ·rfl'
  ·rfl'
  ·rcases rp hk with rfl | rfl | rfl | rfl <;> exact aF (T := TB w n) (k := 9) ⋯
 rw [h] at i0
 have i1 : Ev (DD w) n (EH g j (k + 1) fl ld (rX hv sv k u v x (some d)) t) (aj 1 (af (aa cP 1))) (.str (bp d)) := by
  rw [← lu hd]
  exact eh (aK (Constant_str (aW _ _ _))) i0 (iA ⟨by lia, by lia, by decide⟩)
 have i2 : Ev (DD w) n (EH g j (k + 1) fl ld (rX hv sv k u v x (some d)) t) (af (aa cP 1)) (.bool (bp d != bp d)) := by
  refine bo (ah ?_ ?_ ?_) i1 uo
  all_goals rfl'
 have e : (bp d != bp d) = false := by simp
 rw [e] at i2
 rw [show aa cP 1 = .If (af (aa cP 1)) (an (aa cP 1)) [] (aa cP 1).pos by rfl']
 exact .ife i2 aR .nil
theorem keep (hk : 1 ≤ k ∧ k ≤ 4) (hu : Lo u) (hx : Lo x) (hl : ∀ q ∈ fl, Ltr q) (hn : fl.length ≤ 9000) {d : Nat} : Sx (DD w) n (EH g j (k + 1) fl ld (rX hv sv k u v x (some d)) t) (aa cP 2) (.next (EH g j (k + 1) (if (d == k && !fl.contains (u, x)) = true then fl ++ [(u, x)] else fl) ld (rX hv sv k u v x (some d)) t)) := by
 have i1 : Ev (DD w) n (EH g j (k + 1) fl ld (rX hv sv k u v x (some d)) t) (bv 0 (af (aa cP 2))) (.bool (d == k)) := by
  rw [← qd]
  refine bo (ah ?_ ?_ ?_) ?_ f5
  ·rfl'
  ·rfl'
  ·rfl'
  ·rcases rp hk with rfl | rfl | rfl | rfl <;> exact aF (T := TB w n) (k := 9) ⋯
 have r1 : ∀ e, (∀ k, k = 1 ∨ k = 2 ∨ k = 3 ∨ k = 4 → (evD (TB w n) 9 (EH g j (k + 1) fl ld (rX hv sv k u v x (some d)) t) e).map (·.1) = some (.str (ca (k + 1) (u, x)))) → Ev (DD w) n (EH g j (k + 1) fl ld (rX hv sv k u v x (some d)) t) e (.str (ca (k + 1) (u, x))) := fun e he => aF (he k (rp hk))
 have i2 : Ev (DD w) n (EH g j (k + 1) fl ld (rX hv sv k u v x (some d)) t) (bv 1 (af (aa cP 2))) (.bool (!fl.contains (u, x))) := by
  rw [← pi (k := k + 1)]
  refine bo (r1 _ ?_) (ah ?_ ?_ ?_) (l6 (on (hu.ltr hx)) fun y hy => ?_)
  ·intro k h
   rcases h with rfl | rfl | rfl | rfl <;> rfl'
  ·rfl'
  ·rfl'
  ·rfl'
  ·obtain ⟨q, hq, rfl⟩ := C5' hy
   exact on (hl q hq)
 have i3 := jA (p := (af (aa cP 2)).pos) i1 i2
 rw [show aa cP 2 = .If (.BoolOp .And [bv 0 (af (aa cP 2)), bv 1 (af (aa cP 2))] (af (aa cP 2)).pos) (an (aa cP 2)) [] (aa cP 2).pos by rfl']
 refine .ife i3 aR ?_
 cases h : (d == k && !fl.contains (u, x)) with
 | false => exact .nil
 | true =>
  rw [if_pos rfl, if_pos rfl]
  have e1 : dN (DD w).prog (DD w).w .Add (flV (k + 1) fl) (flV (k + 1) [(u, x)]) (flV (k + 1) (fl ++ [(u, x)])) := by
   unfold flV
   rw [List.map_append, List.map_append]
   exact cQ (by simp; exact A1' ‹_› (by decide))
  rw [show an (aa cP 2) = [.Assign [.Name "flight" (aw (aa (an (aa cP 2)) 0)).pos] (.BinOp (aj 0 (af (aa (an (aa cP 2)) 0))) .Add (aj 1 (af (aa (an (aa cP 2)) 0))) (af (aa (an (aa cP 2)) 0)).pos) (aa (an (aa cP 2)) 0).pos] by rfl']
  refine .next (.name (eh (ah ?_ ?_ ?_) (?_ : Ev _ _ _ _ (flV (k + 1) [(u, x)])) e1) (aO ?_)) .nil
  ·rfl'
  ·rfl'
  ·rfl'
  ·rcases rp hk with rfl | rfl | rfl | rfl <;> exact aF (T := TB w n) (k := 9) ⋯
  ·rfl'
end
end
section
open PySem.StrLaws PySem.Builtin.Str
noncomputable def e9 : List Nat := [116, 111, 32, 97, 108, 108]
theorem ky (m : Str) : ∀ ls : List Str, (Txt.join m ls).cps.toList = bz m.cps.toList (ls.map fun x => x.cps.toList) := fun ls => by
 show (glued m ls).cps.toList = _
 rw [glued_eq_join]
 induction ls with
 | nil => rfl
 | cons a l ih =>
  cases l with
  | nil => rfl
  | cons b l =>
   show (a ++ m ++ Str.join m (b :: l)).cps.toList = _
   simp only [Str.cps_append, Array.toList_append]
   rw [ih]; rfl
theorem dh {k : Nat} {p : P2} : (ca k p).cps.toList = List.replicate k 46 ++ [p.1, p.2] := by simp [ca]
theorem fC {k : Nat} {p : P2} (h : Los p) : jt (ca (k + 1) p).cps.toList := by
 rw [dh]
 refine ⟨fun c hc => ?_, _, rfl⟩
 rcases C3' hc with hc | hc
 ·rw [(List.mem_replicate.mp hc).2]; decide
 ·have h1 := h.1
  have h2 := h.2
  unfold Lo at h1 h2
  simp only [List.mem_cons, List.not_mem_nil, or_false] at hc
  rcases hc with rfl | rfl <;> lia
theorem pb {k : Nat} {p : P2} : (ca (k + 1) p).cps.toList = 46 :: (ca k p).cps.toList := by rw [dh, dh]; rfl
noncomputable def ej (m : Str) (k : Nat) (fl : List P2) : Str := Txt.join m ("to all" :: fl.map (ca k))
theorem vJ {j : Nat} (h : j < 3) : gE (marks.getD j "").cps.toList := by
 rcases j with _ | _ | _ | j
 ·exact .inl ⋯
 ·exact .inr (.inl ⋯)
 ·exact .inr (.inr ⋯)
 ·lia
theorem qK : ("to all" : Str).cps.toList = e9 := ⋯
theorem eA : ll e9 := fun c hc => by
 have : ∀ c ∈ e9, c ≠ 10 ∧ c ≠ 13 := by decide
 exact this c hc
theorem df {m : Str} {k : Nat} {fl : List P2} : (ej m k fl).cps.toList = bz m.cps.toList (e9 :: fl.map fun p => (ca k p).cps.toList) := by
 unfold ej
 rw [ky, List.map_cons, List.map_map, qK]; rfl
theorem fN {k : Nat} {fl : List P2} (h : ∀ p ∈ fl, Los p) : ∀ r ∈ fl.map (fun p => (ca (k + 1) p).cps.toList), jt r := fun r hr => by
 obtain ⟨p, hp, rfl⟩ := C5' hr
 exact fC (h p hp)
theorem mS {m : Str} (hm : gE m.cps.toList) {k : Nat} {fl : List P2} (h : ∀ p ∈ fl, Los p) : cO (ej m (k + 1) fl) = ej ⟨#[13, 10]⟩ (k + 1) fl := by
 apply Str.ext'
 apply Array.toList_inj.mp
 unfold cO
 rw [df, df]
 show nl2 _ = _
 exact mx hm _ _ eA (fN h)
theorem fJ {m : Str} (hm : gE m.cps.toList) {k : Nat} {fl : List P2} (h : ∀ p ∈ fl, Los p) : (c7 (cO (ej m (k + 1) fl))).cps.toList = bz [13, 10] (e9 :: fl.map fun p => (ca (k + 2) p).cps.toList) := by
 unfold c7 cO
 show ge true (nl2 (ej m (k + 1) fl).cps.toList) = _
 rw [df]
 have e := mZ hm (rows := fl.map fun p => (ca (k + 1) p).cps.toList) (c := 116) (f := [111, 32, 97, 108, 108]) eA (by decide) (fN h)
 refine e.trans ?_
 rw [List.map_map]
 have e2 : (fl.map (List.cons 46 ∘ fun p => (ca (k + 1) p).cps.toList)) = fl.map fun p => (ca (k + 2) p).cps.toList := List.map_congr_left fun p z => pb.symm
 rw [← e2]; rfl
theorem iS {m : List Nat} : ∀ (rows : List (List Nat)) (b : Nat), (∀ r ∈ rows, r.length ≤ b) → (bz m rows).length ≤ rows.length * (b + m.length)
 | [], b, _ => A9' _
 | [r], b, h => by
  have := h r (.head _)
  show r.length ≤ (0 + 1) * (b + m.length)
  lia
 | r :: q :: l, b, h => by
  have h1 := h r (.head _)
  have ih := iS (m := m) (q :: l) b fun x hx => h x (.tail _ hx)
  show (r ++ m ++ bz m (q :: l)).length ≤ ((q :: l).length + 1) * (b + m.length)
  rw [List.length_append, List.length_append, Nat.add_mul]
  lia
theorem gW {m : Str} (hm : m.cps.toList.length ≤ 2) {k : Nat} {fl : List P2} (hk : k ≤ 6) (h : fl.length ≤ 100) : (ej m k fl).cps.size ≤ 1200 := by
 rw [← Array.length_toList, df]
 refine A1' (iS _ 8 fun r hr => ?_) ?_
 ·rcases C2' hr with rfl | hr
  ·decide
  ·obtain ⟨p, _, rfl⟩ := C5' hr
   rw [dh]; simp; assumption
 ·rw [List.length_cons, List.length_map]
  exact A1' (Nat.mul_le_mul (by exact Nat.lt_succ_of_le ‹_› : _ ≤ 101) (by lia : _ ≤ 10)) (by decide)
theorem kN : ("\r\n" : Str) = ⟨#[13, 10]⟩ := ⋯
section
variable {w : World} {n : Nat}
theorem qy {x y : Str} (h1 : (decide (x.length < y.length) || decide (Builtin.Str.strKind x < Builtin.Str.strKind y)) = false) (hy : (y.length == 0) = false) (hf : (occurrences x y 0 x.length (x.length + 1)).isEmpty = true) {D : Std} : nk D n "split" (.str x) [.str y] (.list [.str x]) :=
 ⟨"str", "str.split", F.plainAttrs_str, F.slot_str_split, F.type_str_split, fun r => by
  obtain ⟨t, rfl⟩ := r.str_inv
  exact ⟨typeIs_str _ _ _, fun z e => nomatch e⟩, fun z d rv r => by
  obtain ⟨t, rfl⟩ := rv.str_inv
  obtain ⟨v, rfl, a⟩ := r.one
  obtain ⟨u, rfl⟩ := a.str_inv
  refine call_meets F.slot_str_split (typeIs_str _ _ _) F.entry_str_split (F.args_str_split_2 _ _) (meets_str_split_not_found x y t u h1 hy hf) ?_
  exact ⟨Kp.push' _ _ _, .list d.new (A4' _ rfl) (.cons (.str x t) .nil)⟩⟩
theorem pz (x : Str) : Builtin.Str.strKind x < Builtin.Str.strKind "\r\n" ↔ False := by
 rw [show Builtin.Str.strKind "\r\n" = 1 from by rfl']
 unfold Builtin.Str.strKind
 split
 ·simp
 ·split <;> simp
theorem jz {D : Std} {x : Str} {rows : List (List Nat)} (hr : ∀ q ∈ rows, ll q) (e : x.cps.toList = bz [13, 10] (e9 :: rows)) (hx : x.cps.size ≤ 30000) (hl : rows.length ≤ 30000) : nk D n "split" (.str x) [.str "\r\n"] (.list ((e9 :: rows).map fun l => .str ⟨l.toArray⟩)) := by
 cases rows with
 | nil =>
  have : x = ⟨e9.toArray⟩ := by
   apply Str.ext'
   apply Array.toList_inj.mp
   rw [e]; rfl
  subst this
  exact qy ⋯ ⋯ ⋯
 | cons r rows =>
  have hp := mR (x := x) (r := e9) (rows := r :: rows) (fun q hq => by
   rcases C2' hq with rfl | hq
   ·exact eA
   ·exact hr q hq) e
  have hn : x.length = (bz [13, 10] (e9 :: r :: rows)).length := by rw [← e]; simp [Str.length]
  have h6 : 6 ≤ x.length := by
   rw [hn]
   show 6 ≤ (e9 ++ [13, 10] ++ bz [13, 10] (r :: rows)).length
   rw [List.length_append, List.length_append]
   show 6 ≤ 6 + 2 + _
   lia
  have ok : fS x "\r\n" = true := by
   unfold fS
   rw [kN] at *
   simp only [Bool.and_eq_true, Bool.not_eq_true']
   refine ⟨Nat.ble_eq_true_of_le (show x.cps.size ≤ 100000 by exact A1' ‹_› (by decide)), ?_, by rfl', ?_, ?_⟩
   ·rw [Bool.or_eq_false_iff]
    refine ⟨decide_eq_false (show ¬ x.length < 2 by lia), decide_eq_false ?_⟩
    have := pz x
    rw [kN] at this
    exact this.mp
   ·cases q : (occurrences x ⟨#[13, 10]⟩ 0 x.length (x.length + 1)).isEmpty with
    | false => rfl
    | true =>
     rw [List.isEmpty_iff.mp q] at hp
     have := congrArg List.length hp
     simp [partsBetween] at this
   ·show Nat.ble (partsBetween x (occurrences x ⟨#[13, 10]⟩ 0 x.length (x.length + 1)) 2).length _ = true
    rw [hp]
    refine Nat.ble_eq_true_of_le ?_
    simp only [List.length_map, List.length_cons] at hl ⊢
    exact B4' ‹_› (by decide)
  have := oX (D := D) (n := n) ok
  rw [kN] at this ⊢
  rw [show (⟨#[13, 10]⟩ : Str).length = 2 from rfl, hp, List.map_map] at this
  exact this
end
end
section
open PySem.StrLaws PySem.Builtin.Str
noncomputable def gj (k : Nat) (fl : List P2) : V := .list ((("to all" : Str) :: fl.map (ca (k + 1))).map .str)
theorem oE {m : Str} {ns : List Str} {b : Nat} (h : ∀ x ∈ ns, x.length ≤ b) (hn : ns.length * (b + m.length) ≤ 1000000) : JoinOk m ns = true := by
 unfold JoinOk
 rw [List.foldl_toArray]
 have key : ∀ (ns : List Str) (a : Nat), (∀ x ∈ ns, x.length ≤ b) → ns.foldl (fun a x => a + x.length + m.length) a ≤ a + ns.length * (b + m.length) := by
  intro ns
  induction ns with
  | nil => intro a _; simp
  | cons x ns ih =>
   intro a h
   rw [List.foldl_cons]
   have h1 := h x (.head _)
   have := ih (a + x.length + m.length) fun y hy => h y (.tail _ hy)
   rw [List.length_cons, Nat.add_mul]
   lia
 have := key ns 0 h
 have e : Builtin.Str.tooLong (ns.foldl (fun a x => a + x.length + m.length) 0) = false := by
  unfold Builtin.Str.tooLong
  rw [decide_eq_false_iff_not, aX]
  lia
 rw [e]; rfl
theorem mP (x : V) (xs : List V) : eg (x :: xs) (some 1) none none = xs := by
 unfold eg
 have h1 : sliceBounds (some 1) none none (x :: xs).length = (1, ((x :: xs).length : Int), 1) := by
  unfold sliceBounds
  simp only [List.length_cons]
  simp
  lia
 rw [h1]
 unfold sliceRange
 dsimp only
 have h2 : (if (1 : Int) > 0 then if (1 : Int) < ((x :: xs).length : Int) then (((x :: xs).length : Int) - 1 + 1 - 1) / 1 else 0 else if (1 : Int) > ((x :: xs).length : Int) then (1 - ((x :: xs).length : Int) - 1 - 1) / (-1) else 0).toNat = xs.length := by
  rw [if_pos (by decide)]
  simp only [List.length_cons]
  split <;> lia
 rw [h2, List.filterMap_map]
 have h3 : ((fun j => (x :: xs)[j]?) ∘ fun (k : Nat) => ((1 : Int) + 1 * (k : Int)).toNat) = fun k => xs[k]? := by
  funext k
  show (x :: xs)[((1 : Int) + 1 * (k : Int)).toNat]? = xs[k]?
  rw [show ((1 : Int) + 1 * (k : Int)).toNat = k + 1 by lia]
  rfl
 rw [h3]
 exact gL xs
noncomputable def rS (hv : V) (o : Option (Nat × List P2)) : Lv := ("hand", hv) :: (match o with | none => [] | some p => [("sent", gj p.1 p.2)])
section
variable {w : World} {n : Nat} {g : G} {j k : Nat} {fl : List P2} {ld : Ls} {hv : V} {t : List Row} {r : Lv}
theorem tX (hj : j < 3) (hn : fl.length ≤ 100) (hk : k ≤ 5) {o : Option (Nat × List P2)} : Ev (DD w) n (EH g j k fl ld (rS hv o) t) (aj 0 (bS (af (aa b13 0)))) (.str (ej (marks.getD j "") k fl)) := by
 have i1 : Ev (DD w) n (EH g j k fl ld (rS hv o) t) (aj 0 (aj 0 (bS (af (aa b13 0))))) (.list ((("to all" : Str) :: fl.map (ca k)).map .str)) := by
  refine eh (eW (xs := [.str "to all"]) ?_ (ai (aK (Constant_str (aW _ _ _))) al)) (ah (v := flV k fl) ?_ ?_ ?_) (cQ (x := [.str "to all"]) (y := (fl.map (ca k)).map .str) ?_)
  ·decide
  ·rfl'
  ·rfl'
  ·rfl'
  ·simp; lia
 refine br (v := .str (marks.getD j "")) (ah ?_ ?_ ?_) ?_ ?_ (ai i1 al) (mi (oE (b := 8) (fun x hx => ?_) ?_))
 ·rfl'
 ·rfl'
 ·rfl'
 ·rfl'
 ·decide
 ·rcases C2' hx with rfl | hx
  ·exact (by decide +kernel : ("to all" : Str).length ≤ 8)
  ·obtain ⟨p, _, rfl⟩ := C5' hx
   show (ca k p).cps.size ≤ 8
   rw [← Array.length_toList, dh]; simp; exact B6' ‹_›
 ·have : (marks.getD j "").length ≤ 2 := by
   rcases j with _ | _ | _ | j
   ·exact (by decide +kernel : ("\n" : Str).length ≤ 2)
   ·exact (by decide +kernel : ("\r\n" : Str).length ≤ 2)
   ·exact (by decide +kernel : ("\r" : Str).length ≤ 2)
   ·exact Nat.le_add_left ..
  rw [List.length_cons, List.length_map]
  exact A1' (Nat.mul_le_mul (by exact Nat.lt_succ_of_le ‹_› : _ ≤ 101) (by exact Nat.add_le_add_left ‹_› _ : _ ≤ 10)) (by decide)
theorem ve (hj : j < 3) (hn : fl.length ≤ 100) (hk : k + 1 ≤ 4) (hl : ∀ p ∈ fl, Los p) {o : Option (Nat × List P2)} : Ev (DD w) (n + 1) (EH g j (k + 1) fl ld (rS hv o) t) (af (aa b13 0)) (gj (k + 1) fl) := by
 have hm := vJ hj
 have hm2 : (marks.getD j "").cps.toList.length ≤ 2 := by rcases hm with h | h | h <;> rw [h] <;> decide
 have h1 : (ej (marks.getD j "") (k + 1) fl).cps.size ≤ 1200 := gW hm2 (by exact A1' ‹_› (by decide)) hn
 have h2 : (cO (ej (marks.getD j "") (k + 1) fl)).cps.size ≤ 1200 := by rw [mS hm hl]; exact gW (by decide) (by exact A1' ‹_› (by decide)) hn
 have h3 : (c7 (cO (ej (marks.getD j "") (k + 1) fl))).cps.size ≤ 1200 := by
  have e : c7 (cO (ej (marks.getD j "") (k + 1) fl)) = ej ⟨#[13, 10]⟩ (k + 2) fl := by
   apply Str.ext'
   apply Array.toList_inj.mp
   rw [fJ hm hl, df]
  rw [e]; exact gW (by decide) (by exact B4' ‹_› (by decide)) hn
 have i1 : Ev (DD w) (n + 1) (EH g j (k + 1) fl ld (rS hv o) t) (bS (af (aa b13 0))) (.str (c7 (cO (ej (marks.getD j "") (k + 1) fl)))) :=
  ct (fv := .ref (nat_lit 246)) ⋯ ⋯ ⋯ (ai (tX hj hn (by exact B1' ‹_›)) al) (rY (by exact A1' ‹_› (by decide)) (by exact A1' ‹_› (by decide)) (by exact A1' ‹_› (by decide)))
 have e : gj (k + 1) fl = .list ((e9 :: fl.map fun p => (ca (k + 2) p).cps.toList).map fun l => .str ⟨l.toArray⟩) := by
  unfold gj
  rw [List.map_cons, List.map_cons, List.map_map, List.map_map]
  rfl
 rw [e]
 refine br i1 ⋯ (by decide) (ai (aK (Constant_str (aW _ _ _))) al) (jz (fun q hq => ?_) (fJ hm hl) (by exact A1' ‹_› (by decide)) (by rw [List.length_map]; exact A1' ‹_› (by decide)))
 obtain ⟨p, hp, rfl⟩ := C5' hq
 exact (fC (hl p hp)).1
theorem CZ (hj : j < 3) (hn : fl.length ≤ 100) (hk : k + 1 ≤ 4) (hl : ∀ p ∈ fl, Los p) {b : List Stmt} {z : Out} (hb : Bx (DD w) (n + 1) (EH g j (k + 2) [] ld (rS hv (some (k + 1, fl))) t) b z) : Bx (DD w) (n + 1) (EH g j (k + 1) fl ld (rS hv none) t) (aa b13 0 :: aa b13 1 :: aa b13 2 :: b) z := by
 rw [show aa b13 0 = .Assign [.Name "sent" (aw (aa b13 0)).pos] (af (aa b13 0)) (aa b13 0).pos by rfl']
 refine .next (e1 := EH g j (k + 1) fl ld (rS hv (some (k + 1, fl))) t) (.name (ve hj hn hk hl) (aO ⋯)) (.next (e1 := EH g j (k + 1) fl ld (rS hv (some (k + 1, fl))) t) ?_ (.next (e1 := EH g j (k + 2) [] ld (rS hv (some (k + 1, fl))) t) ?_ hb))
 ·exact eO (T := TB w (n + 1)) (X := FB w (n + 1)) (ke := 9) (k := 3) ⋯
 ·exact eO (T := TB w (n + 1)) (X := FB w (n + 1)) (ke := 9) (k := 3) ⋯
end
end
section
noncomputable def cU (dst : P2 → Int) (k u : Nat) : List Nat → List Row → List P2 → Option (List Row × List P2)
 | [], t, fl => some (t, fl)
 | x :: xs, t, fl => if dst (u, x) = (iW t (u, x) k : Int) ∧ iW t (u, x) k < 10 ∧ t.length ≤ 100 ∧ fl.length ≤ 100 then cU dst k u xs (cA t (u, x) k) (jT t fl k (u, x)) else none
noncomputable def fE (dst : P2 → Int) (near : Nat → List Nat) (k : Nat) : List P2 → List Row → List P2 → Option (List Row × List P2)
 | [], t, fl => some (t, fl)
 | p :: ps, t, fl => match cU dst k p.1 (near p.2) t fl with
  | some (t', fl') => fE dst near k ps t' fl'
  | none => none
theorem jl {t : List Row} {fl : List P2} {k : Nat} {p : P2} (h : ∀ q ∈ fl, Los q) (hp : Los p) : ∀ q ∈ jT t fl k p, Los q := fun q hq => by
 unfold jT at hq
 split at hq
 ·rcases C3' hq with hq | hq
  ·exact h q hq
  ·rw [C1' hq]; exact hp
 ·exact h q hq
theorem Los.ltr {p : P2} (h : Los p) : Ltr p := h.1.ltr h.2
section
variable {w : World} {n : Nat} {g : G} {j k : Nat} {ld : Ls} {hv sv : V}
noncomputable def rR (hv sv : V) (o : Option Str) : Lv := ("hand", hv) :: ("sent", sv) :: (match o with | none => [] | some x => [("row", .str x)])
theorem gC {dst : P2 → Int} {u : Nat} (hu : Lo u) : ∀ {xs : List Nat} {t t' : List Row} {fl fl' : List P2}, (∀ x ∈ xs, Lo x) → bg t → (∀ q ∈ fl, Los q) → cU dst k u xs t fl = some (t', fl') → bg t' ∧ ∀ q ∈ fl', Los q
 | [], t, t', fl, fl', _, h1, h2, e => by cases e; exact ⟨h1, h2⟩
 | x :: xs, t, t', fl, fl', hx, h1, h2, e => by
  unfold cU at e
  split at e
  ·exact gC hu (fun y hy => hx y (.tail _ hy)) (jL h1 ⟨hu, hx x (.head _)⟩) (jl h2 ⟨hu, hx x (.head _)⟩) e
  ·cases e
set_option tactic.hygienic true in
theorem zo {u v : Nat} (hu : Lo u) (hk : 1 ≤ k ∧ k ≤ 4) : ∀ (xs : List Nat) (t : List Row) (fl : List P2) (t' : List Row) (fl' : List P2), (∀ x ∈ xs, Lo x) → bg t → (∀ q ∈ fl, Los q) → cU (cu g.ps) k u xs t fl = some (t', fl') →
  im (DD w) (n + 1 + 1 + 1) (aw m8) cP (EH g j (k + 1) fl ld (rR hv sv (some (ca (k + 1) (u, v)))) t) (eT xs) (.next (EH g j (k + 1) fl' ld (rR hv sv (some (ca (k + 1) (u, v)))) t')) := by
 intro v0'
 induction v0' with
 | nil =>
  exact fun t fl t' fl' z z z e => by cases e; exact .nil
 | cons x xs ih' =>
  exact fun t fl t' fl' hx ht hl e => by
   unfold cU at e
   split at e
   ·rename_i c
    obtain ⟨c1, c2, c3, c4⟩ := c
    have hx1 := hx x (.head _)
    refine .more (e1 := EH g j (k + 1) fl ld (rX hv sv k u v x none) t) (e2 := EH g j (k + 1) (jT t fl k (u, x)) ld (rR hv sv (some (ca (k + 1) (u, v)))) (cA t (u, x) k)) (aI ⋯) ?_ (ih' _ _ _ _ (fun y hy => hx y (.tail _ hy)) (jL ht ⟨hu, hx1⟩) (jl hl ⟨hu, hx1⟩) e)
    rw [show cP = [aa cP 0, aa cP 1, aa cP 2] by rfl']
    have h3 := keep (w := w) (n := n + 1 + 1 + 1) (g := g) (j := j) (k := k) (u := u) (v := v) (x := x) (fl := fl) (ld := ld) (hv := hv) (sv := sv) (t := cA t (u, x) k) hk hu hx1 (fun q hq => (hl q hq).ltr) (by lia) (d := iW t (u, x) k)
    exact .next (DH ht hk hu hx1 (by lia)) (.next (zX hk hu hx1 c2 c1) (.next (Sx.dropH (r := rR hv sv (some (ca (k + 1) (u, v)))) (r' := [("x", .str (one x)), ("told", .str (bp (iW t (u, x) k)))]) h3) .nil))
   ·cases e
theorem iT {ps : List P2} {v : Nat} (hv : Lo v) : cc (abc.map fun x => (one x, cR (adj ps x))) (one v) = some (cR (adj ps v)) :=
 lo1 hv (by rfl' : (abc.map fun v => cc (abc.map fun x => (one x, cR (adj ps x))) (one v)) = mp (fun v => some (cR (adj ps v))) abc)
theorem pr {ps : List P2} {x : Nat} (h : fR ps) : ∀ y ∈ adj ps x, Lo y := by
 induction ps with
 | nil => intro y hy; cases hy
 | cons p ps ih =>
  have ih := ih fun q hq => h q (.tail _ hq)
  have hp := (h p (.head _)).1
  intro y hy
  unfold adj at hy
  cases e1 : p.1 == x with
  | true =>
   rw [e1] at hy
   rcases C2' hy with rfl | hy
   ·exact hp.2
   ·exact ih y hy
  | false =>
   rw [e1] at hy
   cases e2 : p.2 == x with
   | true =>
    rw [e2] at hy
    rcases C2' hy with rfl | hy
    ·exact hp.1
    ·exact ih y hy
   | false => rw [e2] at hy; exact ih y hy
theorem uF {u v : Nat} {fl : List P2} {t : List Row} (hk : 1 ≤ k ∧ k ≤ 4) (hv' : Lo v) : dP (DD w) n (EH g j (k + 1) fl ld (rR hv sv (some (ca (k + 1) (u, v)))) t) (aw m8) (af m8) (eT (adj g.ps v)) := by
 have i0 : Ev (DD w) n (EH g j (k + 1) fl ld (rR hv sv (some (ca (k + 1) (u, v)))) t) (sIx (af m8)) (.str (one v)) := by
  rcases rp hk with rfl | rfl | rfl | rfl <;> exact aF (T := TB w n) (k := 9) ⋯
 have i1 : Ev (DD w) n (EH g j (k + 1) fl ld (rR hv sv (some (ca (k + 1) (u, v)))) t) (af m8) (cR (adj g.ps v)) := by
  rw [show af m8 = .Subscript (.Name "near" (sOb (af m8)).pos) (sIx (af m8)) (af m8).pos by rfl']
  exact d6 (ah (v := rt g.ps) ⋯ ⋯ ⋯) i0 (ck (iT hv'))
 have e : eT (adj g.ps v) = ((adj g.ps v).map one).map V.str := by unfold eT; rw [List.map_map]; rfl
 rw [e]
 exact dI i1 rfl
theorem Af (ht0 : fR g.ps) (hk : 1 ≤ k ∧ k ≤ 4) : ∀ (rs : List P2) (o : Option Str) (t : List Row) (fl : List P2) (t' : List Row) (fl' : List P2), (∀ p ∈ rs, Los p) → bg t → (∀ q ∈ fl, Los q) → fE (cu g.ps) (adj g.ps) k rs t fl = some (t', fl') →
  ∃ o', im (DD w) (n + 1 + 1 + 1) (aw iP) (an iP) (EH g j (k + 1) fl ld (rR hv sv o) t) ((rs.map (ca (k + 1))).map .str) (.next (EH g j (k + 1) fl' ld (rR hv sv o') t')) ∧ bg t' ∧ ∀ q ∈ fl', Los q := by
 intro v0'
 induction v0' with
 | nil =>
  exact fun o t fl t' fl' z h1 h2 e => by cases e; exact ⟨o, .nil, h1, h2⟩
 | cons p rs ih' =>
  exact fun o t fl t' fl' hp h1 h2 e => by
   obtain ⟨u, v⟩ := p
   have hp1 := hp _ (.head _)
   unfold fE at e
   dsimp only at e
   cases q : cU (cu g.ps) k u (adj g.ps v) t fl with
   | none => rw [q] at e; cases e
   | some tf =>
    obtain ⟨t2, fl2⟩ := tf
    rw [q] at e
    have h3 := gC hp1.1 (pr ht0) h1 h2 q
    obtain ⟨o', h4, h5⟩ := ih' (some (ca (k + 1) (u, v))) t2 fl2 t' fl' (fun r hr => hp r (.tail _ hr)) h3.1 h3.2 e
    refine ⟨o', .more (e1 := EH g j (k + 1) fl ld (rR hv sv (some (ca (k + 1) (u, v)))) t) ?_ ?_ h4, h5⟩
    ·cases o <;> exact aI ⋯
    ·rw [show an iP = [.For (aw m8) (af m8) cP [] m8.pos] by rfl']
     exact .next (.loop (uF hk hp1.2) (zo hp1.1 hk _ _ _ _ _ (pr ht0) h1 h2 q)) .nil
end
end
section
noncomputable def kD (dst : P2 → Int) (near : Nat → List Nat) : Nat → Nat → List P2 → List Row → List Row → Option (List Row × List Row)
 | 0, _, _, t, ld => some (t, ld)
 | n + 1, k, fl, t, ld => match fE dst near k fl t [] with
  | some (t', fl') => if fl'.length ≤ 100 ∧ ld.length ≤ 1000 then kD dst near n (k + 1) fl' t' (ld ++ fl'.map fun p => (true, p, k)) else none
  | none => none
noncomputable def c13 : Expr := aj 1 (af (aa b13 4))
section
variable {w : World} {n : Nat} {g : G} {j k : Nat} {ld : List Row} {hv sv : V} {t : List Row} {fl : List P2} {o : Option Str}
noncomputable def cL (ea : ao) (o : Option Str) : ao := { cenvOf ea (cSc c13) with loc := match o with | none => [] | some x => [("row", .str x)] }
theorem xm : c13 = .ListComp (a5 c13) [⟨cG c13, cIt c13, [], 0⟩] (cSc c13) c13.pos := ⋯
theorem qr (hk : 1 ≤ k ∧ k ≤ 4) {p : P2} (hp : Los p) : Ev (DD w) n (cL (EH g j (k + 1) fl (ld.map aZ) (rR hv sv o) t) (some (ca (k + 1) p))) (a5 c13) (fD (aZ (true, p, k))) := by
 obtain ⟨u, v⟩ := p
 have i1 : Ev (DD w) n (cL (EH g j (k + 1) fl (ld.map aZ) (rR hv sv o) t) (some (ca (k + 1) (u, v)))) (bS (gh 0 (a5 c13))) (.str (am (u, v))) := by
  rcases rp hk with rfl | rfl | rfl | rfl <;> exact aF (T := TB w n) (k := 9) ⋯
 have i2 : Ev (DD w) n (cL (EH g j (k + 1) fl (ld.map aZ) (rR hv sv o) t) (some (ca (k + 1) (u, v)))) (gh 1 (a5 c13)) (.str (bp k)) := by
  rcases rp hk with rfl | rfl | rfl | rfl <;> exact aF (T := TB w n) (k := 9) ⋯
 have i3 : Ev (DD w) n (cL (EH g j (k + 1) fl (ld.map aZ) (rR hv sv o) t) (some (ca (k + 1) (u, v)))) (gh 0 (a5 c13)) (.str (am (lt true u, lt true v))) := by
  rw [← lj hp.1 hp.2]
  exact br i1 ⋯ (by decide) al (eI (n6 hp.1 hp.2))
 rw [show a5 c13 = .Tuple [gh 0 (a5 c13), gh 1 (a5 c13)] (kOf (a5 c13)) (a5 c13).pos by rfl']
 exact mO (by decide) (ai i3 (ai i2 al))
theorem og (hk : 1 ≤ k ∧ k ≤ 4) {ea : ao} (he : ea = EH g j (k + 1) fl (ld.map aZ) (rR hv sv o) t) : ∀ (ps : List P2) (q : Option Str), (∀ p ∈ ps, Los p) → cT (DD w) n (a5 c13) (cG c13) [] (cL ea q) ((ps.map (ca (k + 1))).map .str) ((ps.map fun p => aZ (true, p, k)).map fD) := by
 intro v0'
 induction v0' with
 | nil =>
  exact fun z z => .nil
 | cons p ps ih' =>
  exact fun q h => by
   subst he
   refine .take (e1 := cL (EH g j (k + 1) fl (ld.map aZ) (rR hv sv o) t) (some (ca (k + 1) p))) ?_ aE (qr hk (h p (.head _))) (ih' _ fun r hr => h r (.tail _ hr))
   cases q <;> exact aI ⋯
theorem vD (hk : 1 ≤ k ∧ k ≤ 4) (hl : ∀ q ∈ fl, Los q) (h1 : fl.length ≤ 100) (h2 : ld.length ≤ 1000) : Sx (DD w) n (EH g j (k + 1) fl (ld.map aZ) (rR hv sv o) t) (aa b13 4) (.next (EH g j (k + 1) fl ((ld ++ fl.map fun p => (true, p, k)).map aZ) (rR hv sv o) t)) := by
 have i1 : Ev (DD w) n (EH g j (k + 1) fl (ld.map aZ) (rR hv sv o) t) c13 (.list (ak ((fl.map fun p => ((true, p, k) : Row)).map aZ))) := by
  have c := og (w := w) (n := n) (g := g) (j := j) (ld := ld) (hv := hv) (sv := sv) (t := t) (fl := fl) (o := o) hk rfl fl none hl
  have e : ak ((fl.map fun p => ((true, p, k) : Row)).map aZ) = (fl.map fun p => aZ (true, p, k)).map fD := by unfold ak; simp only [List.map_map]; rfl
  rw [e, xm]
  refine pe (xs := (fl.map (ca (k + 1))).map .str) ⋯ (dI (v := flV (k + 1) fl) (ah ?_ ?_ ?_) rfl) (by rw [List.length_map, List.length_map]; exact A1' ‹_› (by decide)) c
  all_goals rfl'
 have i2 : Ev (DD w) n (EH g j (k + 1) fl (ld.map aZ) (rR hv sv o) t) (af (aa b13 4)) (hJ ((ld ++ fl.map fun p => (true, p, k)).map aZ)) := by
  rw [show af (aa b13 4) = .BinOp (aj 0 (af (aa b13 4))) .Add c13 (af (aa b13 4)).pos by rfl']
  have e : dN (DD w).prog (DD w).w .Add (hJ (ld.map aZ)) (.list (ak ((fl.map fun p => ((true, p, k) : Row)).map aZ))) (hJ ((ld ++ fl.map fun p => (true, p, k)).map aZ)) := by
   unfold hJ
   rw [List.map_append, show ∀ a b, ak (a ++ b) = ak a ++ ak b from fun a b => List.map_append]
   exact cQ (by rw [bk, bk]; simp; lia)
  exact eh (ah ⋯ ⋯ ⋯) i1 e
 rw [show aa b13 4 = .Assign [.Name "laid" (aw (aa b13 4)).pos] (af (aa b13 4)) (aa b13 4).pos by rfl']
 exact .name i2 (aO (by cases o <;> rfl'))
noncomputable def rH : Option V → Lv
 | none => []
 | some v => [("hand", v)]
set_option tactic.hygienic true in
theorem Bw (ht0 : fR g.ps) (hj : j < 3) : ∀ (m k : Nat) (o : Option V) (fl : List P2) (t ld t' ld' : List Row), k + 1 + m ≤ 5 → (∀ p ∈ fl, Los p) → fl.length ≤ 100 → bg t → kD (cu g.ps) (adj g.ps) m (k + 1) fl t ld = some (t', ld') →
  ∃ o' k' fl', im (DD w) (n + 1 + 1 + 1 + 1) (aw (aa ap 13)) b13 (EH g j (k + 1) fl (ld.map aZ) (rH o) t) ((List.range' k m).map fun i => .int (i : Nat)) (.next (EH g j k' fl' (ld'.map aZ) (rH o') t')) ∧ bg t' := by
 intro v0'
 induction v0' with
 | zero =>
  exact fun k o fl t ld t' ld' z z z h1 e => by cases e; exact ⟨o, k + 1, fl, .nil, h1⟩
 | succ m ih' =>
  exact fun k o fl t ld t' ld' hm hl hn h1 e => by
   unfold kD at e
   cases q : fE (cu g.ps) (adj g.ps) (k + 1) fl t [] with
   | none => rw [q] at e; cases e
   | some tf =>
    obtain ⟨t2, fl2⟩ := tf
    rw [q] at e
    dsimp only at e
    split at e
    ·rename_i c
     obtain ⟨o2, h2, h3, h4⟩ := Af (w := w) (n := n + 1) (g := g) (j := j) (ld := ld.map aZ) (hv := .int (k : Nat)) (sv := gj (k + 1) fl) (k := k + 1) ht0 ⟨by exact Nat.le_add_left .., by lia⟩ fl none t [] t2 fl2 hl h1 (fun q hq => nomatch hq) q
     obtain ⟨o', k', fl', h5, h6⟩ := ih' (k + 1) (some (.int (k : Nat))) fl2 t2 (ld ++ fl2.map fun p => (true, p, k + 1)) t' ld' (by lia) h4 c.1 h3 e
     refine ⟨o', k', fl', ?_, h6⟩
     rw [List.range'_succ, List.map_cons]
     refine .more (e1 := EH g j (k + 1) fl (ld.map aZ) (rS (.int (k : Nat)) none) t) (e2 := EH g j (k + 2) fl2 ((ld ++ fl2.map fun p => (true, p, k + 1)).map aZ) (rH (some (.int (k : Nat)))) t2) ?_ ?_ h5
     ·cases o <;> exact aI ⋯
     ·have i1 : dP (DD w) (n + 1 + 1 + 1 + 1) (EH g j (k + 2) [] (ld.map aZ) (rS (.int (k : Nat)) (some (k + 1, fl))) t) (aw iP) (af iP) ((fl.map (ca (k + 2))).map .str) := by
       refine dI (v := .list ((fl.map (ca (k + 2))).map .str)) ?_ rfl
       have e1 := mP (.str "to all") ((fl.map (ca (k + 2))).map .str)
       rw [← e1]
       refine uj (ah (v := gj (k + 1) fl) ?_ ?_ ?_) (d8 (aK (wpAny_Constant_int (aP _ _ _)))) fZ fZ (ft (xs := .str "to all" :: (fl.map (ca (k + 2))).map .str) (by simp; exact A1' ‹_› (by decide)) (by decide))
       all_goals rfl'
      have hh := vD (w := w) (n := n + 1 + 1 + 1 + 1) (g := g) (j := j) (k := k + 1) (ld := ld) (hv := .int (k : Nat)) (sv := gj (k + 1) fl) (t := t2) (fl := fl2) (o := o2) ⟨by exact Nat.le_add_left .., by lia⟩ h4 c.1 c.2
      have hb : Bx (DD w) (n + 1 + 1 + 1 + 1) (EH g j (k + 2) [] (ld.map aZ) (rS (.int (k : Nat)) (some (k + 1, fl))) t) [.For (aw iP) (af iP) (an iP) [] iP.pos, aa b13 4] (.next (EH g j (k + 2) fl2 ((ld ++ fl2.map fun p => (true, p, k + 1)).map aZ) (rR (.int (k : Nat)) (gj (k + 1) fl) o2) t2)) :=
       .next (.loop i1 h2) (.next hh .nil)
      have hb2 : Bx (DD w) (n + 1 + 1 + 1 + 1) (EH g j (k + 2) [] (ld.map aZ) (rS (.int (k : Nat)) (some (k + 1, fl))) t) [.For (aw iP) (af iP) (an iP) [] iP.pos, aa b13 4] (.next (EH g j (k + 2) fl2 ((ld ++ fl2.map fun p => (true, p, k + 1)).map aZ) (rH (some (.int (k : Nat)))) t2)) := by
       cases o2
       ·exact Bx.dropH (r := rH (some (.int (k : Nat)))) (r' := [("sent", gj (k + 1) fl)]) hb
       ·exact Bx.dropH (r := rH (some (.int (k : Nat)))) (r' := [("sent", gj (k + 1) fl), ("row", .str _)]) hb
      rw [show b13 = [aa b13 0, aa b13 1, aa b13 2, .For (aw iP) (af iP) (an iP) [] iP.pos, aa b13 4] by rfl']
      exact CZ hj hn (by lia) hl hb2
    ·cases e
theorem Ao (ht0 : fR g.ps) (hj : j < 3) {t ld t' ld' : List Row} {fl : List P2} (hl : ∀ p ∈ fl, Los p) (hn : fl.length ≤ 100) (h1 : bg t) (e : kD (cu g.ps) (adj g.ps) 4 1 fl t ld = some (t', ld')) :
  ∃ o' k' fl', Sx (DD w) (n + 1 + 1 + 1 + 1) (EH g j 1 fl (ld.map aZ) [] t) (aa ap 13) (.next (EH g j k' fl' (ld'.map aZ) (rH o') t')) ∧ bg t' := by
 obtain ⟨o', k', fl', h2, h3⟩ := Bw (w := w) (n := n) (g := g) ht0 hj 4 0 none fl t ld t' ld' (by decide) hl hn h1 e
 refine ⟨o', k', fl', ?_, h3⟩
 rw [show aa ap 13 = .For (aw (aa ap 13)) (af (aa ap 13)) b13 [] (aa ap 13).pos by rfl']
 exact .loop (fg (T := TB w (n + 1 + 1 + 1 + 1)) (k := 9) ⋯) h2
end
end
section
section
variable {D : Std} {n : Nat} {ea : ao}
end
noncomputable def kg (r : Row) : Str × V := (am r.2.1, .str (bp r.2.2))
noncomputable def ki (t : List Row) : V := .dict (t.map kg)
noncomputable def L14 (j k : Nat) (fl : List P2) (ld : List Row) (o : Option V) : Lv := ("mark", .str (marks.getD j "")) :: ("flight", flV k fl) :: ("laid", hJ (ld.map aZ)) :: rH o
noncomputable def c14 : Expr := af (aa ap 14)
theorem jq {p : P2} {v : V} : ∀ {t : List Row}, p ∉ t.map (fun r => r.2.1) → bL (t.map kg) (am p) v = t.map kg ++ [(am p, v)]
 | [], _ => rfl
 | r :: t, h => by
  show (match sq (am p) (am r.2.1) with | true => _ | false => _) = _
  rw [dE fun e => h (by rw [cx e]; exact .head _)]
  show _ :: bL (t.map kg) (am p) v = _
  rw [jq fun q => h (.tail _ q)]; rfl
section
variable {w : World} {n : Nat} {g : G} {j k : Nat} {fl : List P2} {ld t : List Row} {o : Option V}
noncomputable def Cb (ea : ao) (o : Option (Str × Str)) : ao := { cenvOf ea (cSc c14) with loc := match o with | none => [] | some x => [("name", .str x.1), ("text", .str x.2)] }
theorem yy : c14 = .DictComp (a5 c14) (mW c14) [⟨cG c14, cIt c14, [], 0⟩] (cSc c14) c14.pos := ⋯
theorem n5 {ea : ao} (he : ea = EH g j k fl (ld.map aZ) (rH o) t) : ∀ (rs done : List Row) (q : Option (Str × Str)), bg rs → (rs.map fun r => r.2.1).Nodup → (∀ r ∈ rs, r.2.1 ∉ done.map fun r => r.2.1) → d7 (DD w) n (a5 c14) (mW c14) (cG c14) [] (Cb ea q) (done.map kg) (ak (rs.map aZ)) ((done ++ rs).map kg) := by
 intro v0'
 induction v0' with
 | nil =>
  exact fun done z z z z => by rw [List.append_nil]; exact .nil
 | cons r rs ih' =>
  exact fun done q h hn hd => by
   subst he
   obtain ⟨b, p, k'⟩ := r
   have hp := h _ (.head _)
   rw [List.map_cons, List.nodup_cons] at hn
   have ih := ih' (done ++ [(b, p, k')]) (some (aZ (b, p, k'))) (fun r hr => h r (.tail _ hr)) hn.2 (fun r hr q => by
    rw [List.map_append] at q
    rcases C3' q with q | q
    ·exact hd r (.tail _ hr) q
    ·have e : r.2.1 = p := C1' q
     have := List.mem_map_of_mem (f := fun r : Row => r.2.1) hr
     rw [e] at this
     exact hn.1 this)
   have e1 : bL (done.map kg) (am p) (.str (bp k')) = (done ++ [(b, p, k')]).map kg := by
    rw [jq (hd _ (.head _)), List.map_append]; rfl
   rw [← e1, List.append_assoc] at ih
   refine .take (e1 := Cb (EH g j k fl (ld.map aZ) (rH o) t) (some (aZ (b, p, k')))) ?_ aE ?_ ?_ ih
   ·cases q <;> exact aI ⋯
   ·rw [← eY hp.1 hp.2 b]
    exact br (v := .str (am (lt b p.1, lt b p.2))) (ah ⋯ ⋯ ⋯) ⋯ (by decide) al (kh (wE hp.1 hp.2 b))
   ·exact ah ⋯ ⋯ ⋯
noncomputable def E14 (g : G) (l : Lv) (t : List Row) : ao := EG g l [("steps", bN g.ps), ("dots", ki t)] [("table", .hdr (ak (t.map aZ)))]
theorem zw (ht : bg t) (hn : (t.map fun r => r.2.1).Nodup) (hl : t.length ≤ 1000) : Sx (DD w) (n + 1) (EH g j k fl (ld.map aZ) (rH o) t) (aa ap 14) (.next (E14 g (L14 j k fl ld o) t)) := by
 have i0 : Ev (DD w) (n + 1) (EH g j k fl (ld.map aZ) (rH o) t) (cIt c14) (.list (ak (t.map aZ))) :=
  bx (mv := .hdr (ak (t.map aZ))) ⋯ ⋯ ⋯ (by decide) al (iu (by rw [bk, List.length_map]; exact A1' ‹_› (by decide)))
 have i1 : Ev (DD w) (n + 1) (EH g j k fl (ld.map aZ) (rH o) t) c14 (ki t) := by
  rw [yy]
  exact xo ⋯ (dI i0 rfl) (by rw [bk, List.length_map]; exact A1' ‹_› (by decide)) (n5 rfl t [] none ht hn fun r z q => nomatch q)
 rw [show aa ap 14 = .Assign [.Name "dots" (aw (aa ap 14)).pos] c14 (aa ap 14).pos by rfl']
 exact .name i1 (aO ⋯)
noncomputable def c15 : Expr := aj 1 (bv 1 (af (aa ap 15)))
noncomputable def stp (d : P2 → Int) (p : P2) : Str × V := (am p, .str (bp (d p).toNat))
noncomputable def zC (ea : ao) (o : Option P2) : ao := { cenvOf ea (cSc c15) with loc := match o with | none => [] | some p => [("pair", .str (am p))] }
theorem xx : c15 = .DictComp (a5 c15) (mW c15) [⟨cG c15, cIt c15, [], 0⟩] (cSc c15) c15.pos := ⋯
theorem jF {p : P2} {d : P2 → Int} {v : V} : ∀ {l : List P2}, p ∉ l → bL (l.map (stp d)) (am p) v = l.map (stp d) ++ [(am p, v)]
 | [], _ => rfl
 | q :: l, h => by
  show (match sq (am p) (am q) with | true => _ | false => _) = _
  rw [dE fun e => h (by rw [cx e]; exact .head _)]
  show _ :: bL (l.map (stp d)) (am p) v = _
  rw [jF fun q => h (.tail _ q)]; rfl
theorem gA {l : Lv} (hd : ∀ p, Los p → ∃ m : Nat, cu g.ps p = m ∧ m < 10) {ea : ao} (he : ea = E14 g l t) : ∀ (rs done : List P2) (q : Option P2), (∀ p ∈ rs, Los p) → rs.Nodup → (∀ r ∈ rs, r ∉ done) → d7 (DD w) n (a5 c15) (mW c15) (cG c15) [] (zC ea q) (done.map (stp (cu g.ps))) ((rs.map am).map .str) ((done ++ rs).map (stp (cu g.ps)))
 | [], done, _, _, _, _ => by rw [List.append_nil]; exact .nil
 | p :: rs, done, q, h, hn, hd2 => by
  subst he
  have hp := h _ (.head _)
  obtain ⟨m, hm, hm2⟩ := hd p hp
  rw [List.nodup_cons] at hn
  have ih := gA (l := l) hd (ea := E14 g l t) rfl rs (done ++ [p]) (some p) (fun r hr => h r (.tail _ hr)) hn.2 (fun r hr q => by
   rcases C3' q with q | q
   ·exact hd2 r (.tail _ hr) q
   ·exact hn.1 (C1' q ▸ hr))
  have e1 : bL (done.map (stp (cu g.ps))) (am p) (.str (bp (cu g.ps p).toNat)) = (done ++ [p]).map (stp (cu g.ps)) := by
   rw [jF (hd2 _ (.head _)), List.map_append]; rfl
  rw [← e1, List.append_assoc] at ih
  refine .take (e1 := zC (E14 g l t) (some p)) ?_ aE ?_ ?_ ih
  ·cases q <;> exact aI ⋯
  ·exact ah ⋯ ⋯ ⋯
  ·have i0 : Ev (DD w) n (zC (E14 g l t) (some p)) (aj 1 (mW c15)) (.int (m : Nat)) := by
    rw [← hm]
    obtain ⟨u, v⟩ := p
    exact d6 (aD (v := bN g.ps) ⋯ ⋯ ⋯) (ah (v := .str (am (u, v))) ⋯ ⋯ ⋯) (ck (ma hp.1 hp.2))
   rw [hm, show ((m : Int)).toNat = m from Int.toNat_natCast m, ← lu hm2]
   exact eh (aK (Constant_str (aW _ _ _))) i0 (iA ⟨by lia, by lia, by decide⟩)
theorem wz {d : P2 → Int} {u v : Nat} (hu : Lo u) (hv : Lo v) : cc (aG.map (stp d)) (am (u, v)) = some (.str (bp (d (u, v)).toNat)) :=
 lo1 hv (lo1 hu (by rfl' : (abc.map fun u => abc.map fun v => cc (aG.map (stp d)) (am (u, v))) = mp (fun u => mp (fun v => some (.str (bp (d (u, v)).toNat))) abc) abc))
theorem gY {k : Nat} : SOk (bp k) := by
 show (List.toArray (List.replicate k 46)).all _ = true
 rw [List.all_toArray, List.all_eq_true]
 intro c hc
 rw [(List.mem_replicate.mp hc).2]
 decide
theorem rZ {d : P2 → Int} : ∀ (t : List Row), bg t → (∀ r ∈ t, d r.2.1 = (r.2.2 : Nat)) → dc (DD w).prog (DD w).w (aG.map (stp d)) (t.map kg) true
 | [], _, _ => gZ
 | r :: t, h, hd => by
  obtain ⟨b, p, k⟩ := r
  have hp := h _ (.head _)
  have e : d p = (k : Nat) := hd _ (.head _)
  have l := wz (d := d) hp.1 hp.2
  rw [e, Int.toNat_natCast] at l
  have this : dc (DD w).prog (DD w).w (aG.map (stp d)) ((am p, V.str (bp k)) :: t.map kg) (PyData.eqv (.str (bp k)) (.str (bp k)) && true) := iC l (aM gY) (aM gY) (rZ t (fun r hr => h r (.tail _ hr)) fun r hr => hd r (.tail _ hr))
  rw [show PyData.eqv (.str (bp k)) (.str (bp k)) = true from beq_self_eq_true (bp k)] at this
  exact @this _ _ _ _ _
noncomputable def uU (p : Str × Str) : PyData := .tuple [.str p.1, .str p.2]
theorem o8 {prog : Program} {w : World} {n : Nat} {p : Str × Str} (h1 : SOk p.1) (h2 : SOk p.2) : eP prog w (n + 1) (fD p) (uU p) := lL (ba (aM h1) (ba (aM h2) ch))
theorem wx {b : Bool} {c : Nat} (h : Lo c) : lt b c < 128 := by
 have := h.2
 cases b
 ·show c < 128; exact B4' ‹_› (by decide)
 ·show c - 32 < 128; lia
theorem nA {r : Row} (h : Los r.2.1) : SOk (aZ r).1 ∧ SOk (aZ r).2 := ⟨dA ⟨wx h.1, wx h.2⟩, gY⟩
theorem tj {prog : Program} {w : World} {t : List Row} (h : bg t) : eP prog w 8 (.list (ak (t.map aZ))) (.list ((t.map aZ).map uU)) := by
 refine bQ (n := 7) (bP fun x hx => ?_)
 obtain ⟨r, hr, rfl⟩ := C5' hx
 exact o8 (n := 6) (nA (h r hr)).1 (nA (h r hr)).2
theorem db : ∀ p ∈ aG, Los p := fun p hp => by
 have : ∀ p ∈ aG, (97 ≤ p.1 ∧ p.1 ≤ 101) ∧ (97 ≤ p.2 ∧ p.2 ≤ 101) := by decide
 exact this p hp
theorem zD (ht : bg t) (hl : t.length = 25) (hd : ∀ p, Los p → ∃ m : Nat, cu g.ps p = m ∧ m < 10) (hr : ∀ r ∈ t, cu g.ps r.2.1 = (r.2.2 : Nat)) : Sx (DD w) (n + 1) (E14 g (L14 j k fl t o) t) (aa ap 15) (.next (E14 g (L14 j k fl t o) t)) := by
 have i0 : Ev (DD w) (n + 1) (E14 g (L14 j k fl t o) t) (aj 0 (bv 0 (af (aa ap 15)))) (.list (ak (t.map aZ))) :=
  bx (mv := .hdr (ak (t.map aZ))) ⋯ ⋯ ⋯ (by decide) al (iu (by rw [bk, List.length_map]; lia))
 have ro := tj (prog := (DD w).prog) (w := (DD w).w) ht
 have c1 : a6 (DD w).prog (DD w).w .NotEq (.list (ak (t.map aZ))) (.list (ak (t.map aZ))) (!PyData.eqv (.list ((t.map aZ).map uU)) (.list ((t.map aZ).map uU))) := lO ro ro
 rw [SeqAt.eqv_refl _ ro.1] at c1
 have i1 : Ev (DD w) (n + 1) (E14 g (L14 j k fl t o) t) (bv 0 (af (aa ap 15))) (.bool false) :=
  bo i0 (ah (v := hJ (t.map aZ)) ⋯ ⋯ ⋯) c1
 have i2 : Ev (DD w) (n + 1) (E14 g (L14 j k fl t o) t) c15 (.dict (aG.map (stp (cu g.ps)))) := by
  rw [xx]
  exact xo (xs := (aG.map am).map .str) ⋯ (dI (aD (v := bN g.ps) ⋯ ⋯ ⋯) ⋯) (by decide) (gA hd rfl aG [] none db (by decide) fun r z q => nomatch q)
 have c2 : a6 (DD w).prog (DD w).w .NotEq (ki t) (.dict (aG.map (stp (cu g.ps)))) (!((t.map kg).length == (aG.map (stp (cu g.ps))).length && true)) := kt (rZ t ht hr)
 rw [List.length_map, List.length_map, hl, show ((25 == aG.length && true) : Bool) = true from by decide] at c2
 have i3 : Ev (DD w) (n + 1) (E14 g (L14 j k fl t o) t) (bv 1 (af (aa ap 15))) (.bool false) :=
  bo (aD (v := ki t) ⋯ ⋯ ⋯) i2 c2
 rw [show aa ap 15 = .If (.BoolOp .Or [bv 0 (af (aa ap 15)), bv 1 (af (aa ap 15))] (af (aa ap 15)).pos) (an (aa ap 15)) [] (aa ap 15).pos by rfl']
 exact .ife (rf i1 i3) aR .nil
end
end
section
section
variable {D : Std} {n : Nat} {M M' F W : Ap} {env : Env} {ea ea' : ao} {s s' : Shared} {A : Around} {E : Ee}
theorem p9 {scope : Scope} {k : Nat} {cl : List (Str × Addr)} {x : Str} (hnd : e7 scope.names = true) (hm : (x, NameKind.free) ∈ scope.names) : (cellsFrom k scope.names cl).lookup x = cl.lookup x := by
 rw [bK, b7]
 cases q : (cellsFrom k scope.names []).lookup x with
 | none => rfl
 | some c =>
  have e1 := bq hnd (cy (mem_of_lookup q))
  have e2 := bq hnd hm
  rw [e1] at e2; cases e2
theorem lw {tk : Nat} (hA : bb n A) (R : Rel D M F W env ea s) (hk : tk ≤ s.toks) {iter target : Expr} {ifs : List Expr} {scope : Scope} {xs : List V} (ei : dP D n ea target iter xs) (hc : cX ea scope = true)
  {e : Expr} (hcl : clausesOf e = [⟨target, iter, ifs, 0⟩]) {pos : Pos} {newAcc : Sem Value} {use : Option (Value → Sem Unit)} {oacc : Obj} {Q : Ee}
  (hnew : ∀ {s : Shared} {Q : Ee}, Q (.ref s.heap.objs.size) { s with heap := s.heap.push oacc } → wpAny (model D.prog D.w) A newAcc Q E s) (hof : oacc.isFreed = false)
  (hrun : ∀ {s₁ s₂ : Shared} {H : Heap} {I : Addr} {fp wr : List Addr} {P Md : Nat → Value → Heap → Prop} {St : Nat → Heap → Prop} {cenv : Env}, Keeps s s₁ → s.heap.objs.size ≤ s₁.heap.objs.size → Rel D M F W env ea s₁ → s₁.heap.objs.size ≤ s₂.heap.objs.size → Keeps s₁ s₂ →
   ItK D M W A target s₁.heap I s₂ xs fp wr P Md St → (∀ b o, s₂.heap.get? b = some o → H.get? b = some o) → H.get? s₂.heap.objs.size = some oacc → s₂.heap.objs.size + 1 < H.objs.size → tk ≤ s₂.toks → cenv.locals = s₂.heap.objs.size + 1 →
   (∀ x, (x, NameKind.free) ∈ scope.names → cenv.cells.lookup x = env.cells.lookup x) →
   Rel D (fun b => M b ∨ (s₁.heap.objs.size ≤ b ∧ b < H.objs.size)) (fun b => F b ∨ (s₂.heap.objs.size + 1 ≤ b ∧ b < H.objs.size)) (fun b => s₂.heap.objs.size + 1 ≤ b ∧ b < H.objs.size) cenv (cenvOf ea scope) { s₂ with heap := H } →
   codeAny (model D.prog D.w) A (.compStart e 0 (.ref I) (.ref s₂.heap.objs.size) cenv) (compPost (model D.prog D.w) A E use Q (.ref s₂.heap.objs.size) (s₂.heap.objs.size + 1)) { s₂ with heap := H }) :
  wpAny (model D.prog D.w) A (comprehension e scope env pos newAcc false (eval iter env) use) Q E s := by
 have hfold := ei.1 env
 have hit := ei.2 (E := E) hA R
 have hc' := hc
 obtain ⟨hk1, hk2⟩ := C4' hc'
 obtain ⟨hnd, hfo⟩ := C4' hk2
 have hkind : scope.kind = .function := by unfold xR at hk1; split at hk1; assumption; cases hk1
 obtain ⟨cl, hclos, h1, h2⟩ := b6 (env := env) scope fun x hm => by
  obtain ⟨a, u, e3, _⟩ := R.cex x (bI hfo hm)
  exact ⟨a, e3⟩
 refine wpAny_comprehension_free hcl hfold hclos hkind (fun x hx hl => by
  rw [← ig]; have := bq hnd (x := x.1) (k := x.2) hx; rw [hl] at this; exact this) ?_
 refine B8' hk (wpAny_mono hit (fun x s₀ h₀ hk0 => B8' hk0 (wpAny_mono h₀ (fun iv s₂ hI htk2 => ?_) fun z z x z => x)) fun z z x z => x)
 obtain ⟨I, fp, wr, P, Md, St, s₁, rfl, hsz₁, k₁, hsz₂, k₂, T⟩ := hI
 have R₁ := R.keeps k₁ hsz₁
 refine hnew ?_
 refine kl ?_
 have hk₃ : ∀ b o, s₂.heap.get? b = some o → (s₂.heap.push oacc).get? b = some o := fun b o e => A3' _ e
 have kp₃ : Keeps s₂ { s₂ with heap := s₂.heap.push oacc } := ⟨_, s₂.toks, rfl, hk₃⟩
 obtain ⟨kp, hlt, hns, Rc⟩ := ie (qual := env.qual) R₁ (s₃ := { s₂ with heap := s₂.heap.push oacc }) (Kp.trans' k₂ kp₃) (A1' hsz₂ (aC ..)) hc h1 h2
 dsimp only at kp hlt hns Rc
 generalize hH : pushCells ((s₂.heap.push oacc).push { cls := .type "dict", data := .dict #[] }) scope.names = H at kp hlt hns Rc ⊢
 have hC : (s₂.heap.push oacc).objs.size = s₂.heap.objs.size + 1 := Heap.size_push ..
 rw [hC] at hlt hns Rc ⊢
 refine hrun k₁ hsz₁ R₁ hsz₂ k₂ T (fun b o e => Kp.get kp (hk₃ b o e)) (Kp.get kp (A4' _ hof)) hlt htk2 rfl (fun x hx => ?_) Rc
 show (cellsFrom _ scope.names cl).lookup x = _
 rw [p9 hnd hx]
 obtain ⟨a, ha⟩ := h2 x hx
 rw [ha, (h1 _ _ ha).2]
theorem lcT {tk : Nat} {elt iter target : Expr} {ifs : List Expr} {scope : Scope} {pos : Pos} {xs ys : List V} {e3 : ao} (hc : cX ea scope = true) (ei : dP D n ea target iter xs) (hl : xs.length ≤ 100000) (ec : er tk D n elt target ifs (cenvOf ea scope) xs ys e3)
  (hA : bb n A) (R : Rel D M F W env ea s) (hk : tk ≤ s.toks) : wpAny (model D.prog D.w) A (eval (.ListComp elt [⟨target, iter, ifs, 0⟩] scope pos) env) (cz D M s (.list ys)) E s := by
 rw [eval_ListComp]
 refine lw hA R hk ei hc rfl (oacc := { cls := .type "list", data := .seq #[] }) (fun h => du h) rfl fun {s₁ s₂ H I fp wr P Md St cenv} k₁ hsz₁ R₁ hsz₂ k₂ T kH ha hlt htk hloc hcell Rc => ?_
 have hd0 : ∀ b, M b → b < s₁.heap.objs.size := R₁.dom
 have kHp : Keeps s₂ { s₂ with heap := H } := ⟨H, s₂.toks, rfl, kH⟩
 have st₄ : St 0 H := T.T.frame _ _ _ T.st fun b z o e => kH b o e
 have hM0 : ∀ b, (M b ∨ (s₁.heap.objs.size ≤ b ∧ b < H.objs.size)) → M b ∨ s₁.heap.get? b = none := fun b q => by
  rcases q with q | q
  ·exact .inl q
  ·right
   cases e : s₁.heap.get? b with
   | none => rfl
   | some o => exact absurd (A5' e) (Nat.not_lt.mpr q.1)
 have loop : codeAny (model D.prog D.w) A (.compLoop (.ListComp elt [⟨target, iter, ifs, 0⟩] scope pos) 0 (.ref I) (.ref s₂.heap.objs.size) cenv) (compPost (model D.prog D.w) A E none (cz D M s (.list ys)) (.ref s₂.heap.objs.size) (s₂.heap.objs.size + 1)) { s₂ with heap := H } := by
  refine eD (Wl := fun z => False) hA T hM0 ?_ ?_ ?_ (fun b q => q.elim) ?_ (fun s' k' R' hk' hv => ?_) Rc (Kp.toW (Kp.trans' k₂ kHp)) st₄ ⟨_, ha⟩ (A1' ec.len hl) htk ec
  ·intro b hb
   have hs : @LT.lt Nat _ b s₂.heap.objs.size := T.fpS b hb
   exact ⟨fun q => by have q1 := q.1; lia, A8' hs⟩
  ·intro b hb
   have hs : @LT.lt Nat _ b s₂.heap.objs.size := T.fpS b (T.T.sub b hb)
   have hw : @LE.le Nat _ s₁.heap.objs.size b := T.wrN b hb
   refine ⟨.inr ⟨hw, Nat.lt_trans hs (Nat.lt_of_succ_lt hlt)⟩, fun q => ?_⟩
   rcases q with q | q
   ·have h9 : @LT.lt Nat _ b s₁.heap.objs.size := hd0 b (R.fm b q); exact Nat.not_le_of_lt ‹_› ‹_›
   ·have q1 := q.1; lia
  ·intro b q; have q1 := q.1; exact .inr (by lia)
  ·refine ⟨.inr ⟨hsz₂, Nat.lt_of_succ_lt hlt⟩, fun q => ?_, hsz₂⟩
   rcases q with q | q
   ·have h9 : @LT.lt Nat _ s₂.heap.objs.size s₁.heap.objs.size := hd0 _ (R.fm _ q); exact Nat.not_le_of_lt ‹_› ‹_›
   ·have q1 := q.1; exact A7' _ ‹_›
  ·obtain ⟨vs, m', hg, rv⟩ := hv
   obtain ⟨m, hm, _⟩ := R'.loc
   rw [hloc] at hm
   have k'' : aq (fun b => s₁.heap.objs.size ≤ b) s₁ s' := k'.sub fun b q => q.elim (fun q => q.elim) id
   refine b5 ⟨Kp.trans' k₁ (k''.keeps (A6' _)), ?_, B6' (A1' hsz₁ hsz₂), hm.lt, ⟨m, hm⟩, .list ?_ hg (rv.mono (fun z z z e => e) fun b q => .inl ?_)⟩
   ·have h8 : @LT.lt Nat _ (s₂.heap.objs.size + 1) s'.heap.objs.size := hm.lt
    lia
   ·intro q
    rcases q with q | q
    ·have h9 : @LT.lt Nat _ s₂.heap.objs.size s₁.heap.objs.size := hd0 _ q; exact Nat.not_le_of_lt ‹_› ‹_›
    ·exact absurd q (A8' (Nat.lt_succ_self _))
   ·rcases q with q | q
    ·exact .inl q
    ·exact .inr ⟨q ▸ B6' hsz₂, q ▸ hlt⟩
 exact codeAny_compStart_list loop (T.self _ _ _ st₄ loop)
end
end
section
section
variable {w : World} {n : Nat} {M M' F F' W W' : Ap} {env cenv : Env} {ea ea' : ao} {s s' : Shared} {A : Around} {E : Ee}
theorem wv {h : Heap} {d : Addr} {m m' : Str → Option Value} (a : h.Ns d m) (b : h.Ns d m') (x : Str) : m x = m' x := by
 obtain ⟨o, es, ep, e1, d1, _, k1⟩ := a
 obtain ⟨o', es', ep', e2, d2, _, k2⟩ := b
 rw [e1] at e2; cases e2; rw [d1] at d2; cases d2
 rw [← k2, k1]
set_option tactic.hygienic true in
theorem jw {h h' : Heap} {a l l' : Addr} {xs xs' : List V} (r : cj (DD w) M h a l (.hdr xs)) (k : ∀ b o, ¬ M b → h.get? b = some o → h'.get? b = some o) (r' : cj (DD w) M' h' a l' (.hdr xs')) : l' = l := by
 cases r with | hdr ho hd hm hx hl rr ha hdw =>
 cases r' with | hdr ho' hd' hm' hx' hl' rr' ha' hdw' =>
 rename_i d vs n0 m d' vs' n0' m'
 have e := k _ _ ha ho
 rw [ho'] at e
 have e : d' = d := by
  have := congrArg (fun o => o.map Obj.dict) e
  simpa [DD] using this
 subst e
 have hd2 := hd.at' fun o e => k _ _ hdw e
 have := wv hd' hd2 "_headers"
 rw [hm, hm'] at this
 cases this
 rfl
theorem mj {h : Heap} {c : Addr} {u v : Option Value} (a : h.IsCell c u) (b : h.IsCell c v) : u = v := by
 obtain ⟨o, e, d⟩ := a
 obtain ⟨o', e', d'⟩ := b
 rw [e] at e'; cases e'; rw [d] at d'; cases d'; rfl
theorem ku {D : Std} (R : Rel D M F W env ea s) {x : Str} {mv : MV} (e : lk ea.mo x = some mv) (q : lk ea.names x = some .cell) : ∃ a l c, env.cells.lookup x = some c ∧ s.heap.IsCell c (some (.ref a)) ∧ l ≠ env.locals ∧ F l ∧ wh ea.mw W l ∧ cj D M s.heap a l mv := by
 obtain ⟨m, hm, _, hu⟩ := R.loc
 obtain ⟨a, l, ne, hF, hw, r, z⟩ := hu x mv e
 rcases z with ⟨z, _⟩ | ⟨_, c, z1, z2⟩
 ·rw [q] at z; cases z
 ·exact ⟨a, l, c, z1, z2, ne, hF, hw, r⟩
set_option tactic.hygienic true in
theorem xt {D : Std} (R : Rel D M F W env ea s) {x : Str} {mv : MV} (hmo : ea.mo = [(x, mv)]) (q : lk ea.names x = some .cell) : ∃ a l c, env.cells.lookup x = some c ∧ s.heap.IsCell c (some (.ref a)) ∧ l ≠ env.locals ∧ F l ∧ cj D M s.heap a l mv ∧ (ea.tw = false → Rel D M F (fun b => W b ∨ b = l) env { ea with mw := true } s) := by
 have e : lk ea.mo x = some mv := by rw [hmo]; unfold lk; rw [bi]
 obtain ⟨a, l, c, h1, h2, h3, h4, h5, h6⟩ := ku R e q
 refine ⟨a, l, c, h1, h2, h3, h4, h6, fun htw => ?_⟩
 refine { R with cex := fun y hy => ?_, loc := ?_, wf := fun b hb => hb.elim (R.wf b) (fun h => h ▸ h4), ml := .inl R.ml, tw := fun hh => ?_ }
 ·obtain ⟨a', u, z1, z2, z3⟩ := R.cex y hy
  exact ⟨a', u, z1, z2, fun h => .inl (z3 h)⟩
 ·obtain ⟨m, hm, hl, _⟩ := R.loc
  refine ⟨m, hm, hl, fun y mv' ey => ?_⟩
  have ey : lk ea.mo y = some mv' := ey
  have hy : y = x := by
   rw [hmo] at ey
   unfold lk at ey
   split at ey
   ·rename_i hq; exact aN.mp hq
   ·cases ey
  subst hy
  rw [e] at ey
  cases ey
  exact ⟨a, l, h3, h4, ⟨fun z => .inr rfl, fun h => nomatch h⟩, h6, .inr ⟨.inl q, c, h1, h2⟩⟩
 ·have hh : ea.tw = true := hh
  rw [htw] at hh; cases hh
theorem lcM {elt iter target : Expr} {ifs : List Expr} {scope : Scope} {pos : Pos} {xs ys rs rs' : List V} {x : Str} {e3 : ao} (hc : cX ea scope = true) (ei : dP (DD w) n ea target iter xs) (hl : xs.length ≤ 100000) (hmw : ea.mw = true)
  (hmo : ea.mo = [(x, .hdr rs)]) (hq : lk ea.names x = some .cell) (hf : lk scope.names x = some .free) (hcm : (cenvOf ea scope).mo = [(x, .hdr rs)]) (hmo3 : lk e3.mo x = some (.hdr rs'))
  (ec : er 0 (DD w) n elt target ifs { cenvOf ea scope with mw := true } xs ys e3) : FxT 0 (DD w) n ea (.ListComp elt [⟨target, iter, ifs, 0⟩] scope pos) { ea with mo := [(x, .hdr rs')] } (.list ys) := fun {M F W env s A E} hA R hk => by
 rw [eval_ListComp]
 refine AI fun Q hQ => ?_
 refine lw hA R hk ei hc rfl (oacc := { cls := .type "list", data := .seq #[] }) (fun h => du h) rfl fun {s₁ s₂ H I fp wr P Md St cenv} k₁ hsz₁ R₁ hsz₂ k₂ T kH ha hlt htk hloc hcell Rc => ?_
 have hd0 : ∀ b, M b → b < s₁.heap.objs.size := R₁.dom
 have kHp : Keeps s₂ { s₂ with heap := H } := ⟨H, s₂.toks, rfl, kH⟩
 have k14 : Keeps s₁ { s₂ with heap := H } := Kp.trans' k₂ kHp
 have st₄ : St 0 H := T.T.frame _ _ _ T.st fun b y o e => kH b o e
 have hfree : (x, NameKind.free) ∈ scope.names := fY hf
 have hq2 : lk (cenvOf ea scope).names x = some .cell := by
  show lk (bB ea scope.names) x = _
  rw [cn, hf]
  show some (b9 ea x .free) = _
  unfold b9; rw [hq]
 have e0 : lk ea.mo x = some (.hdr rs) := by rw [hmo]; unfold lk; rw [bi]
 obtain ⟨a, l, c, o1, o2, o3, o4, o5, o6⟩ := ku R₁ e0 hq
 obtain ⟨a', l', c', p1, p2, p3, p4, p6, Ro⟩ := xt Rc hcm hq2
 have Ro := Ro rfl
 rw [hcell x hfree, o1] at p1
 cases p1
 have hcF : F c := R₁.clF _ _ o1
 have hcs : @LT.lt Nat _ c s₁.heap.objs.size := hd0 _ (R₁.fm _ hcF)
 have ea1 : a' = a := by
  have := mj p2 (IsCell.at' o2 fun o e => Kp.get k14 e)
  cases this; rfl
 subst ea1
 have el1 : l' = l := jw o6 (fun b o y e => Kp.get k14 e) p6
 subst el1
 have hls : @LT.lt Nat _ l' s₁.heap.objs.size := hd0 _ (R₁.fm _ o4)
 have hWl : W l' := o5.1 hmw
 have hM0 : ∀ b, (M b ∨ (s₁.heap.objs.size ≤ b ∧ b < H.objs.size)) → M b ∨ s₁.heap.get? b = none := fun b q => by
  rcases q with q | q
  ·exact .inl q
  ·right
   cases e : s₁.heap.get? b with
   | none => rfl
   | some o => exact absurd (A5' e) (Nat.not_lt.mpr q.1)
 have loop : codeAny (model (DD w).prog (DD w).w) A (.compLoop (.ListComp elt [⟨target, iter, ifs, 0⟩] scope pos) 0 (.ref I) (.ref s₂.heap.objs.size) cenv) (compPost (model (DD w).prog (DD w).w) A E none Q (.ref s₂.heap.objs.size) (s₂.heap.objs.size + 1)) { s₂ with heap := H } := by
  refine eD (Wl := fun b => b = l') hA T hM0 ?_ ?_ ?_ (fun b q => q ▸ R₁.fm _ o4) ?_ (fun s' k' R' hk' hv => ?_) Ro (Kp.toW k14) st₄ ⟨_, ha⟩ (A1' ec.len hl) htk ec
  ·intro b hb
   have hs : @LT.lt Nat _ b s₂.heap.objs.size := T.fpS b hb
   refine ⟨fun q => ?_, A8' hs⟩
   rcases q with q | q
   ·have q1 := q.1; lia
   ·subst q
    rcases T.fpI _ hb with h | h
    ·have h1 : @LE.le Nat _ s₁.heap.objs.size b := T.wrN _ h; exact Nat.not_le_of_lt ‹_› ‹_›
    ·exact h hWl
  ·intro b hb
   have hs : @LT.lt Nat _ b s₂.heap.objs.size := T.fpS b (T.T.sub b hb)
   have hw : @LE.le Nat _ s₁.heap.objs.size b := T.wrN b hb
   refine ⟨.inr ⟨hw, Nat.lt_trans hs (Nat.lt_of_succ_lt hlt)⟩, fun q => ?_⟩
   rcases q with q | q
   ·have h9 : @LT.lt Nat _ b s₁.heap.objs.size := hd0 b (R.fm b q); exact Nat.not_le_of_lt ‹_› ‹_›
   ·have q1 := q.1; lia
  ·intro b q
   rcases q with q | q
   ·have q1 := q.1; exact .inr (by lia)
   ·exact .inl q
  ·refine ⟨.inr ⟨hsz₂, Nat.lt_of_succ_lt hlt⟩, fun q => ?_, hsz₂⟩
   rcases q with q | q
   ·have h9 : @LT.lt Nat _ s₂.heap.objs.size s₁.heap.objs.size := hd0 _ (R.fm _ q); exact Nat.not_le_of_lt ‹_› ‹_›
   ·have q1 := q.1; exact A7' _ ‹_›
  ·obtain ⟨vs, m', hg, rv⟩ := hv
   obtain ⟨m, hm, _⟩ := R'.loc
   rw [hloc] at hm
   refine ⟨m, hm, fun h' hs => ?_⟩
   have hnm : e3.names = (cenvOf ea scope).names := R'.nm.symm.trans Rc.nm
   obtain ⟨a2, l2, c2, z1, z2, z3, z4, z5, z6⟩ := ku R' hmo3 (by rw [hnm]; exact hq2)
   rw [hcell x hfree, o1] at z1
   cases z1
   have kc : ∀ b o, ¬ (b = l' ∨ s₁.heap.objs.size ≤ b) → s₁.heap.get? b = some o → s'.heap.get? b = some o := fun b o q e => k'.get q e
   have hcl : c ≠ l' := (o6.notCell o2).symm
   have hc2 : s'.heap.IsCell c (some (.ref a')) := IsCell.at' o2 fun o e => kc _ _ (fun q => q.elim hcl fun q => by lia) e
   have e2 : a2 = a' := by
    have := mj z2 hc2
    cases this; rfl
   subst e2
   have notl : ∀ b o, ¬ M b → s₁.heap.get? b = some o → s'.heap.get? b = some o := fun b o q e => kc _ _ (fun z => z.elim (fun z => q (z ▸ R₁.fm _ o4)) fun z => A7' _ (A2' (A5' e) z)) e
   have el2 : l2 = l' := jw o6 notl z6
   subst el2
   have hz' : @LT.lt Nat _ (s₂.heap.objs.size + 1) s'.heap.objs.size := hm.lt
   have hzh : h'.objs.size = s'.heap.objs.size := hs.1
   obtain ⟨h₁, t₁, e₁, kk₁⟩ := k'
   subst e₁
   have kW : aq (fun b => b = l2) s₁ { s₁ with heap := h', toks := t₁ } := ⟨h', t₁, rfl, fun b o q e => by
    have hb := A5' e
    have h1 := kk₁ b o (fun z => z.elim q fun z => A7' _ (A2' hb z)) e
    refine (hs.2 b (A8' ?_)).trans h1
    have hb : @LT.lt Nat _ b s₁.heap.objs.size := hb
    show @LT.lt Nat _ b (s₂.heap.objs.size + 1)
    lia⟩
   have hz2 : @LE.le Nat _ s₁.heap.objs.size h'.objs.size := by
    rw [hzh]
    have : @LT.lt Nat _ (s₂.heap.objs.size + 1) h₁.objs.size := hz'
    show @LE.le Nat _ s₁.heap.objs.size h₁.objs.size
    lia
   have mo' : cj (DD w) M h' a2 l2 (.hdr rs') := z6.grow (s' := { s₁ with heap := h', toks := t₁ }) (M' := M) (fun b o q e => (hs.2 b fun z => q (.inr ⟨z ▸ B6' hsz₂, z ▸ hlt⟩)).trans e) (fun b q => .inl (.inl q)) fun o e => (hs.2 l2 (A8' (by show @LT.lt Nat _ l2 (s₂.heap.objs.size + 1); lia))).trans e
   have Rf := R₁.mutate (x := x) (.inr ⟨.inl hq, c, o1, o2⟩) o3 o4 o5 o6 kW hz2 mo'
   refine hQ _ _ ⟨?_, (Kp.toW k₁).trans (kW.sub fun b q => q ▸ hWl), Rf, .list (n := m') (vs := vs) ?_ ?_ (rv.mono (fun b o q e => (hs.2 b fun z => q (.inr ⟨z ▸ B6' hsz₂, z ▸ hlt⟩)).trans e) fun b q => .inl (.inl q))⟩
   ·exact A1' hsz₁ hz2
   ·intro q
    have h9 : @LT.lt Nat _ s₂.heap.objs.size s₁.heap.objs.size := hd0 _ q
    exact Nat.not_le_of_lt ‹_› ‹_›
   ·exact (hs.2 _ (A8' (Nat.lt_succ_self _))).trans hg
 exact codeAny_compStart_list loop (T.self _ _ _ st₄ loop)
theorem Sx.ifFx {D : Std} {l r : Expr} {op : CmpOp} {p pos : Pos} {a b : V} {c : Bool} {bd o : List Stmt} {out : Out} (hl : FxT 0 D n ea l ea' a) (hr : Ev D n ea' r b) (hc : a6 D.prog D.w op a b c) (hb : Bx D n ea' (if c = true then bd else o) out) : Sx D n ea (.If (.Compare l [op] [r] p) bd o pos) out :=
 ⟨fun {M F W env s A E} hA R => by
  refine wpAny_If (wpAny_isTrue_Compare1 (au (hl hA R (A9' _)) fun u s₁ g => ?_) (hr.pl.marks op))
  obtain ⟨z1, k1, R1, r1⟩ := g
  refine au (hr.ev hA R1) fun v s₂ g₂ => ?_
  obtain ⟨z2, k2, r2⟩ := g₂
  have R2 := R1.keeps k2 z2
  refine au (bh (hc (r1.keeps fun z z e => Kp.get k2 e) r2 (by have := hA.units; lia))) fun q s₃ g₃ => ?_
  obtain ⟨z3, k3, r3⟩ := g₃
  have R3 := R2.keeps k3 z3
  refine au ((aR (D := D) (b := c)).2 r3) fun c' s₄ g₄ => ?_
  obtain ⟨rfl, z4, k4⟩ := g₄
  have R4 := R3.keeps k4 z4
  have := au (hb.h (E := E) hA R4) fun z z g => g.then (((k1.trans (Kp.toW k2)).trans (Kp.toW k3)).trans (Kp.toW k4)) (A1' z1 (A1' z2 (A1' z3 z4)))
  cases c' <;> exact this⟩
end
end
section
theorem wX {prog : Program} {w : World} {op : CmpOp} {a b : V} {c : Bool} (h : (Bt prog w op a b).map (·.1) = some c) : a6 prog w op a b c := by
 cases q : Bt prog w op a b with
 | none => rw [q] at h; cases h
 | some r => rw [q] at h; cases h; exact r.2
noncomputable def fh (x : Nat) : Row := (false, (x, x), 0)
noncomputable def c12 : Expr := aj 0 (af (aa ap 12))
section
variable {w : World} {n : Nat} {g : G} {j : Nat}
theorem xn {b : Bool} {t : List Row} {u v k : Nat} (h : bg t) (hu : Lo u) (hv : Lo v) (hk : k < 10) (hn : t.length ≤ 9000) (hl : look t (u, v) = none) : rB (DD w) (n + 1 + 1 + 1) "setdefault" (.hdr (ak (t.map aZ))) [.str (am (lt b u, lt b v)), .str (bp k)] (.hdr (ak ((t ++ [(b, (u, v), k)]).map aZ))) (.str (bp k)) := by
 have e := ii (p := (u, v)) h
 rw [← eY hu hv b, hl] at e
 have := @oD w n (t.map aZ) (am (lt b u, lt b v)) (bp k) (wE hu hv b) (by rw [eY hu hv]; exact jD hu hv false) (jN h) e (jD hu hv b) (gx hk) (by rw [bk, List.length_map]; exact A1' ‹_› (by decide))
 rw [show (t ++ [(b, (u, v), k)]).map aZ = t.map aZ ++ [(am (lt b u, lt b v), bp k)] by rw [List.map_append]; rfl]
 exact @this
noncomputable def fl0 : List P2 := abc.map fun x => (x, x)
noncomputable def E12 (g : G) (j : Nat) (t : List Row) : ao := EH g j 1 fl0 ((abc.map fh).map aZ) [] t
noncomputable def cM (g : G) (j : Nat) (o : Option (Str × Str)) (t : List Row) : ao := { cenvOf (E12 g j []) (cSc c12) with mw := true, mo := [("table", .hdr (ak (t.map aZ)))], loc := match o with | none => [] | some x => [("name", .str x.1), ("text", .str x.2)] }
theorem ws : c12 = .ListComp (a5 c12) [⟨cG c12, cIt c12, [], 0⟩] (cSc c12) c12.pos := ⋯
theorem jy {t : List Row} {p : P2} (h : ∀ r ∈ t, r.2.1 ≠ p) : look t p = none := by
 induction t with
 | nil => rfl
 | cons r t ih =>
  show (match r.2.1 == p with | true => some r.2.2 | false => look t p) = none
  rw [beq_eq_false_iff_ne.mpr (h r (.head _))]
  exact ih fun q hq => h q (.tail _ hq)
theorem yi : ∀ (xs : List Nat) (t : List Row) (o : Option (Str × Str)), (∀ x ∈ xs, Lo x) → xs.Nodup → bg t → (∀ r ∈ t, ∀ x ∈ xs, r.2.1 ≠ (x, x)) → t.length + xs.length ≤ 9000 →
  ∃ o', er 0 (DD w) (n + 1 + 1 + 1) (a5 c12) (cG c12) [] (cM g j o t) (ak ((xs.map fh).map aZ)) (xs.map fun z => .str (bp 0)) (cM g j o' (t ++ xs.map fh)) := by
 intro v0'
 induction v0' with
 | nil =>
  exact fun t o z z z z z => ⟨o, by rw [List.map_nil, List.append_nil]; exact .nil⟩
 | cons x xs ih' =>
  exact fun t o hx hnd ht hd hn => by
   rw [List.length_cons] at hn
   rw [List.nodup_cons] at hnd
   have hx1 := hx x (.head _)
   obtain ⟨o', ih⟩ := ih' (t ++ [fh x]) (some (aZ (fh x))) (fun y hy => hx y (.tail _ hy)) hnd.2 (fun r hr => by
    rcases C3' hr with hr | hr
    ·exact ht r hr
    ·rw [C1' hr]; exact ⟨hx1, hx1⟩) (fun r hr y hy => by
    rcases C3' hr with hr | hr
    ·exact hd r hr y (.tail _ hy)
    ·rw [C1' hr]
     intro e
     have : x = y := congrArg Prod.fst e
     exact hnd.1 (this ▸ hy)) (by rw [List.length_append]; show t.length + 1 + _ ≤ _; lia)
   refine ⟨o', ?_⟩
   rw [show t ++ (x :: xs).map fh = t ++ [fh x] ++ xs.map fh by simp]
   have m := @xn w n false t x x 0 ht hx1 hx1 (by decide) (by exact A1' (Nat.le_add_right ..) ‹_›) (jy fun r hr => hd r hr x (.head _))
   have fx : FxE (DD w) (n + 1 + 1 + 1) (cM g j (some (aZ (fh x))) t) (a5 c12) (cM g j (some (aZ (fh x))) (t ++ [fh x])) (.str (bp 0)) :=
    dU (mv := .hdr (ak (t.map aZ))) (mv' := .hdr (ak ((t ++ [fh x]).map aZ))) ⋯ ⋯ ⋯ ⋯ (by decide) (ai (ah (v := .str (am (x, x))) ⋯ ⋯ ⋯) (ai (ah (v := .str (bp 0)) ⋯ ⋯ ⋯) al)) @m
   refine .take (e1 := cM g j (some (aZ (fh x))) t) ?_ aE fx.fxT ih
   cases o <;> exact aI ⋯
theorem zJ : Sx (DD w) (n + 1 + 1 + 1) (E12 g j []) (aa ap 12) (.next (E12 g j (abc.map fh))) := by
 obtain ⟨o', c⟩ := yi (w := w) (n := n) (g := g) (j := j) abc [] none bG (by decide) (fun r hr => nomatch hr) (fun r hr => nomatch hr) (by decide)
 have f : FxT 0 (DD w) (n + 1 + 1 + 1) (E12 g j []) c12 (E12 g j (abc.map fh)) (.list (abc.map fun z => .str (bp 0))) := by
  rw [ws]
  exact lcM (x := "table") (rs := []) (rs' := ak ((abc.map fh).map aZ)) ⋯ (dI (ah (v := hJ ((abc.map fh).map aZ)) ⋯ ⋯ ⋯) rfl) (by decide) ⋯ ⋯ ⋯ ⋯ ⋯ ⋯ c
 rw [show aa ap 12 = .If (.Compare c12 [.NotEq] [aj 1 (af (aa ap 12))] (af (aa ap 12)).pos) (an (aa ap 12)) [] (aa ap 12).pos by rfl']
 exact .ifFx (c := false) (b := .list (abc.map fun z => .str (bp 0))) f (aF (T := TB w (n + 1 + 1 + 1)) (k := 9) ⋯) (wX ⋯) .nil
end
end
section
section
variable {D : Std} {n : Nat} {M F W : Ap} {env : Env} {ea ea' : ao} {s s' : Shared} {A : Around} {E : Ee}
theorem dJ.sta {x y : Str} {u : Tok} (h : dJ D ea x (.sta (.str y u))) : dJ D ea x (.str y) := fun R => au (h R) fun v z g => by
 obtain ⟨k, r⟩ := g
 have := r.sta_inv
 subst this
 exact ⟨k, .str _ _⟩
theorem jB {x y : Str} {p : Pos} {u : Tok} (hx : sq x "__debug__" = false) (q : lk ea.names x = some .cell) (e : lk ea.cel x = some (.sta (.str y u))) : Ev D n ea (.Name x p) (.str y) := jj hx (dJ.sta (g0 q e))
theorem mF {o : Str} {op apos pos : Pos} {x : Str} {xp cp : Pos} {kk : Nat} {y z : Str} {u : Tok} (hu : u ≠ 0) (ho : sq o "__debug__" = false) (hol : lk ea.names o = some .local) (hoe : lk ea.loc o = some (.str z)) (hx : sq x "__debug__" = false) (hxq : lk ea.names x = some .cell) (hxe : lk ea.cel x = some (.sta (.str y u)))
  (hl : (apos.endLine == pos.line) = true) (hy : (y == "") = false) (hz : z.length ≤ 1000) : FxT (u + 1) D n ea (.Call (.Attribute (.Name o op) "replace" apos) [.Name x xp, .Constant (.str "") kk cp] [] pos) ea (.str (Txt.replace z y "")) := fun {M F W env s A E} hA R hk => by
 have ev : Evs D n ea [.Name x xp, .Constant (.str "") kk cp] [.sta (.str y u), .str ""] := ai (aD hx hxq hxe) (ai (aK (Constant_str (aW _ _ _))) al)
 refine pA rfl hl (show 2 < 20 by decide) ev ?_
 refine B8' hk (au ((ah (p := op) ho hol hoe : Ev D n ea _ _).ev hA R) fun ov s₁ g hk1 => ?_)
 obtain ⟨z1, k1, r1⟩ := g
 obtain ⟨t, rfl⟩ := r1.str_inv
 refine au (GM.replace (Q := fun p s₂ => s₂ = s₁ ∧ p = (.builtin "str.replace", [.str z t])) ⟨rfl, rfl⟩) fun p s₂ h₂ => ?_
 obtain ⟨rfl, rfl⟩ := h₂
 have R₁ := R.keeps k1 z1
 show wpAny _ _ (spliced [(false, _), (false, _)]) _ _ _
 refine spliced_cons (B8' hk1 (au ((aD (p := xp) hx hxq hxe : Ev D n ea _ _).ev hA R₁) fun xv s₃ g₃ hk3 => ?_))
 obtain ⟨z3, k3, r3⟩ := g₃
 have := r3.sta_inv
 subst this
 refine spliced_cons (Constant_str (k := kk) (pos := cp) (spliced_nil ?_))
 refine ⟨.inl (fun a e => nomatch e), ?_⟩
 have hk3 : u + 1 ≤ s₃.toks := hk3
 refine SC.replace (v := s₃.toks) hu (show @Ne Nat _ _ by lia) (show @Ne Nat _ _ by exact A8' ‹_›) hy (by rw [show (Str.ofString "").length = 0 from by rfl']; exact A1' ‹_› (by decide)) fun t' k => ?_
 have k5 : Keeps s { s₃ with toks := k } := Kp.trans' (Kp.trans' k1 k3) (Kp.toks' s₃ k)
 have hz : s.heap.objs.size ≤ s₃.heap.objs.size := A1' z1 z3
 exact ⟨hz, Kp.toW k5, R.keeps k5 hz, .str _ _⟩
end
end
section
inductive f9 (D : Std) (n : Nat) (kx vx target : Expr) : ao → Lv → List Nat → Lv → Prop
 | nil {ea acc} : f9 D n kx vx target ea acc [] acc
 | take {ea acc c cs ys} {e1 : Tok → ao} {v : V} : (∀ u, bw D ea target (.sta (.str ⟨#[c]⟩ u)) (e1 u)) → (∀ u, Ev D n (e1 u) kx (.str ⟨#[c]⟩)) → (∀ u, u ≠ 0 → FxT (u + 1) D n (e1 u) vx (e1 u) v) → (∀ u, f9 D n kx vx target (e1 u) (bL acc ⟨#[c]⟩ v) cs ys) → f9 D n kx vx target ea acc (c :: cs) ys
inductive Dz (D : Std) (n : Nat) (M F W : Ap) (env : Env) (kx vx target : Expr) (s₁ : Shared) (acc I : Addr) (X : Str) (t0 : Tok) (ys : Lv) (q : Nat) (s' : Shared) : Prop
 | mk (i : Nat) (ea' : ao) (done : Lv) (kvs : Lw) (hq : q = X.cps.size - i) (hi : i ≤ X.cps.size) (hdl : done.length ≤ i) (ec : f9 D n kx vx target ea' done (X.cps.toList.drop i) ys) (hk : 1 ≤ s'.toks) (R : Rel D M F W env ea' s')
   (ks : aq (fun b => s₁.heap.objs.size ≤ b) s₁ s') (st : s'.heap.IsStrIter I "str_ascii_iterator" X t0 i) (ha : s'.heap.DictOf (PySem.strKind D.prog D.w) acc kvs) (rv : VRd D.prog D.w M s'.heap kvs done)
section
variable {D : Std} {n : Nat} {M M' F W : Ap} {env : Env} {ea ea' : ao} {s s' : Shared} {A : Around} {E : Ee}
set_option tactic.hygienic true in
theorem jV (hA : bb n A) {s₁ : Shared} {x : Str} {p0 : Pos} {I acc : Addr} {X : Str} {t0 : Tok} (hI : M I ∧ ¬ F I ∧ s₁.heap.objs.size ≤ I ∧ I ≠ acc) (hWk : ∀ b, W b → s₁.heap.objs.size ≤ b) (hacc : M acc ∧ ¬ F acc ∧ s₁.heap.objs.size ≤ acc)
  {kx vx iter : Expr} {scope : Scope} {pos : Pos} {ys : Lv} {RR : Result → Shared → Prop}
  (hR : ∀ s', aq (fun b => s₁.heap.objs.size ≤ b) s₁ s' → (∃ ea', Rel D M F W env ea' s') → (∃ kvs, s'.heap.DictOf (PySem.strKind D.prog D.w) acc kvs ∧ VRd D.prog D.w M s'.heap kvs ys) → RR (.ok .next) s')
  (R : Rel D M F W env ea s) (ks : aq (fun b => s₁.heap.objs.size ≤ b) s₁ s) (st : s.heap.IsStrIter I "str_ascii_iterator" X t0 0) (hac : s.heap.DictOf (PySem.strKind D.prog D.w) acc []) (hl : X.cps.size ≤ 100000) (htk : 1 ≤ s.toks)
  (e : f9 D n kx vx (.Name x p0) ea [] X.cps.toList ys) :
  codeAny (model D.prog D.w) A (.compLoop (.DictComp kx vx [⟨.Name x p0, iter, [], 0⟩] scope pos) 0 (.ref I) (.ref acc) env) RR s := by
 obtain ⟨Inv, hv⟩ : ∃ J : Nat → Shared → Prop, ∀ q s', Dz D n M F W env kx vx (.Name x p0) s₁ acc I X t0 ys q s' ↔ J q s' := ⟨_, fun z z => .rfl⟩
 refine d5 Inv ?_ X.cps.size ?_
 ·intro q s' hq
  obtain ⟨i, ea', done, kvs, rfl, hi, hdl, ec, hk0, R', ks', st', ha, rv⟩ := (hv _ _).mpr hq
  by_cases hlt : i < X.cps.size
  ·have hget : X.cps[i]? = some X.cps[i] := by simp [hlt]
   have hd : X.cps.toList.drop i = X.cps[i] :: X.cps.toList.drop (i + 1) := by
    rw [List.drop_eq_getElem_cons (by simpa using hlt)]
    simp
   rw [hd] at ec
   generalize X.cps[i] = c at ec hget
   cases ec with | take ea1 ek eu ec =>
   rename_i e1 u
   refine aA (wpAny_pyNext_ascii_item st' hget fun h₁ hit₁ hs₁ hsz₁ => ?_)
   have kX₁ : aq (fun b => b = I) s' { s' with heap := h₁, toks := s'.toks + 1 } := ⟨h₁, _, rfl, fun b o q e => (hs₁.2 b q).trans e⟩
   have R₁ := R'.growX kX₁ (fun b hb => hb ▸ ⟨hI.1, hI.2.1⟩) hsz₁ (fun z q => q) (fun z q => .inl q) (R'.dom.size hsz₁) R'.mb
   have ha₁ := DictOf.at' (h' := h₁) ha fun o => kX₁.get hI.2.2.2.symm
   have ks₁ := ks'.trans (kX₁.sub fun b hb => hb ▸ hI.2.2.1)
   have rv₁ : VRd D.prog D.w M h₁ kvs done := rv.mono' (h' := h₁) fun b o q e => (hs₁.2 b fun hb => q (hb ▸ hI.1)).trans e
   dsimp only
   have hu : s'.toks ≠ 0 := by have : 1 ≤ s'.toks := hk0; show @Ne Nat _ _; exact Nat.ne_of_gt ‹_›
   have hk1 : s'.toks + 1 ≤ ({ s' with heap := h₁, toks := s'.toks + 1 } : Shared).toks := A6' _
   have hgo : letOwnedTupleGo (.Name x p0) (.ref I) (.str ⟨#[c]⟩ s'.toks) = pure () := rfl
   rw [hgo]
   refine Wq ?_
   refine B8' hk1 (ea1 s'.toks hA.handled R₁ (.val (.sta _)) fun s₃ k₃ R₃ hk3 => ?_)
   refine wpAny_tests_nil ?_
   rw [if_pos rfl]
   refine B8' hk3 (au ((ek s'.toks).ev hA R₃) fun kv s₅ g₅ hk5 => ?_)
   have R₅ := R₃.keeps g₅.2.1 g₅.1
   obtain ⟨tk, rfl⟩ := g₅.2.2.str_inv
   refine B8' hk5 (au (eu s'.toks hu hA R₅ hk5) fun uv s₆ g₆ hk6 => ?_)
   obtain ⟨z6, k6, R₆, r6⟩ := g₆
   have k46 : aq W s₃ s₆ := (Kp.toW g₅.2.1).trans k6
   have old : ∀ b o, ¬ W b → h₁.get? b = some o → s₆.heap.get? b = some o := fun b o q e => k46.get q (k₃.get q e)
   have ha₆ := DictOf.at' (h' := s₆.heap) ha₁ fun o => old _ o fun hw => hacc.2.1 (R'.wf _ hw)
   have rv₆ : VRd D.prog D.w M s₆.heap kvs done := rv₁.mono' fun b o q e => old b o (fun hw => q (R'.wm _ hw)) e
   have hlen : kvs.length ≤ sizeLine := by
    have h1 := rv.length
    rw [aX]; lia
   refine B8' hk6 (aA (wpAny_dictSet_pairs (knd := PySem.strKind D.prog D.w) (k := ⟨#[c]⟩) (PySem.strKind_is _ _ _ _) ha₆ (fun h₇ hp₇ hs₇ hsz₇ hk7 => ?_) hlen))
   have kX : aq (fun b => b = acc) s₆ { s₆ with heap := h₇, toks := s₆.toks + 1 } := ⟨h₇, _, rfl, fun b o q e => (hs₇.2 b q).trans e⟩
   have R₇ := R₆.growX kX (fun b hb => hb ▸ ⟨hacc.1, hacc.2.1⟩) hsz₇ (fun z q => q) (fun z q => .inl q) (R₆.dom.size hsz₇) R₆.mb
   have kM : ∀ b o, ¬ M b → s₆.heap.get? b = some o → h₇.get? b = some o := fun b o q e => kX.get (fun hb => q (hb ▸ hacc.1)) e
   refine ⟨_, Nat.sub_succ_lt_self _ _ hlt, (hv _ _).mp (.mk (i + 1) (e1 s'.toks) (bL done ⟨#[c]⟩ u) (stored kvs ⟨#[c]⟩ uv) rfl hlt (A1' (iq ..) (Nat.succ_le_succ hdl)) (ec s'.toks) ?_ R₇ (((ks₁.trans (k₃.sub hWk)).trans (k46.sub hWk)).trans (kX.sub fun b hb => hb ▸ hacc.2.2)) ?_ hp₇ ?_)⟩
   ·have : s'.toks + 1 ≤ s₆.toks + 1 := hk7
    have h0 : 1 ≤ s'.toks := hk0
    show 1 ≤ s₆.toks + 1
    exact Nat.lt_trans ‹_› ‹_›
   ·obtain ⟨o, ho, r⟩ := hit₁
    exact ⟨o, kX.get (s' := { s₆ with heap := h₇, toks := s₆.toks + 1 }) hI.2.2.2 (old I o (fun hw => hI.2.1 (R'.wf _ hw)) ho), r⟩
   ·exact eN (DictOf.nodup ha) (rv₆.mono' kM) (r6.mono kM fun z q => .inl q)
  ·have hin : i = X.cps.size := by exact Nat.le_antisymm ‹_› (Nat.not_lt.mp ‹_›)
   subst hin
   rw [List.drop_eq_nil_of_le (by simp)] at ec
   cases ec
   refine aA (wpAny_pyNext_ascii_end hA.handled st' (by simp) fun h₁ hs₁ hsz₁ => ?_)
   have kX₁ : aq (fun b => b = I) s' { s' with heap := h₁ } := ⟨h₁, _, rfl, fun b o q e => hs₁ b o q e⟩
   have R₁ := R'.growX kX₁ (fun b hb => hb ▸ ⟨hI.1, hI.2.1⟩) hsz₁ (fun z q => q) (fun z q => .inl q) (R'.dom.size hsz₁) R'.mb
   refine hR _ (ks'.trans (kX₁.sub fun b hb => hb ▸ hI.2.2.1)) ⟨_, R₁⟩ ⟨kvs, DictOf.at' (h' := h₁) ha fun o => kX₁.get (s' := { s' with heap := h₁ }) hI.2.2.2.symm, ?_⟩
   exact rv.mono' (h' := h₁) fun b o q e => hs₁ b o (fun hb => q (hb ▸ hI.1)) e
 ·exact (hv _ _).mp <| .mk 0 ea [] [] rfl (A9' _) (A9' _) (by rw [List.drop_zero]; exact e) htk R ks st hac .nil
end
end
section
section
variable {D : Std} {n : Nat} {M M' F W : Ap} {env : Env} {ea ea' : ao} {s s' : Shared} {A : Around} {E : Ee}
theorem dcT {kx vx : Expr} {x : Str} {p0 cp pos : Pos} {kk : Nat} {X : Str} {scope : Scope} {ys : Lv} (hc : cX ea scope = true) (hX : X.cps.all (· < 128) = true) (hl : X.cps.size ≤ 100000) (ec : f9 D n kx vx (.Name x p0) (cenvOf ea scope) [] X.cps.toList ys)
  (hA : bb n A) (R : Rel D M F W env ea s) : wpAny (model D.prog D.w) A (eval (.DictComp kx vx [⟨.Name x p0, .Constant (.str X) kk cp, [], 0⟩] scope pos) env) (cz D M s (.dict ys)) E s := by
 show wpAny _ A (comprehension (.DictComp kx vx [⟨.Name x p0, .Constant (.str X) kk cp, [], 0⟩] scope pos) scope env _ newDict false (eval (.Constant (.str X) kk cp) env)) _ E s
 have hc' := hc
 obtain ⟨hk1, hk2⟩ := C4' hc'
 obtain ⟨hnd, hfo⟩ := C4' hk2
 have hkind : scope.kind = .function := by unfold xR at hk1; split at hk1; assumption; cases hk1
 obtain ⟨cl, hclos, h1, h2⟩ := b6 (env := env) scope fun x hm => by
  obtain ⟨a, u, e3, _⟩ := R.cex x (bI hfo hm)
  exact ⟨a, e3⟩
 refine wpAny_comprehension_free rfl (fun z => rfl) hclos hkind (fun x hx hl => by
  rw [← ig]; have := bq hnd (x := x.1) (k := x.2) hx; rw [hl] at this; exact this) ?_
 refine Constant_str (k := kk) (pos := cp) (wpAny_pyIter_ascii hX ?_)
 refine eK ?_
 refine kl ?_
 have R₁ : Rel D M F W env ea { s with toks := s.toks + 1 } := R.keeps (Kp.toks' s _) (A6' _)
 have hC : ({ s with heap := s.heap.push { cls := .type "str_ascii_iterator", data := .fields #[.str X s.toks, .int 0 0] }, toks := s.toks + 1 } : Shared).heap.objs.size = s.heap.objs.size + 1 := Heap.size_push ..
 generalize hs2 : ({ s with heap := s.heap.push { cls := .type "str_ascii_iterator", data := .fields #[.str X s.toks, .int 0 0] }, toks := s.toks + 1 } : Shared) = s₂ at hC
 have k12 : Keeps { s with toks := s.toks + 1 } s₂ := by rw [← hs2]; exact Kp.push' _ _ _
 have it2 : s₂.heap.IsStrIter s.heap.objs.size "str_ascii_iterator" X s.toks 0 := by rw [← hs2]; exact ⟨_, A4' _ rfl, rfl, rfl⟩
 have tk2 : 1 ≤ s₂.toks := by rw [← hs2]; exact Nat.le_add_left 1 s.toks
 have kp₃ : Keeps s₂ { s₂ with heap := s₂.heap.push { cls := .type "dict", data := .dict #[] } } := Kp.push' _ _ _
 obtain ⟨kp, hlt, hns, Rc⟩ := ie (qual := env.qual) R₁ (s₃ := { s₂ with heap := s₂.heap.push { cls := .type "dict", data := .dict #[] } }) (Kp.trans' k12 kp₃) (by show s.heap.objs.size ≤ (s₂.heap.push _).objs.size; rw [Heap.size_push, hC]; lia) hc h1 h2
 dsimp only at kp hlt hns Rc
 generalize hH : pushCells ((s₂.heap.push { cls := .type "dict", data := .dict #[] }).push { cls := .type "dict", data := .dict #[] }) scope.names = H at kp hlt hns Rc ⊢
 have hC3 : (s₂.heap.push { cls := .type "dict", data := .dict #[] }).objs.size = s.heap.objs.size + 2 := by rw [Heap.size_push, hC]
 rw [hC3] at hlt hns Rc ⊢
 rw [hC]
 have hd0 : ∀ b, M b → @LT.lt Nat _ b s.heap.objs.size := R.dom
 have hk₃ : ∀ b o, s₂.heap.get? b = some o → H.get? b = some o := fun b o e => Kp.get kp (A3' _ e)
 have k14 : Keeps { s with toks := s.toks + 1 } { s₂ with heap := H } := Kp.trans' k12 ⟨H, s₂.toks, rfl, hk₃⟩
 have st₄ : H.IsStrIter s.heap.objs.size "str_ascii_iterator" X s.toks 0 := by
  obtain ⟨o, ho, r⟩ := it2
  exact ⟨o, hk₃ _ _ ho, r⟩
 have hda : H.DictOf (PySem.strKind D.prog D.w) (s.heap.objs.size + 1) [] := by
  have := Heap.DictOf.new (knd := PySem.strKind D.prog D.w) s₂.heap
  rw [hC] at this
  exact DictOf.at' this fun o e => Kp.get kp e
 have loop : codeAny (model D.prog D.w) A (.compLoop (.DictComp kx vx [⟨.Name x p0, .Constant (.str X) kk cp, [], 0⟩] scope pos) 0 (.ref s.heap.objs.size) (.ref (s.heap.objs.size + 1)) { newEnv scope (s.heap.objs.size + 2) env.globals (cellsFrom (s.heap.objs.size + 2 + 1) scope.names cl) env.qual none .none (some env) builtinsNs with scope := relabel scope env }) (compPost (model D.prog D.w) A E none (cz D M s (.dict ys)) (.ref (s.heap.objs.size + 1)) (s.heap.objs.size + 2)) { s₂ with heap := H } := by
  have g1 : @LT.lt Nat _ s.heap.objs.size H.objs.size := by exact B4' (Nat.le_add_right ..) ‹_›
  have g2 : ¬ (F s.heap.objs.size ∨ (s.heap.objs.size + 2 ≤ s.heap.objs.size ∧ s.heap.objs.size < H.objs.size)) := fun q => by
   rcases q with q | q
   ·have := hd0 _ (R.fm _ q); exact A7' _ ‹_›
   ·have q1 : @LE.le Nat _ (s.heap.objs.size + 2) s.heap.objs.size := q.1; lia
  have g3 : @Ne Nat s.heap.objs.size (s.heap.objs.size + 1) := by lia
  have g4 : ∀ b, (s.heap.objs.size + 2 ≤ b ∧ b < H.objs.size) → @LE.le Nat _ s.heap.objs.size b := fun b q => by
   have q1 : @LE.le Nat _ (s.heap.objs.size + 2) b := q.1
   exact A1' (Nat.le_add_right ..) ‹_›
  have g5 : @LT.lt Nat _ (s.heap.objs.size + 1) H.objs.size := by exact Nat.le_of_lt ‹_›
  have g6 : ¬ (F (s.heap.objs.size + 1) ∨ (s.heap.objs.size + 2 ≤ s.heap.objs.size + 1 ∧ s.heap.objs.size + 1 < H.objs.size)) := fun q => by
   rcases q with q | q
   ·have := hd0 _ (R.fm _ q); have : @LT.lt Nat _ (s.heap.objs.size + 1) s.heap.objs.size := this; lia
   ·have q1 : @LE.le Nat _ (s.heap.objs.size + 2) (s.heap.objs.size + 1) := q.1; exact A7' _ ‹_›
  have g7 : ∀ b, (M b ∨ b = s.heap.objs.size + 2) → M b ∨ (s.heap.objs.size ≤ b ∧ b < H.objs.size) := fun b q => by
   rcases q with q | q
   ·exact .inl q
   ·have q : @Eq Nat b (s.heap.objs.size + 2) := q
    refine .inr ⟨?_, ?_⟩
    ·show @LE.le Nat _ s.heap.objs.size b; lia
    ·show @LT.lt Nat _ b H.objs.size; lia
  refine jV (s₁ := { s with toks := s.toks + 1 }) hA ⟨.inr ⟨A6' _, g1⟩, g2, A6' _, g3⟩ g4 ⟨.inr ⟨Nat.le_succ _, g5⟩, g6, Nat.le_succ _⟩ (fun s' k' R' hv => ?_) Rc (Kp.toW k14) st₄ hda hl tk2 ec
  ·obtain ⟨kvs, hg, rv⟩ := hv
   obtain ⟨ea3, R'⟩ := hv' R'
   obtain ⟨m, hm, _⟩ := R'.loc
   have hm : s'.heap.Ns (s.heap.objs.size + 2) m := hm
   refine b5 ⟨Kp.trans' (Kp.toks' s _) (k'.keeps (A6' _)), ?_, ?_, hm.lt, ⟨m, hm⟩, .dict ?_ hg ?_ (rv.mono (fun z z z e => e) fun b q => .inl (g7 b q))⟩
   ·have h8 : @LT.lt Nat _ (s.heap.objs.size + 2) s'.heap.objs.size := hm.lt
    lia
   ·show @LE.le Nat _ s.heap.objs.size (s.heap.objs.size + 2); exact Nat.le_add_right ..
   ·intro q
    rcases q with q | q
    ·have := hd0 _ q; have : @LT.lt Nat _ (s.heap.objs.size + 1) s.heap.objs.size := this; lia
    ·have : @Eq Nat (s.heap.objs.size + 1) (s.heap.objs.size + 2) := q; lia
   ·have q1 : @LE.le Nat _ D.base s.heap.objs.size := R.bs
    have q2 : @LT.lt Nat _ 1 D.base := D.b2
    exact beq_eq_false_iff_ne.mpr (show @Ne Nat (s.heap.objs.size + 1) 1 by lia)
 exact codeAny_compStart_dict loop (wpAny_pyIter_striter_ascii st₄ loop)
where hv' {D : Std} {M F W : Ap} {env : Env} {s : Shared} (h : ∃ ea', Rel D M F W env ea' s) : ∃ ea', Rel D M F W env ea' s := h
end
end
section
theorem Sx.ifGot {D : Std} {n : Nat} {ea : ao} {l r : Expr} {op : CmpOp} {p pos : Pos} {a b : V} {c : Bool} {bd o : List Stmt} {out : Out} (hl : Ev D n ea l a) (hr : ∀ {M F W : Ap} {env : Env} {s : Shared} {A : Around} {E : Ee}, bb n A → Rel D M F W env ea s → wpAny (model D.prog D.w) A (eval r env) (cz D M s b) E s) (hm : behindInMarks op r = false)
  (hc : a6 D.prog D.w op a b c) (hb : Bx D n ea (if c = true then bd else o) out) : Sx D n ea (.If (.Compare l [op] [r] p) bd o pos) out :=
 ⟨fun {M F W env s A E} hA R => by
  refine wpAny_If (wpAny_isTrue_Compare1 (au (hl.ev hA R) fun u s₁ g => ?_) hm)
  obtain ⟨z1, k1, r1⟩ := g
  have R1 := R.keeps k1 z1
  refine au (hr hA R1) fun v s₂ g₂ => ?_
  obtain ⟨z2, k2, r2⟩ := g₂
  have R2 := R1.keeps k2 z2
  refine au (bh (hc (r1.keeps fun z z e => Kp.get k2 e) r2 (by have := hA.units; lia))) fun q s₃ g₃ => ?_
  obtain ⟨z3, k3, r3⟩ := g₃
  have R3 := R2.keeps k3 z3
  refine au ((aR (D := D) (b := c)).2 r3) fun c' s₄ g₄ => ?_
  obtain ⟨rfl, z4, k4⟩ := g₄
  have R4 := R3.keeps k4 z4
  have := au (hb.h (E := E) hA R4) fun z z g => g.then ((((Kp.toW k1).trans (Kp.toW k2)).trans (Kp.toW k3)).trans (Kp.toW k4)) (A1' z1 (A1' z2 (A1' z3 z4)))
  cases c' <;> exact this⟩
theorem ij {a b c : Nat} (ha : Lo a) (hb : Lo b) (hc : Lo c) : Txt.contains (am (a, b)) (one c) = (a == c || b == c) := lo1 hc (lo1 hb (lo1 ha (by rfl' : (abc.map fun a => abc.map fun b => abc.map fun c => Txt.contains (am (a, b)) (one c)) = mp (fun a => mp (fun b => mp (fun c => (a == c || b == c)) abc) abc) abc)))
theorem AH {a b : Nat} (ha : Lo a) (hb : Lo b) (h : a ≠ b) : Txt.replace (am (a, b)) (one a) "" = one b := by
 have k := lo1 hb (lo1 ha (by rfl' : (abc.map fun a => abc.map fun b => cond (a == b) (one b) (Txt.replace (am (a, b)) (one a) "")) = mp (fun z => mp one abc) abc))
 rwa [beq_eq_false_iff_ne.mpr h] at k
theorem zQ {a b : Nat} (ha : Lo a) (hb : Lo b) (h : a ≠ b) : Txt.replace (am (a, b)) (one b) "" = one a := by
 have k := lo1 hb (lo1 ha (by rfl' : (abc.map fun a => abc.map fun b => cond (a == b) (one a) (Txt.replace (am (a, b)) (one b) "")) = mp (fun a => mp (fun z => one a) abc) abc))
 rwa [beq_eq_false_iff_ne.mpr h] at k
noncomputable def c6 : Expr := aj 1 (af (aa ap 6))
noncomputable def i6 : Expr := mW c6
noncomputable def nE6 (g : G) (rs : List V) : ao := EG g [] [] [("net", .hdr rs)]
noncomputable def nO6 (g : G) (rs : List V) (p : Option (Nat × Tok)) : ao := { cenvOf (nE6 g rs) (cSc c6) with cel := ("tied", tV g.ps) :: (match p with | none => [] | some p => [("x", .sta (.str (one p.1) p.2))]) }
noncomputable def nP6 (g : G) (rs : List V) (c : Nat) (u : Tok) (q : Option P2) : ao := { cenvOf (nO6 g rs (some (c, u))) (cSc i6) with loc := match q with | none => [] | some q => [("pair", .str (am q))] }
section
variable {w : World} {n : Nat} {g : G} {rs : List V}
theorem zj : i6 = .ListComp (a5 i6) [⟨cG i6, cIt i6, [(eM i6).getD 0 (a5 i6)], 0⟩] (cSc i6) i6.pos := ⋯
theorem Ai : c6 = .DictComp (a5 c6) i6 [⟨.Name "x" (cG c6).pos, .Constant (.str "abcde") (kOf (cIt c6)) (cIt c6).pos, [], 0⟩] (cSc c6) c6.pos := ⋯
theorem yF {c : Nat} : (one c == ("" : Str)) = false := by
 rw [beq_eq_false_iff_ne]
 intro h
 have := congrArg (fun x : Str => x.cps.size) h
 rw [show (Str.ofString "").cps.size = 0 from by rfl'] at this
 cases this
theorem Az {c : Nat} {u : Tok} (hc : Lo c) (hu : u ≠ 0) : ∀ (ps : List P2) (q : Option P2), fR ps → ∃ e3, er (u + 1) (DD w) n (a5 i6) (cG i6) [(eM i6).getD 0 (a5 i6)] (nP6 g rs c u q) ((ps.map am).map .str) (((adj ps c).map one).map .str) e3 := by
 intro v0'
 induction v0' with
 | nil =>
  exact fun q z => ⟨_, .nil⟩
 | cons p ps ih' =>
  exact fun q h => by
   obtain ⟨a, b⟩ := p
   obtain ⟨⟨ha, hb⟩, hab⟩ := h _ (.head _)
   obtain ⟨e3, ih⟩ := ih' (some (a, b)) fun r hr => h r (.tail _ hr)
   have ht : bw (DD w) (nP6 g rs c u q) (cG i6) (.str (am (a, b))) (nP6 g rs c u (some (a, b))) := by
    cases q <;> exact aI ⋯
   have i1 : Ev (DD w) n (nP6 g rs c u (some (a, b))) ((eM i6).getD 0 (a5 i6)) (.bool (a == c || b == c)) := by
    rw [← ij ha hb hc]
    exact bo (jB (u := u) ⋯ ⋯ ⋯) (ah (v := .str (am (a, b))) ⋯ ⋯ ⋯) (fU fun z z => SB.contains (aB _))
   have fx : FxT (u + 1) (DD w) n (nP6 g rs c u (some (a, b))) (a5 i6) (nP6 g rs c u (some (a, b))) (.str (Txt.replace (am (a, b)) (one c) "")) := by
    rw [show a5 i6 = .Call (.Attribute (.Name "pair" (bS (a5 i6)).pos) "replace" (dZ (a5 i6)).pos) [.Name "x" (aj 0 (a5 i6)).pos, .Constant (.str "") (kOf (aj 1 (a5 i6))) (aj 1 (a5 i6)).pos] [] (a5 i6).pos by rfl']
    exact @mF (DD w) n (nP6 g rs c u (some (a, b))) "pair" _ _ _ "x" _ _ _ (one c) (am (a, b)) u hu ⋯ ⋯ ⋯ ⋯ ⋯ ⋯ ⋯ yF (by show 2 ≤ 1000; decide)
   have tt : ∀ b', (a == c || b == c) = b' → cb (DD w) n (nP6 g rs c u (some (a, b))) [(eM i6).getD 0 (a5 i6)] b' := fun b' e => by
    rw [e] at i1
    exact aY i1 aR
   unfold adj
   dsimp only
   refine ⟨e3, ?_⟩
   cases e1 : a == c with
   | true =>
    have := beq_iff_eq.mp e1
    subst this
    rw [AH ha hb hab] at fx
    exact .take ht (@tt true (by rw [e1]; rfl)) fx ih
   | false =>
    cases e2 : b == c with
    | true =>
     have := beq_iff_eq.mp e2
     subst this
     rw [zQ ha hb hab] at fx
     exact .take ht (@tt true (by rw [e1, e2]; rfl)) fx ih
    | false => exact .skip ht (@tt false (by rw [e1, e2]; rfl)) ih
theorem v6 {c : Nat} {u : Tok} (hc : Lo c) (hu : u ≠ 0) (ht : fR g.ps) (hn : g.ps.length ≤ 13) : FxT (u + 1) (DD w) n (nO6 g rs (some (c, u))) i6 (nO6 g rs (some (c, u))) (cR (adj g.ps c)) := fun {M F W env s A E} hA R hk => by
 obtain ⟨e3, h⟩ := Az (w := w) (n := n) (g := g) (rs := rs) hc hu g.ps none ht
 rw [zj]
 refine au (lcT ⋯ (dI (aD (v := tV g.ps) ⋯ ⋯ ⋯) rfl) (by rw [List.length_map, List.length_map]; exact A1' ‹_› (by decide)) h hA R hk) fun z z q => ⟨q.1, Kp.toW q.2.1, R.keeps q.2.1 q.1, q.2.2⟩
theorem o0 {prog : Program} {w : World} {l : List Nat} (h : ∀ x ∈ l, Lo x) : eP prog w 8 (cR l) (.list ((l.map one).map .str)) := by
 refine bQ (n := 7) (bP fun x hx => ?_)
 obtain ⟨c, hc, rfl⟩ := C5' hx
 refine aM ?_
 have := (h c hc).2
 show (#[c]).all _ = true
 simp
 exact B4' ‹_› (by decide)
theorem Dd (ht : fR g.ps) (hn : g.ps.length ≤ 13) : Sx (DD w) n (nE6 g rs) (aa ap 6) (.next (nE6 g rs)) := by
 have l97 : Lo 97 := ⟨by decide, by decide⟩
 have l98 : Lo 98 := ⟨by decide, by decide⟩
 have l99 : Lo 99 := ⟨by decide, by decide⟩
 have l100 : Lo 100 := ⟨by decide, by decide⟩
 have l101 : Lo 101 := ⟨by decide, by decide⟩
 have tg : ∀ (o : Option (Nat × Tok)) (c : Nat) (u : Tok), bw (DD w) (nO6 g rs o) (.Name "x" (cG c6).pos) (.sta (.str (one c) u)) (nO6 g rs (some (c, u))) := fun o c u => by
  cases o <;> exact aI ⋯
 have kx : ∀ (c : Nat) (u : Tok), Ev (DD w) n (nO6 g rs (some (c, u))) (a5 c6) (.str (one c)) := fun c u => jB (u := u) ⋯ ⋯ ⋯
 have cd : f9 (DD w) n (a5 c6) i6 (.Name "x" (cG c6).pos) (nO6 g rs none) [] [97, 98, 99, 100, 101] (bL (bL (bL (bL (bL [] (one 97) (cR (adj g.ps 97))) (one 98) (cR (adj g.ps 98))) (one 99) (cR (adj g.ps 99))) (one 100) (cR (adj g.ps 100))) (one 101) (cR (adj g.ps 101))) :=
  .take (fun u => tg _ 97 u) (fun u => kx 97 u) (fun u hu => v6 l97 hu ht hn) fun u => .take (fun u => tg _ 98 u) (fun u => kx 98 u) (fun u hu => v6 l98 hu ht hn) fun u => .take (fun u => tg _ 99 u) (fun u => kx 99 u) (fun u hu => v6 l99 hu ht hn) fun u => .take (fun u => tg _ 100 u) (fun u => kx 100 u) (fun u hu => v6 l100 hu ht hn) fun u => .take (fun u => tg _ 101 u) (fun u => kx 101 u) (fun u hu => v6 l101 hu ht hn) fun u => .nil
 have e0 : (bL (bL (bL (bL (bL [] (one 97) (cR (adj g.ps 97))) (one 98) (cR (adj g.ps 98))) (one 99) (cR (adj g.ps 99))) (one 100) (cR (adj g.ps 100))) (one 101) (cR (adj g.ps 101))) = abc.map fun x => (one x, cR (adj g.ps x)) := ⋯
 rw [e0] at cd
 have hh : ∀ l : List Nat, (∀ x ∈ l, Lo x) → dc (DD w).prog (DD w).w (abc.map fun x => (one x, cR (adj g.ps x))) (l.map fun x => (one x, cR (adj g.ps x))) true := by
  intro l
  induction l with
  | nil => exact fun z => @gZ _ _ _
  | cons x l ih =>
   intro hl
   have h1 := o0 (prog := (DD w).prog) (w := (DD w).w) (pr (x := x) ht)
   have this : dc (DD w).prog (DD w).w (abc.map fun x => (one x, cR (adj g.ps x))) ((one x, cR (adj g.ps x)) :: l.map fun x => (one x, cR (adj g.ps x))) (PyData.eqv (.list (((adj g.ps x).map one).map .str)) (.list (((adj g.ps x).map one).map .str)) && true) := iC (iT (hl x (.head _))) h1 h1 (ih fun y hy => hl y (.tail _ hy))
   rw [SeqAt.eqv_refl _ h1.1] at this
   exact @this
 have cm : a6 (DD w).prog (DD w).w .NotEq (rt g.ps) (.dict (abc.map fun x => (one x, cR (adj g.ps x)))) (!((abc.map fun x => (one x, cR (adj g.ps x))).length == (abc.map fun x => (one x, cR (adj g.ps x))).length && true)) := kt (hh abc bG)
 rw [show aa ap 6 = .If (.Compare (.Name "near" (aj 0 (af (aa ap 6))).pos) [.NotEq] [c6] (af (aa ap 6)).pos) (an (aa ap 6)) [] (aa ap 6).pos by rfl']
 refine .ifGot (b := .dict (abc.map fun x => (one x, cR (adj g.ps x)))) (ah (v := rt g.ps) ⋯ ⋯ ⋯) ?_ rfl cm .nil
 intro M F W env s A E hA R
 rw [Ai]
 exact dcT ⋯ ⋯ (by decide +kernel) cd hA R
end
end
section
noncomputable def fj (l : List Nat) : Str := ⟨l.toArray⟩
noncomputable def ptV (l : List (List Nat)) : V := .list ((l.map fj).map .str)
theorem bm {l : List Nat} {c : Nat} : Txt.contains (fj l) (one c) = l.contains c := by
 unfold Txt.contains
 have := StrLaws.found_one (fj l) c
 refine this.trans ?_
 rw [Bool.eq_iff_iff, decide_eq_true_iff, List.contains_iff_mem]
 show c ∈ l.toArray.toList ↔ c ∈ l
 rw [List.toList_toArray]
noncomputable def bD (p : P2) (l : List Nat) : Bool := l.contains p.1 || l.contains p.2
noncomputable def aU (b : Nat) (l : List (List Nat)) (p : P2) : List (List Nat) := if (p.1 == b || p.2 == b) = true then l else l.filter (fun x => !bD p x) ++ [(l.filter (bD p)).flatten]
noncomputable def eX (b : Nat) : List (List Nat) := (abc.filter fun x => x != b).map fun x => [x]
noncomputable def ax (ps : List P2) (b : Nat) : List (List Nat) := ps.foldl (aU b) (eX b)
theorem gD (P : List Nat → Bool) : ∀ l : List (List Nat), (l.filter fun x => !P x).flatten.length + (l.filter P).flatten.length = l.flatten.length := by
 intro v0'
 induction v0' with
 | nil =>
  exact  rfl
 | cons x l ih' =>
  exact  by
   have ih := ih'
   cases h : P x with
   | true =>
    rw [List.filter_cons_of_neg (by rw [h]; decide), List.filter_cons_of_pos h, List.flatten_cons, List.flatten_cons, List.length_append, List.length_append]
    lia
   | false =>
    rw [List.filter_cons_of_pos (by rw [h]; rfl), List.filter_cons_of_neg (by rw [h]; decide), List.flatten_cons, List.flatten_cons, List.length_append, List.length_append]
    lia
theorem iH {b : Nat} {l : List (List Nat)} {p : P2} : (aU b l p).flatten.length = l.flatten.length ∧ (aU b l p).length ≤ l.length + 1 := by
 unfold aU
 split
 ·exact ⟨rfl, Nat.le_succ _⟩
 ·rw [List.flatten_append, List.length_append, List.length_append]
  refine ⟨?_, ?_⟩
  ·have := gD (bD p) l
   simpa using this
  ·have := List.length_filter_le (fun x => !bD p x) l
   show _ + 1 ≤ _
   exact Nat.lt_succ_of_le ‹_›
noncomputable def nm258 : List (Str × NameKind) := (ay tG).scope.names
noncomputable def ptB : List Stmt := av (ay tG)
noncomputable def PE (ps : List P2) (b : Nat) (l : List (List Nat)) (o : Option P2) (q : Option (List Nat)) : ao :=
 { baseE nm258 with loc := ("tied", tV ps) :: ("parts", ptV l) :: (match q with | none => [] | some q => [("both", .str (fj q))]), cel := ("barred", .str (one b)) :: (match o with | none => [] | some o => [("u", .str (one o.1)), ("v", .str (one o.2))]) }
noncomputable def ptF : Stmt := aa ptB 1
noncomputable def ptI : Stmt := aa (an ptF) 0
noncomputable def ptH : Expr := aj 0 (af (aa (an ptI) 0))
noncomputable def ptN : Expr := aj 0 (af (aa (an ptI) 1))
section
variable {w : World} {n : Nat} {ps : List P2} {b : Nat} {l : List (List Nat)} {p : P2} {q : Option (List Nat)}
noncomputable def PC (ea : ao) (c : Expr) (o : Option (List Nat)) : ao := { cenvOf ea (cSc c) with loc := match o with | none => [] | some x => [("part", .str (fj x))] }
theorem w6 : ptH = .ListComp (a5 ptH) [⟨cG ptH, cIt ptH, [.BoolOp .Or [bv 0 ((eM ptH).getD 0 (a5 ptH)), bv 1 ((eM ptH).getD 0 (a5 ptH))] ((eM ptH).getD 0 (a5 ptH)).pos], 0⟩] (cSc ptH) ptH.pos := ⋯
theorem ya : ptN = .ListComp (a5 ptN) [⟨cG ptN, cIt ptN, [.BoolOp .And [bv 0 ((eM ptN).getD 0 (a5 ptN)), bv 1 ((eM ptN).getD 0 (a5 ptN))] ((eM ptN).getD 0 (a5 ptN)).pos], 0⟩] (cSc ptN) ptN.pos := ⋯
theorem me {D : Std} {n : Nat} {ea : ao} {a c : Expr} {pp : Pos} {x y : Str} (ha : Ev D n ea a (.str y)) (hc : Ev D n ea c (.str x)) : Ev D n ea (.Compare a [.In] [c] pp) (.bool (Txt.contains x y)) := bo ha hc (fU fun z z => SB.contains (aB _))
theorem nt {D : Std} {n : Nat} {ea : ao} {a c : Expr} {pp : Pos} {x y : Str} (ha : Ev D n ea a (.str y)) (hc : Ev D n ea c (.str x)) : Ev D n ea (.Compare a [.NotIn] [c] pp) (.bool (!Txt.contains x y)) := bo ha hc (fU fun z z => SB.notContains (aB _))
theorem Bb {ea : ao} (he : ea = PE ps b l (some p) q) : ∀ (xs : List (List Nat)) (o : Option (List Nat)), cT (DD w) n (a5 ptH) (cG ptH) [.BoolOp .Or [bv 0 ((eM ptH).getD 0 (a5 ptH)), bv 1 ((eM ptH).getD 0 (a5 ptH))] ((eM ptH).getD 0 (a5 ptH)).pos] (PC ea ptH o) ((xs.map fj).map .str) (((xs.filter (bD p)).map fj).map .str) := by
 intro v0'
 induction v0' with
 | nil =>
  exact fun o => .nil
 | cons x xs ih' =>
  exact fun o => by
   subst he
   have ih := ih' (some x)
   have ht : bw (DD w) (PC (PE ps b l (some p) q) ptH o) (cG ptH) (.str (fj x)) (PC (PE ps b l (some p) q) ptH (some x)) := by cases o <;> exact aI ⋯
   have i1 : Ev (DD w) n (PC (PE ps b l (some p) q) ptH (some x)) (bv 0 ((eM ptH).getD 0 (a5 ptH))) (.bool (x.contains p.1)) := by
    rw [← bm]
    exact me (aD ⋯ ⋯ ⋯) (ah ⋯ ⋯ ⋯)
   have i2 : Ev (DD w) n (PC (PE ps b l (some p) q) ptH (some x)) (bv 1 ((eM ptH).getD 0 (a5 ptH))) (.bool (x.contains p.2)) := by
    rw [← bm]
    exact me (aD ⋯ ⋯ ⋯) (ah ⋯ ⋯ ⋯)
   have i3 := rf (p := ((eM ptH).getD 0 (a5 ptH)).pos) i1 i2
   have e : (x.contains p.1 || x.contains p.2) = bD p x := rfl
   rw [e] at i3
   cases h : bD p x with
   | true =>
    rw [h] at i3
    rw [List.filter_cons_of_pos h]
    exact .take ht (aY i3 aR) (ah ⋯ ⋯ ⋯) ih
   | false =>
    rw [h] at i3
    rw [List.filter_cons_of_neg (by rw [h]; decide)]
    exact .skip ht (aY i3 aR) ih
theorem zb {ea : ao} {z : List Nat} (he : ea = PE ps b l (some p) (some z)) : ∀ (xs : List (List Nat)) (o : Option (List Nat)), cT (DD w) n (a5 ptN) (cG ptN) [.BoolOp .And [bv 0 ((eM ptN).getD 0 (a5 ptN)), bv 1 ((eM ptN).getD 0 (a5 ptN))] ((eM ptN).getD 0 (a5 ptN)).pos] (PC ea ptN o) ((xs.map fj).map .str) (((xs.filter fun x => !bD p x).map fj).map .str) := by
 intro v0'
 induction v0' with
 | nil =>
  exact fun o => .nil
 | cons x xs ih' =>
  exact fun o => by
   subst he
   have ih := ih' (some x)
   have ht : bw (DD w) (PC (PE ps b l (some p) (some z)) ptN o) (cG ptN) (.str (fj x)) (PC (PE ps b l (some p) (some z)) ptN (some x)) := by cases o <;> exact aI ⋯
   have i1 : Ev (DD w) n (PC (PE ps b l (some p) (some z)) ptN (some x)) (bv 0 ((eM ptN).getD 0 (a5 ptN))) (.bool (!x.contains p.1)) := by
    rw [← bm]
    exact nt (aD ⋯ ⋯ ⋯) (ah ⋯ ⋯ ⋯)
   have i2 : Ev (DD w) n (PC (PE ps b l (some p) (some z)) ptN (some x)) (bv 1 ((eM ptN).getD 0 (a5 ptN))) (.bool (!x.contains p.2)) := by
    rw [← bm]
    exact nt (aD ⋯ ⋯ ⋯) (ah ⋯ ⋯ ⋯)
   have i3 := jA (p := ((eM ptN).getD 0 (a5 ptN)).pos) i1 i2
   have e : (!x.contains p.1 && !x.contains p.2) = !bD p x := by unfold bD; rw [Bool.not_or]
   rw [e] at i3
   cases h : bD p x with
   | true =>
    rw [h] at i3
    rw [List.filter_cons_of_neg (by rw [h]; decide)]
    exact .skip ht (aY i3 aR) ih
   | false =>
    rw [h] at i3
    rw [List.filter_cons_of_pos (by rw [h]; rfl)]
    exact .take ht (aY i3 aR) (ah ⋯ ⋯ ⋯) ih
theorem ji (xs : List (List Nat)) : ((xs.map fj).map fun x => x.cps.toList).flatten = xs.flatten := by
 rw [List.map_map]
 have : ((fun x : Str => x.cps.toList) ∘ fj) = id := by funext x; simp [fj]
 rw [this, List.map_id]
theorem fK {c : Nat} (h : Lo c) : SOk (one c) := by
 have := h.2
 show (#[c]).all _ = true
 simp
 exact B4' ‹_› (by decide)
theorem oy (hb : Lo b) (hp : Los p) (h1 : l.length ≤ 1000) (h2 : l.flatten.length ≤ 1000) : ∃ q', Bx (DD w) n (PE ps b l (some p) q) (an ptF) (.next (PE ps b (aU b l p) (some p) q')) := by
 have i0 : Ev (DD w) n (PE ps b l (some p) q) (af ptI) (.bool (!(one p.1 == one b || (one p.2 == one b || false)))) :=
  bo (aD (v := .str (one b)) ⋯ ⋯ ⋯) (mO (by decide) (ai (aD (v := .str (one p.1)) ⋯ ⋯ ⋯) (ai (aD (v := .str (one p.2)) ⋯ ⋯ ⋯) al)))
   (lY (aM (fK hb)) (ba (aM (fK hp.1)) (ba (aM (fK hp.2)) ch))).2
 rw [dQ, dQ, Bool.or_false] at i0
 rw [show an ptF = [.If (af ptI) (an ptI) [] ptI.pos] by rfl']
 unfold aU
 cases h : (p.1 == b || p.2 == b) with
 | true =>
  rw [h] at i0
  rw [if_pos rfl]
  exact ⟨q, .next (.ife i0 aR .nil) .nil⟩
 | false =>
  rw [h] at i0
  rw [if_neg (by decide)]
  have fl := gD (bD p) l
  have fle := List.length_filter_le (bD p) l
  have fle2 := List.length_filter_le (fun x => !bD p x) l
  have i1 : Ev (DD w) n (PE ps b l (some p) q) ptH (ptV (l.filter (bD p))) := by
   rw [w6]
   exact pe ⋯ (dI (ah (v := ptV l) ⋯ ⋯ ⋯) rfl) (by rw [List.length_map, List.length_map]; exact A1' ‹_› (by decide)) (Bb rfl l none)
  have i2 : Ev (DD w) n (PE ps b l (some p) q) (af (aa (an ptI) 0)) (.str (fj (l.filter (bD p)).flatten)) := by
   have e : fj (l.filter (bD p)).flatten = Txt.join "" ((l.filter (bD p)).map fj) := by rw [f0, ji]; rfl
   rw [e]
   exact br (v := .str "") (aK (Constant_str (aW _ _ _))) ⋯ (by decide) (ai i1 al) (mi (kB (by rw [ji]; lia)))
  have i3 : Ev (DD w) n (PE ps b l (some p) (some (l.filter (bD p)).flatten)) ptN (ptV (l.filter fun x => !bD p x)) := by
   rw [ya]
   exact pe ⋯ (dI (ah (v := ptV l) ⋯ ⋯ ⋯) rfl) (by rw [List.length_map, List.length_map]; exact A1' ‹_› (by decide)) (zb rfl l none)
  have e1 : dN (DD w).prog (DD w).w .Add (ptV (l.filter fun x => !bD p x)) (ptV [(l.filter (bD p)).flatten]) (ptV ((l.filter fun x => !bD p x) ++ [(l.filter (bD p)).flatten])) := by
   unfold ptV
   rw [List.map_append, List.map_append]
   exact cQ (by simp; lia)
  refine ⟨some (l.filter (bD p)).flatten, .next (.ife i0 aR ?_) .nil⟩
  rw [if_pos (by decide)]
  rw [show an ptI = [.Assign [.Name "both" (aw (aa (an ptI) 0)).pos] (af (aa (an ptI) 0)) (aa (an ptI) 0).pos, .Assign [.Name "parts" (aw (aa (an ptI) 1)).pos] (.BinOp ptN .Add (aj 1 (af (aa (an ptI) 1))) (af (aa (an ptI) 1)).pos) (aa (an ptI) 1).pos] by rfl']
  refine .next (e1 := PE ps b l (some p) (some (l.filter (bD p)).flatten)) (.name i2 ?_) (.next (.name (eh i3 (eW (xs := [.str (fj (l.filter (bD p)).flatten)]) ?_ (ai (ah ?_ ?_ ?_) al)) e1) (aO ?_)) .nil)
  ·cases q <;> exact aO ⋯
  ·decide
  ·rfl'
  ·rfl'
  ·rfl'
  ·rfl'
theorem oH (hb : Lo b) : ∀ (qs : List P2) (l : List (List Nat)) (o : Option P2) (q : Option (List Nat)), (∀ p ∈ qs, Los p) → l.length + qs.length ≤ 1000 → l.flatten.length ≤ 1000 → ∃ o' q', im (DD w) n (aw ptF) (an ptF) (PE ps b l o q) ((qs.map am).map .str) (.next (PE ps b (qs.foldl (aU b) l) o' q')) := by
 intro v0'
 induction v0' with
 | nil =>
  exact fun l o q z z z => ⟨o, q, .nil⟩
 | cons p qs ih' =>
  exact fun l o q h h1 h2 => by
   rw [List.length_cons] at h1
   obtain ⟨q1, hb1⟩ := oy (w := w) (n := n) (ps := ps) (q := q) hb (h p (.head _)) (l := l) (by exact A1' (Nat.le_add_right ..) ‹_›) h2
   have hj := iH (b := b) (l := l) (p := p)
   obtain ⟨o', q', ih⟩ := ih' (aU b l p) (some p) q1 (fun r hr => h r (.tail _ hr)) (by lia) (by rw [hj.1]; exact h2)
   refine ⟨o', q', .more (e1 := PE ps b l (some p) q) ?_ hb1 ih⟩
   obtain ⟨u, v⟩ := p
   cases o <;> cases q <;> exact aI ⋯
end
end
section
section
variable {w : World} {n : Nat} {ps : List P2} {b : Nat}
theorem gH (hb : Lo b) : (eX b).length ≤ 4 ∧ (eX b).flatten.length ≤ 4 := by
 rcases dr hb with rfl | rfl | rfl | rfl | rfl <;> decide
theorem mY (hb : Lo b) (ht : fR ps) (hn : ps.length ≤ 13) : Dx (DD w) n { baseE nm258 with loc := [("tied", tV ps)], cel := [("barred", .str (one b))] } ptB (ptV (ax ps b)) := by
 obtain ⟨o', q', h⟩ := oH (w := w) (n := n) (ps := ps) hb ps (eX b) none none (fun p hp => (ht p hp).1) (by have := (gH hb).1; lia) (by have := (gH hb).2; exact A1' ‹_› (by decide))
 have i0 : Sx (DD w) n { baseE nm258 with loc := [("tied", tV ps)], cel := [("barred", .str (one b))] } (aa ptB 0) (.next (PE ps b (eX b) none none)) := by
  rcases dr hb with rfl | rfl | rfl | rfl | rfl <;> exact eO (T := TB w n) (X := FB w n) (ke := 9) (k := 3) ⋯
 rw [show ptB = [aa ptB 0, .For (aw ptF) (af ptF) (an ptF) [] ptF.pos, .Return (some (af (aa ptB 2))) (aa ptB 2).pos] by rfl']
 refine .step i0 (.step (.loop (dI (v := tV ps) (ah ?_ ?_ ?_) rfl) h) (.last (.ret (.ret (ah ?_ ?_ ?_)))))
 all_goals rfl'
theorem qC (hb : Lo b) (ht : fR ps) (hn : ps.length ≤ 13) : rD (DD w) (n + 1) "_law_parts" [tV ps, .str (one b)] (ptV (ax ps b)) := fun {_ s _ _ _ _} hA hst hd hmb hbs e rv => by
 cases e.symm.trans (show (DD w).gl "_law_parts" = some (.ref (nat_lit 258)) by rfl')
 refine ⟨.inr ⟨nat_lit 258, tG, ay tG, rfl, hst _ _ (by decide) ⋯, by rfl'⟩, ?_⟩
 obtain ⟨v, u, rfl, r1, r2⟩ := rv.two
 exact gb (ag := ⟨[v, u], []⟩) BO hA hst hd hmb hbs (ps := ["tied", "barred"]) (vals := [v, u]) (xs := [tV ps, .str (one b)]) rfl ⋯ (.cons r1 (.cons r2 .nil)) (aV ⋯) (mY hb ht hn).ok
end
noncomputable def EZ (g : G) (t : List Row) (loc cel : Lv) (mo : List (Str × MV)) : ao :=
 { baseL with loc := loc, cel := ("script", V.list (g.xs.map V.int)) :: ("tied", tV g.ps) :: ("steps", bN g.ps) :: ("dots", ki t) :: cel, mo := mo }
noncomputable def jk (ps : List P2) : V := .dict (abc.map fun b => (one b, ptV (ax ps b)))
noncomputable def c21 : Expr := af (aa ap 21)
noncomputable def xw (ea : ao) (o : Option Nat) : ao := { cenvOf ea (cSc c21) with loc := match o with | none => [] | some x => [("w", .str (one x))] }
noncomputable def LZ (e8 : V) (cd : V) (pl : Bool) : Lv := [("eighth", e8), ("coded", cd), ("plain", .bool pl)]
section
variable {w : World} {n : Nat} {g : G} {t : List Row} {e8 cd : V} {pl : Bool} {rs : List V}
theorem xT : c21 = .DictComp (a5 c21) (mW c21) [⟨cG c21, cIt c21, [], 0⟩] (cSc c21) c21.pos := ⋯
theorem BK (ht : fR g.ps) (hn : g.ps.length ≤ 13) : Sx (DD w) (n + 1) (EZ g t (LZ e8 cd pl) [] [("colours", .hdr rs)]) (aa ap 21) (.next (EZ g t (LZ e8 cd pl) [("parts", jk g.ps)] [("colours", .hdr rs)])) := by
 have key : ∀ x o, bw (DD w) (xw (EZ g t (LZ e8 cd pl) [] [("colours", .hdr rs)]) o) (cG c21) (.str (one x)) (xw (EZ g t (LZ e8 cd pl) [] [("colours", .hdr rs)]) (some x)) := fun x o => by
  cases o <;> exact aI ⋯
 have kx : ∀ x, Ev (DD w) (n + 1) (xw (EZ g t (LZ e8 cd pl) [] [("colours", .hdr rs)]) (some x)) (a5 c21) (.str (one x)) := fun x => aF (T := TB w (n + 1)) (k := 5) ⋯
 have vx : ∀ x, Lo x → Ev (DD w) (n + 1) (xw (EZ g t (LZ e8 cd pl) [] [("colours", .hdr rs)]) (some x)) (mW c21) (ptV (ax g.ps x)) := fun x hx =>
  ct (fv := .ref (nat_lit 258)) ⋯ ⋯ ⋯ (ai (aD (v := tV g.ps) ⋯ ⋯ ⋯) (ai (ah (v := .str (one x)) ⋯ ⋯ ⋯) al)) (qC hx ht hn)
 have l97 : Lo 97 := ⟨by decide, by decide⟩
 have l98 : Lo 98 := ⟨by decide, by decide⟩
 have l99 : Lo 99 := ⟨by decide, by decide⟩
 have l100 : Lo 100 := ⟨by decide, by decide⟩
 have l101 : Lo 101 := ⟨by decide, by decide⟩
 have cdp : d7 (DD w) (n + 1) (a5 c21) (mW c21) (cG c21) [] (xw (EZ g t (LZ e8 cd pl) [] [("colours", .hdr rs)]) none) [] [.str (one 97), .str (one 98), .str (one 99), .str (one 100), .str (one 101)] (bL (bL (bL (bL (bL [] (one 97) (ptV (ax g.ps 97))) (one 98) (ptV (ax g.ps 98))) (one 99) (ptV (ax g.ps 99))) (one 100) (ptV (ax g.ps 100))) (one 101) (ptV (ax g.ps 101))) :=
  .take (key 97 none) aE (kx 97) (vx 97 l97) (.take (key 98 _) aE (kx 98) (vx 98 l98) (.take (key 99 _) aE (kx 99) (vx 99 l99) (.take (key 100 _) aE (kx 100) (vx 100 l100) (.take (key 101 _) aE (kx 101) (vx 101 l101) .nil))))
 have i1 : Ev (DD w) (n + 1) (EZ g t (LZ e8 cd pl) [] [("colours", .hdr rs)]) c21 (.dict (bL (bL (bL (bL (bL [] (one 97) (ptV (ax g.ps 97))) (one 98) (ptV (ax g.ps 98))) (one 99) (ptV (ax g.ps 99))) (one 100) (ptV (ax g.ps 100))) (one 101) (ptV (ax g.ps 101)))) := by
  rw [xT]
  exact xo ⋯ (fg (T := TB w (n + 1)) (k := 5) ⋯) (by show 5 ≤ _; decide) cdp
 rw [show aa ap 21 = .Assign [.Name "parts" (aw (aa ap 21)).pos] c21 (aa ap 21).pos by rfl']
 exact .name i1 (aO ⋯)
theorem Dp.lis {P : Around → Env → Prop} {Z : Env → Heap → Prop} {D : Std} {n : Nat} {ea : ao} {x : Str} {p dp pos : Pos} {body : List Stmt} {r : V} (hx : cI ea x = true) (hmw : ea.mw = true) (hb : Dp P Z D n (cF ea x (.lis [])) body r) : Dp P Z D n ea (.Assign [.Name x p] (.List [] dp) pos :: body) r :=
 ⟨by
  intro M F W env s A E
  exact dR hx hmw (fun z z z z => rfl) (fun {M F W env s A E} hA R => by
   show wpAny _ A (standAt dp >>= fun z => spliced (backTo dp (starEach [] env)) >>= newList) _ E s
   refine Wb (wpAny_standAt (Wb (spliced_nil ?_)))
   refine du ?_
   exact ⟨aC .., Kp.push' s _ s.toks, s.heap.objs.size, s.heap.objs.size, rfl, A6' _, A5' (A4' _ rfl), .lis (A4' _ rfl) .nil⟩) hb.h⟩
theorem pT {D : Std} {n : Nat} {ea : ao} {y : Str} {yp p : Pos} {r : Expr} {op : CmpOp} {xs : List V} {b : V} {c : Bool} (hy : sq y "__debug__" = false) (hmo : lk ea.mo y = some (.lis xs)) (hb : Ev D n ea r b) (hc : a6 D.prog D.w op (.list xs) b c) : Ev D n ea (.Compare (.Name y yp) [op] [r] p) (.bool c) := by
 have two : ∀ {M F W : Ap} {env : Env} {s : Shared} {A : Around} {E : Ee} {Q : Ee}, bb n A → Rel D M F W env ea s → (∀ s', s.heap.objs.size ≤ s'.heap.objs.size → Keeps s s' → Q (.bool c) s') →
   wpAny (model D.prog D.w) A (eval (.Name y yp) env) (fun u s₁ => wpAny (model D.prog D.w) A (eval r env) (fun v s₂ => wpAny (model D.prog D.w) A (compareOp op u v) Q E s₂) E s₁) E s := fun {M F W env s A E Q} hA R h => by
  refine wpAny_Name (au (bJ R hmo) fun ov s₁ h₁ => ?_) (by simpa using aJ hy)
  obtain ⟨rfl, a, l, rfl, _, hF, _, mobj, _⟩ := h₁
  refine au (hb.ev hA R) fun v s₂ g => ?_
  have mobj₂ := mobj.keep (X := fun t => False) (fun b q => q.elim) (fun q => q) (Kp.toW g.2.1)
  cases mobj₂ with | lis ho rr =>
  have r1 : VR D.prog D.w (fun b => M b ∧ b ≠ a) s₂.heap (.ref a) (.list xs) := .list (fun q => q.2 rfl) ho (rr.mono (fun t t t e => e) fun b q => .inl q.1)
  have r2 : VR D.prog D.w (fun b => M b ∧ b ≠ a) s₂.heap v b := g.2.2.mono (fun t t t e => e) fun b q => .inl q.1
  refine au (bh (hc r1 r2 (by have := hA.units; lia))) fun u s₃ g₃ => ?_
  obtain ⟨z3, k3, r3⟩ := g₃
  cases r3
  exact h s₃ (A1' g.1 z3) (Kp.trans' g.2.1 k3)
 exact .mkT ⟨fun t t => rfl, fun t t => rfl, fun t => rfl, fun t t t t t => rfl, fun t t t => rfl⟩ (fun t t t t => rfl)
  (fun {M F W env s A E b'} hA R ht => wpAny_isTrue_Compare1 (two hA R fun s' z k => au (ht.2 (M := M) (.bool c)) fun t t g₂ => ⟨g₂.1, A1' z g₂.2.1, Kp.trans' k g₂.2.2⟩) (hb.pl.marks op))
  fun hA R => wpAny_Compare1 (two hA R fun s' z k => ⟨z, k, .bool c⟩) (hb.pl.marks op)
end
end
section
noncomputable def bH (p : P2) (l : List Nat) : Bool := l.contains p.1 && l.contains p.2
noncomputable def ci (ps : List P2) (p : P2) (x : Nat) : Bool := !(p.1 == x || p.2 == x) && ((ax ps x).filter (bH p)).isEmpty
noncomputable def gi (d : P2 → Int) (p : P2) : Bool := decide (d p > 1)
noncomputable def rF (ps : List P2) : List P2 := aG.filter (gi (cu ps))
noncomputable def aH (ps : List P2) (l : List P2) (p : P2) : List P2 := if (abc.filter (ci ps p)).isEmpty = true then l ++ [p] else l
noncomputable def c23 : Expr := af (aa ap 23)
noncomputable def s23 : Stmt := aa (an (aa ap 23)) 0
noncomputable def mc : Expr := aj 0 (af s23)
noncomputable def nj : Expr := (eM mc).getD 0 mc
noncomputable def jJ : Expr := aj 0 (bv 1 nj)
noncomputable def qV : Expr := (eM jJ).getD 0 jJ
noncomputable def uvL : Option P2 → Lv
 | none => []
 | some p => [("u", .str (one p.1)), ("v", .str (one p.2))]
noncomputable def FZ (g : G) (t : List Row) (e8 cd : V) (pl : Bool) (o : Option P2) (l : List P2) : ao := EZ g t (LZ e8 cd pl) (("parts", jk g.ps) :: uvL o) [("loose", .lis ((l.map am).map .str))]
theorem mK {b : Nat} {ps : List P2} : ∀ l ∈ ax ps b, ∀ c ∈ l, Lo c := by
 have key : ∀ (qs : List P2) (l : List (List Nat)), (∀ x ∈ l, ∀ c ∈ x, Lo c) → ∀ x ∈ qs.foldl (aU b) l, ∀ c ∈ x, Lo c := by
  intro qs
  induction qs with
  | nil => exact fun l h => h
  | cons p qs ih =>
   intro l h
   refine ih _ fun x hx c hc => ?_
   unfold aU at hx
   split at hx
   ·exact h x hx c hc
   ·rcases C3' hx with hx | hx
    ·exact h x (List.mem_filter.mp hx).1 c hc
    ·rw [C1' hx] at hc
     obtain ⟨y, hy, hcy⟩ := List.mem_flatten.mp hc
     exact h y ((List.mem_filter.mp hy).1) c hcy
 refine key ps _ fun x hx c hc => ?_
 obtain ⟨y, hy, rfl⟩ := C5' hx
 rw [C1' hc]
 exact bG y ((List.mem_filter.mp hy).1)
theorem vp {l : List Nat} (h : ∀ c ∈ l, Lo c) : SOk (fj l) := by
 show l.toArray.all _ = true
 rw [List.all_toArray, List.all_eq_true]
 intro c hc
 have := (h c hc).2
 exact decide_eq_true (by exact B4' ‹_› (by decide))
section
variable {w : World} {n : Nat} {g : G} {t : List Row} {e8 cd : V} {pl : Bool} {l : List P2} {p : P2}
theorem xL : c23 = .ListComp (a5 c23) [⟨cG c23, cIt c23, [(eM c23).getD 0 c23], 0⟩] (cSc c23) c23.pos := ⋯
theorem uG : mc = .ListComp (a5 mc) [⟨cG mc, cIt mc, [.BoolOp .And [bv 0 nj, bv 1 nj] nj.pos], 0⟩] (cSc mc) mc.pos := ⋯
theorem uO : jJ = .ListComp (a5 jJ) [⟨cG jJ, cIt jJ, [.BoolOp .And [bv 0 qV, bv 1 qV] qV.pos], 0⟩] (cSc jJ) jJ.pos := ⋯
noncomputable def q23 (ea : ao) (o : Option P2) : ao := { cenvOf ea (cSc c23) with loc := match o with | none => [] | some x => [("pair", .str (am x))] }
noncomputable def w23 (ea : ao) (o : Option Nat) : ao := { cenvOf ea (cSc mc) with loc := match o with | none => [] | some x => [("w", .str (one x))] }
noncomputable def p23 (ea : ao) (x : Nat) (o : Option (List Nat)) : ao := { cenvOf (w23 ea (some x)) (cSc jJ) with loc := match o with | none => [] | some x => [("part", .str (fj x))] }
theorem qQ {ea : ao} (he : ea = FZ g t e8 cd pl none []) : ∀ (ks : List P2) (o : Option P2), (∀ p ∈ ks, Los p) → cT (DD w) n (a5 c23) (cG c23) [(eM c23).getD 0 c23] (q23 ea o) ((ks.map am).map .str) (((ks.filter (gi (cu g.ps))).map am).map .str) := by
 intro v0'
 induction v0' with
 | nil =>
  exact fun z z => .nil
 | cons p ks ih' =>
  exact fun o h => by
   subst he
   obtain ⟨a, b⟩ := p
   have hp := h _ (.head _)
   have ih := ih' (some (a, b)) fun r hr => h r (.tail _ hr)
   have ht : bw (DD w) (q23 (FZ g t e8 cd pl none []) o) (cG c23) (.str (am (a, b))) (q23 (FZ g t e8 cd pl none []) (some (a, b))) := by cases o <;> exact aI ⋯
   have i1 : Ev (DD w) n (q23 (FZ g t e8 cd pl none []) (some (a, b))) ((eM c23).getD 0 c23) (.bool (gi (cu g.ps) (a, b))) :=
    bo (d6 (aD (v := bN g.ps) ⋯ ⋯ ⋯) (ah (v := .str (am (a, b))) ⋯ ⋯ ⋯) (ck (ma hp.1 hp.2))) (aK (wpAny_Constant_int (aP _ _ _))) (nO fun z z => P.gt_int (aB _))
   cases q : gi (cu g.ps) (a, b) with
   | true =>
    rw [q] at i1
    rw [List.filter_cons_of_pos q]
    exact .take ht (aY i1 aR) (ah ⋯ ⋯ ⋯) ih
   | false =>
    rw [q] at i1
    rw [List.filter_cons_of_neg (by rw [q]; decide)]
    exact .skip ht (aY i1 aR) ih
theorem oG {x : Nat} {ea : ao} (he : ea = FZ g t e8 cd pl (some p) l) : ∀ (xs : List (List Nat)) (o : Option (List Nat)), cT (DD w) n (a5 jJ) (cG jJ) [.BoolOp .And [bv 0 qV, bv 1 qV] qV.pos] (p23 ea x o) ((xs.map fj).map .str) (((xs.filter (bH p)).map fj).map .str) := by
 intro v0'
 induction v0' with
 | nil =>
  exact fun z => .nil
 | cons y xs ih' =>
  exact fun o => by
   subst he
   have ih := ih' (some y)
   have ht : bw (DD w) (p23 (FZ g t e8 cd pl (some p) l) x o) (cG jJ) (.str (fj y)) (p23 (FZ g t e8 cd pl (some p) l) x (some y)) := by cases o <;> exact aI ⋯
   have i1 : Ev (DD w) n (p23 (FZ g t e8 cd pl (some p) l) x (some y)) (bv 0 qV) (.bool (y.contains p.1)) := by
    rw [← bm]
    exact me (aD ⋯ ⋯ ⋯) (ah ⋯ ⋯ ⋯)
   have i2 : Ev (DD w) n (p23 (FZ g t e8 cd pl (some p) l) x (some y)) (bv 1 qV) (.bool (y.contains p.2)) := by
    rw [← bm]
    exact me (aD ⋯ ⋯ ⋯) (ah ⋯ ⋯ ⋯)
   have i3 := jA (p := qV.pos) i1 i2
   have e : (y.contains p.1 && y.contains p.2) = bH p y := rfl
   rw [e] at i3
   cases h : bH p y with
   | true =>
    rw [h] at i3
    rw [List.filter_cons_of_pos h]
    exact .take ht (aY i3 aR) (ah ⋯ ⋯ ⋯) ih
   | false =>
    rw [h] at i3
    rw [List.filter_cons_of_neg (by rw [h]; decide)]
    exact .skip ht (aY i3 aR) ih
theorem m7 {x : Nat} {ps : List P2} (h : Lo x) : cc (abc.map fun b => (one b, ptV (ax ps b))) (one x) = some (ptV (ax ps x)) :=
 lo1 h (by rfl' : (abc.map fun x => cc (abc.map fun b => (one b, ptV (ax ps b))) (one x)) = mp (fun x => some (ptV (ax ps x))) abc)
theorem ow {α : Type} {ds : List α} {f : α → PyData} : PyData.eqv (.list (ds.map f)) (.list []) = ds.isEmpty := by cases ds <;> rfl
theorem vd {D : Std} {n : Nat} {ea : ao} {p : Pos} : Ev D n ea (.List [] p) (.list []) := eW (by decide) al
theorem Bu {prog : Program} {w : World} {n : Nat} : eP prog w (n + 1) (.list []) (.list []) := bQ ch
theorem qg {x : Nat} (hx : Lo x) (hp : Los p) (hn : (ax g.ps x).length ≤ 1000) : Ev (DD w) n (w23 (FZ g t e8 cd pl (some p) l) (some x)) (.BoolOp .And [bv 0 nj, bv 1 nj] nj.pos) (.bool (ci g.ps p x)) := by
 have i0 : Ev (DD w) n (w23 (FZ g t e8 cd pl (some p) l) (some x)) (bv 0 nj) (.bool (!(one p.1 == one x || (one p.2 == one x || false)))) :=
  bo (ah (v := .str (one x)) ⋯ ⋯ ⋯) (mO (by decide) (ai (aD (v := .str (one p.1)) ⋯ ⋯ ⋯) (ai (aD (v := .str (one p.2)) ⋯ ⋯ ⋯) al)))
   (lY (aM (fK hx)) (ba (aM (fK hp.1)) (ba (aM (fK hp.2)) ch))).2
 rw [dQ, dQ, Bool.or_false] at i0
 have i1 : Ev (DD w) n (w23 (FZ g t e8 cd pl (some p) l) (some x)) jJ (ptV ((ax g.ps x).filter (bH p))) := by
  rw [uO]
  refine pe ⋯ (dI (v := ptV (ax g.ps x)) ?_ rfl) (by rw [List.length_map, List.length_map]; exact A1' ‹_› (by decide)) (oG rfl (ax g.ps x) none)
  rw [show cIt jJ = .Subscript (.Name "parts" (sOb (cIt jJ)).pos) (.Name "w" (sIx (cIt jJ)).pos) (cIt jJ).pos by rfl']
  exact d6 (aD (v := jk g.ps) ⋯ ⋯ ⋯) (ah (v := .str (one x)) ⋯ ⋯ ⋯) (ck (m7 hx))
 have pk : eP (DD w).prog (DD w).w 8 (ptV ((ax g.ps x).filter (bH p))) (.list ((((ax g.ps x).filter (bH p)).map fj).map .str)) := by
  refine bQ (n := 7) (bP fun y hy => ?_)
  obtain ⟨z, hz, rfl⟩ := C5' hy
  exact aM (vp (mK z ((List.mem_filter.mp hz).1)))
 have ce : a6 (DD w).prog (DD w).w .Eq (ptV ((ax g.ps x).filter (bH p))) (.list []) (PyData.eqv (.list ((((ax g.ps x).filter (bH p)).map fj).map .str)) (.list [])) := iV pk Bu
 rw [ow, List.isEmpty_map] at ce
 have i2 : Ev (DD w) n (w23 (FZ g t e8 cd pl (some p) l) (some x)) (bv 1 nj) (.bool ((ax g.ps x).filter (bH p)).isEmpty) := bo i1 vd ce
 exact jA i0 i2
theorem wZ {ea : ao} (he : ea = FZ g t e8 cd pl (some p) l) (hp : Los p) (hn : ∀ x, (ax g.ps x).length ≤ 1000) : ∀ (xs : List Nat) (o : Option Nat), (∀ x ∈ xs, Lo x) → cT (DD w) n (a5 mc) (cG mc) [.BoolOp .And [bv 0 nj, bv 1 nj] nj.pos] (w23 ea o) (eT xs) (((xs.filter (ci g.ps p)).map one).map .str) := by
 intro v0'
 induction v0' with
 | nil =>
  exact fun z z => .nil
 | cons x xs ih' =>
  exact fun o h => by
   subst he
   have ih := ih' (some x) fun r hr => h r (.tail _ hr)
   have ht : bw (DD w) (w23 (FZ g t e8 cd pl (some p) l) o) (cG mc) (.str (one x)) (w23 (FZ g t e8 cd pl (some p) l) (some x)) := by cases o <;> exact aI ⋯
   have i3 := qg (w := w) (n := n) (g := g) (t := t) (e8 := e8) (cd := cd) (pl := pl) (l := l) (h x (.head _)) hp (hn x)
   cases q : ci g.ps p x with
   | true =>
    rw [q] at i3
    rw [List.filter_cons_of_pos q]
    exact .take ht (aY i3 aR) (ah ⋯ ⋯ ⋯) ih
   | false =>
    rw [q] at i3
    rw [List.filter_cons_of_neg (by rw [q]; decide)]
    exact .skip ht (aY i3 aR) ih
theorem mB (hp : Los p) (hn : ∀ x, (ax g.ps x).length ≤ 1000) (hl : l.length ≤ 1000) : Bx (DD w) n (FZ g t e8 cd pl (some p) l) (an (aa ap 23)) (.next (FZ g t e8 cd pl (some p) (aH g.ps l p))) := by
 have i1 : Ev (DD w) n (FZ g t e8 cd pl (some p) l) mc (.list (((abc.filter (ci g.ps p)).map one).map .str)) := by
  rw [uG]
  exact pe ⋯ (fg (T := TB w n) (k := 5) ⋯) (by show 5 ≤ _; decide) (wZ rfl hp hn abc none bG)
 have ce : a6 (DD w).prog (DD w).w .Eq (.list (((abc.filter (ci g.ps p)).map one).map .str)) (.list []) (PyData.eqv (.list (((abc.filter (ci g.ps p)).map one).map .str)) (.list [])) := iV (o0 fun x hx => bG x (List.mem_filter.mp hx).1) Bu
 rw [ow, List.isEmpty_map] at ce
 rw [show an (aa ap 23) = [.If (.Compare mc [.Eq] [.List [] (aj 1 (af s23)).pos] (af s23).pos) (an s23) [] s23.pos] by rfl']
 refine .next (.ife (bo i1 vd ce) aR ?_) .nil
 unfold aH
 cases h : (abc.filter (ci g.ps p)).isEmpty with
 | false => exact .nil
 | true =>
  rw [if_pos rfl, if_pos rfl]
  rw [show an s23 = [aa (an s23) 0] by rfl']
  have e : ((l ++ [p]).map am).map V.str = (l.map am).map V.str ++ [.str (am p)] := by rw [List.map_append, List.map_append]; rfl
  have e2 : FZ g t e8 cd pl (some p) (l ++ [p]) = { FZ g t e8 cd pl (some p) l with mo := [("loose", .lis ((l.map am).map .str ++ [.str (am p)]))] } := by
   unfold FZ
   rw [e]; rfl
  rw [e2]
  have i2 : Ev (DD w) n (FZ g t e8 cd pl (some p) l) (aj 0 (af (aa (an s23) 0))) (.str (am p)) := by
   obtain ⟨a, b⟩ := p
   exact aF (T := TB w n) (k := 5) ⋯
  rw [show aa (an s23) 0 = .Expr (af (aa (an s23) 0)) (aa (an s23) 0).pos by rfl']
  exact .next (.fxexpr (dU (mv := .lis ((l.map am).map .str)) ⋯ ⋯ ⋯ ⋯ (by decide) (ai i2 al) (px (by rw [List.length_map, List.length_map]; exact A1' ‹_› (by decide))))) .nil
theorem mQ (hn : ∀ x, (ax g.ps x).length ≤ 1000) : ∀ (qs : List P2) (o : Option P2) (l : List P2), (∀ q ∈ qs, Los q) → l.length + qs.length ≤ 1000 → ∃ o', im (DD w) n (aw (aa ap 23)) (an (aa ap 23)) (FZ g t e8 cd pl o l) ((qs.map am).map .str) (.next (FZ g t e8 cd pl o' (qs.foldl (aH g.ps) l))) := by
 intro v0'
 induction v0' with
 | nil =>
  exact fun o l z z => ⟨o, .nil⟩
 | cons p qs ih' =>
  exact fun o l h h1 => by
   rw [List.length_cons] at h1
   have hs : (aH g.ps l p).length ≤ l.length + 1 := by
    unfold aH; split
    ·simp
    ·exact Nat.le_succ _
   obtain ⟨o', ih⟩ := ih' (some p) (aH g.ps l p) (fun q hq => h q (.tail _ hq)) (by lia)
   refine ⟨o', .more (e1 := FZ g t e8 cd pl (some p) l) ?_ (mB (h p (.head _)) hn (by exact A1' (Nat.le_add_right ..) ‹_›)) ih⟩
   obtain ⟨a, b⟩ := p
   cases o <;> exact aI ⋯
end
end
section
noncomputable def wc : Ap := fun z => False
noncomputable def Fly (base : Heap) (l : List Env) (W : Ap) (msg : Str) (s : Shared) (e : Value) (s' : Shared) : Prop :=
 ∃ x t tok h' tk, e = .ref x ∧ s' = { s with heap := h', toks := tk } ∧ Heap.FlyingW base l x (.type "ValueError") (.ref t) h' ∧ h'.TupAt t [.str msg tok] ∧
  ∀ b o, ¬ W b → s.heap.get? b = some o → (∀ vs, o.data ≠ .fields vs) → ∃ sl, h'.get? b = some { o with slots := sl }
theorem Fly.then {base : Heap} {l : List Env} {W : Ap} {msg : Str} {s s₁ s' : Shared} {e : Value} (f : Fly base l W msg s₁ e s') (k : aq W s s₁) : Fly base l W msg s e s' := by
 obtain ⟨h₁, t₁, rfl, k⟩ := k
 obtain ⟨x, t, tok, h', tk, rfl, rfl, f1, f2, f3⟩ := f
 exact ⟨x, t, tok, h', tk, rfl, rfl, f1, f2, fun b o q e => f3 b o q (k b o q e)⟩
theorem Fly.sub {base : Heap} {l : List Env} {W W' : Ap} {msg : Str} {s s' : Shared} {e : Value} (f : Fly base l W msg s e s') (h : ∀ b, W b → W' b) : Fly base l W' msg s e s' := by
 obtain ⟨x, t, tok, h', tk, rfl, rfl, f1, f2, f3⟩ := f
 exact ⟨x, t, tok, h', tk, rfl, rfl, f1, f2, fun b o q e => f3 b o (fun z => q (h b z)) e⟩
theorem nH {h h' base : Heap} {l : List Env} (x : h.FunFrames base l) (k : ∀ L o, L ∈ l.filterMap (·.frame) → h.get? L = some o → h'.get? L = some o) : h'.FunFrames base l := by
 induction l with
 | nil => trivial
 | cons v l ih =>
  obtain ⟨hk, ⟨L, o, hf, hn, ho, hd⟩, hr⟩ := x
  rw [List.filterMap_cons, hf] at k
  exact ⟨hk, ⟨L, o, hf, hn, k L o (.head _) ho, hd⟩, ih hr fun L o m => k L o (.tail _ m)⟩
structure fc (base : Heap) (A : Around) (env : Env) (l : List Env) (W : Ap) (s : Shared) : Prop where
 fr : A.frames = some (env :: l)
 fe : env.frame = some env.locals
 st : base.StaysIn s.heap
 ff : s.heap.FunFrames base l
 nb : ∀ b, W b → base.get? b = none
 no : ∀ L, L ∈ l.filterMap (·.frame) → ¬ W L
section
variable {D : Std} {n : Nat} {M F W : Ap} {env : Env} {ea e1 : ao} {s s' : Shared} {A : Around} {E : Ee} {base : Heap} {l : List Env} {msg : Str}
theorem fc.keep (U : fc base A env l W s) (k : aq W s s') : fc base A env l W s' :=
 { U with
  st := fun b o e => k.get (fun q => by rw [U.nb b q] at e; cases e) (U.st b o e)
  ff := nH U.ff fun L z m => k.get (U.no L m) }
theorem fc.all (U : fc base A env l W s) (R : Rel D M F W env ea s) : s.heap.FunFrames base (env :: l) := by
 obtain ⟨m, hm, _⟩ := R.loc
 exact .cons (by rw [R.fn]; decide) U.fe hm (U.nb _ R.ml) U.ff
noncomputable def RaE (D : Std) (n : Nat) (ea : ao) (e : Expr) (msg : Str) : Prop := ∀ {M F W : Ap} {env : Env} {s : Shared} {A : Around} {E : Ee} {base : Heap} {l : List Env}, bb n A → Rel D M F W env ea s → fc base A env l W s →
 (∀ e s', Fly base (env :: l) wc msg s e s' → E e s') → wpAny (model D.prog D.w) A (eval e env) (fun z z => False) E s
noncomputable def RaS (D : Std) (n : Nat) (ea : ao) (st : Stmt) (msg : Str) : Prop := ∀ {M F W : Ap} {env : Env} {s : Shared} {A : Around} {E : Ee} {base : Heap} {l : List Env}, bb n A → Rel D M F W env ea s → fc base A env l W s →
 (∀ e s', Fly base (env :: l) W msg s e s' → E e s') → wpAny (model D.prog D.w) A (exec st env) (fun z z => False) E s
noncomputable def RaB (D : Std) (n : Nat) (ea : ao) (b : List Stmt) (msg : Str) : Prop := ∀ {M F W : Ap} {env : Env} {s : Shared} {A : Around} {E : Ee} {base : Heap} {l : List Env}, bb n A → Rel D M F W env ea s → fc base A env l W s →
 (∀ e s', Fly base (env :: l) W msg s e s' → E e s') → wpAny (model D.prog D.w) A (execs b env) (fun z z => False) E s
theorem iM {x : Str} {p pos : Pos} {e : Expr} (h : RaE D n ea e msg) (ns : gG e) : RaS D n ea (.Assign [.Name x p] e pos) msg := fun hA R U k =>
 wpAny_Assign_Name (au (h hA R U fun e s' f => k e s' (f.sub fun z q => q.elim)) fun z z f => f.elim) (ns _ _ _ _)
theorem rN {pos : Pos} {e : Expr} (h : RaE D n ea e msg) (sw : ∀ line env, swapsWith e none line env = pure false) : RaS D n ea (.Expr e pos) msg := fun {M F W env s A E base l} hA R U k =>
 wpAny_Expr_any (au (h hA R U fun e s' f => k e s' (f.sub fun z q => q.elim)) fun z z f => f.elim) (by unfold interactive; rw [R.fn]; rfl) (sw _ env)
theorem dw {st : Stmt} {b : List Stmt} (h : RaS D n ea st msg) : RaB D n ea (st :: b) msg := fun hA R U k => B2' (au (h hA R U k) fun z z f => f.elim)
theorem lD {st : Stmt} {b : List Stmt} (h : eQ D n ea st (.next e1)) (hb : RaB D n e1 b msg) : RaB D n ea (st :: b) msg := fun hA R U kk => B2' (au (h hA R) fun f s₁ g => by
 obtain ⟨rfl, _, k, R₁⟩ := g
 exact hb hA R₁ (U.keep k) fun e s' f => kk e s' (f.then k))
theorem r8 {t : Expr} {b o : List Stmt} {p : Pos} {v : V} {c : Bool} (h : Ev D n ea t v) (hc : dT D v c) (hb : RaB D n ea (if c = true then b else o) msg) : RaS D n ea (.If t b o p) msg := fun {_ _ _ _ _ _ E _ _} hA R U kk =>
 wpAny_If (au (h.tr hA R hc) fun c' s₁ g => by
  obtain ⟨rfl, hz, k⟩ := g
  have := hb (E := E) hA (R.keeps k hz) (U.keep (Kp.toW k)) fun e s' f => kk e s' (f.then (Kp.toW k))
  cases c' <;> exact this)
theorem li {a : Addr} {fd : FuncData} {body : List Stmt} (FA : dW D a fd body) (hA : bb (n + 1) A) (hst : D.St s.heap) (hd : Dom M s) (hmb : ∀ b, M b → D.base ≤ b ∨ b = D.tab) (hbs : D.base ≤ s.heap.objs.size) {x : Addr} {lx : Addr} {mv : MV} (hM : M lx) (mobj : cj D M s.heap x lx mv) {p : Str} (hp : lk fd.scope.names p = some .local) (hq : lk ea.loc p = some (.sta (.ref x))) (hnm : ea.names = fd.scope.names) (hmo : ea.mo = [])
  {ps : List Str} {xs : List V} {ag : Args} (hbind : ∀ E' : Ee, wpAny (model D.prog D.w) A.in1 (bindArgs fd ag) (fun b s' => s.heap.objs.size ≤ s'.heap.objs.size ∧ Keeps s s' ∧ ∃ vals, b = ps.zip vals ∧ ps.length = vals.length ∧ VRs D.prog D.w M s'.heap vals xs) E' s) (ha : c9 D (baseE fd.scope.names) (ps.zip xs) ea)
  {RR : Result → Shared → Prop} (hb : ∀ {M₂ F₂ W₂ : Ap} {env : Env} {s₂ : Shared} {A₂ : Around}, bb n A₂ → Rel D M₂ F₂ W₂ env (cF { ea with mw := false } p mv) s₂ → aq (fun b => s.heap.objs.size ≤ b) s s₂ → s.heap.objs.size ≤ s₂.heap.objs.size → (∀ b, W₂ b → s.heap.objs.size ≤ b) → ue A A₂ env fd.code →
   wpAny (model D.prog D.w) A₂ (execs body env) (fun f s' => RR (.ok (.ret (match f with | .ret v => v | _ => .none))) s') (fun e s' => wpAny (model D.prog D.w) A₂ (leaving env e) (fun z s'' => RR (.error e) s'') (fun e' s'' => RR (.error e') s'') s') s₂) :
  codeAny (model D.prog D.w) A (.call (.ref a) ag) RR s :=
 dt FA hA hst hd hmb hbs hbind ha fun {M₂ F₂ W₂ env s₂ A₂} hA₂ R₂ hM₂ hz k₂ hF hFW fr => by
  have hl : @LT.lt Nat _ lx s.heap.objs.size := hd lx hM
  have nW : ¬ W₂ lx := fun q => A7' _ (A2' hl (hF _ (R₂.wf _ q)))
  have old : ∀ b o, s.heap.get? b = some o → s₂.heap.get? b = some o := fun b o e => k₂.get (fun q => A7' _ (A2' (A5' e) q)) e
  have mo₂ : cj D M₂ s₂.heap x lx mv := mobj.grow (fun b o z => old b o) (fun b q => (fr.2 b q).imp id fun q => by
   cases e : s.heap.get? b with
   | none => rfl
   | some o => exact absurd (A5' e) (Nat.not_lt.mpr q)) fun o => old _ o
  have R₃ := (R₂.widen (F' := fun b => F₂ b ∨ b = lx) (W' := W₂) (fun b q => .inl q) (fun b q => q) (fun b q => .inl (R₂.wf b q)) (fun b q => q.elim (R₂.fm b) fun e => e ▸ (hM₂ _ hM).1) (.inl hmo)).setMw hmo false
  have ne : lx ≠ env.locals := fun e => nW (by rw [e]; exact R₂.ml)
  have mw : wh false W₂ lx := ⟨fun h => (nomatch h), fun z => nW⟩
  exact hb hA₂ (R₃.toMut (.inl ⟨by show lk ea.names p = _; rw [hnm]; exact hp, hq⟩) ne (.inr rfl) mw mo₂) k₂ hz (fun b q => hF b (R₂.wf b q)) fr.1
theorem eH {W₂ : Ap} {s₂ : Shared} {A₂ : Around} {c : Value} (hfr : A.frames = some l) (st : base.StaysIn s.heap) (ff : s.heap.FunFrames base l) (k₂ : aq (fun b => s.heap.objs.size ≤ b) s s₂) (hW : ∀ b, W₂ b → s.heap.objs.size ≤ b) (fr : ue A A₂ env c) : fc base A₂ env l W₂ s₂ where
 fr := fr.1 l hfr
 fe := fr.2.1
 st := fun b o e => k₂.get (fun q => A7' _ (A2' (A5' (st b o e)) q)) (st b o e)
 ff := nH ff fun L o z e => k₂.get (fun q => A7' _ (A2' (A5' e) q)) e
 nb := fun b q => by
  cases e : base.get? b with
  | none => rfl
  | some o => exact absurd (A5' (st b o e)) (Nat.not_lt.mpr (hW b q))
 no := fun L m q => by
  obtain ⟨_, o, ho, _⟩ := ff.mem m
  exact A7' _ (A2' (A5' ho) (hW L q))
theorem wT {s₂ : Shared} {W₂ : Ap} {h' : Heap} {s₃ : Shared} {x t : Addr} {tok : Tok} (k₂ : aq (fun b => s.heap.objs.size ≤ b) s s₂) (hW : ∀ b, W₂ b → s.heap.objs.size ≤ b) (f : Fly base (env :: l) W₂ msg s₂ (.ref x) s₃) (up : s₃.heap.UpToSlots h') (f1 : Heap.FlyingW base l x (.type "ValueError") (.ref t) h') (f2 : h'.TupAt t [.str msg tok]) : Fly base l W msg s (.ref x) { s₃ with heap := h' } := by
 obtain ⟨h₂, t₂, rfl, kk⟩ := k₂
 obtain ⟨x', _, _, h₃, tk, _, rfl, _, _, f3⟩ := f
 refine ⟨x, t, tok, h', tk, rfl, rfl, f1, f2, fun b o z e hn => ?_⟩
 have hb : ¬ s.heap.objs.size ≤ b := fun q => A7' _ (A2' (A5' e) q)
 obtain ⟨sl, e1⟩ := f3 b o (fun q => hb (hW b q)) (kk b o hb e) hn
 obtain ⟨sl', e2⟩ := up b _ e1 hn
 exact ⟨sl', e2⟩
theorem oY {s₂ : Shared} {W₂ : Ap} {A₂ : Around} {e : Value} {s₃ : Shared} (U : fc base A₂ env l W₂ s₂) (k₂ : aq (fun b => s.heap.objs.size ≤ b) s s₂) (hW : ∀ b, W₂ b → s.heap.objs.size ≤ b) (f : Fly base (env :: l) W₂ msg s₂ e s₃) {Q : Unit → Shared → Prop}
  (h : ∀ s', Fly base l W msg s e s' → Q () s') : wpAny (model D.prog D.w) A₂ (leaving env e) Q E s₃ := by
 have f' := f
 obtain ⟨x, t, tok, h₃, tk, rfl, rfl, f1, f2, f3⟩ := f
 refine wpAny_leaves_onW U.fr U.fe f1 fun h' fl up => h _ (wT k₂ hW f' up fl (f2.of_slots up))
theorem tm {a : Addr} {fd : FuncData} {body : List Stmt} (FA : dW D a fd body) (hA : bb (n + 1) A) (hst : D.St s.heap) (hd : Dom M s) (hmb : ∀ b, M b → D.base ≤ b ∨ b = D.tab) (hbs : D.base ≤ s.heap.objs.size) {x : Addr} {lx : Addr} {mv : MV} (hM : M lx) (mobj : cj D M s.heap x lx mv) {p : Str} (hp : lk fd.scope.names p = some .local) (hq : lk ea.loc p = some (.sta (.ref x))) (hnm : ea.names = fd.scope.names) (hmo : ea.mo = [])
  {ps : List Str} {xs : List V} {ag : Args} (hbind : ∀ E' : Ee, wpAny (model D.prog D.w) A.in1 (bindArgs fd ag) (fun b s' => s.heap.objs.size ≤ s'.heap.objs.size ∧ Keeps s s' ∧ ∃ vals, b = ps.zip vals ∧ ps.length = vals.length ∧ VRs D.prog D.w M s'.heap vals xs) E' s) (ha : c9 D (baseE fd.scope.names) (ps.zip xs) ea)
  (hfr : A.frames = some l) (st : base.StaysIn s.heap) (ff : s.heap.FunFrames base l) (hb : RaB D n (cF { ea with mw := false } p mv) body msg) (h : ∀ e s', Fly base l W msg s e s' → E e s') : wpAny (model D.prog D.w) A (call (.ref a) ag.pos ag.kw) (fun z z => False) E s :=
 wpAny_call (li FA hA hst hd hmb hbs hM mobj hp hq hnm hmo hbind ha fun hA₂ R₂ k₂ z hW fr => by
  have U := eH hfr st ff k₂ hW fr
  exact au (hb hA₂ R₂ U fun e s' f => oY U k₂ hW f fun s'' f' => h _ _ f') fun z z f => f.elim)
end
end
section
noncomputable def gQ : Str := "Control characters not allowed in headers"
noncomputable def eL (b : Bool) (x : Str) : Prop := (c8 (nat_lit 4000) (dj (cs b) x)).any Option.isSome = true
theorem hG : typeLookup (.type "re.Match") "__bool__" = pure none := by rw [typeLookup_type, builtinLookup_eq_fast]; rfl'
theorem jC : typeLookup (.type "re.Match") "__len__" = pure none := by rw [typeLookup_type, builtinLookup_eq_fast]; rfl'
theorem iY {M : Model} {A : Around} {E : Ee} {s : Shared} {m : Addr} {Q : Bool → Shared → Prop} (h : s.TypeIs (.ref m) "re.Match") (k : Q true s) : wpAny M A (truthy (.ref m)) Q E s := by
 unfold truthy
 dsimp only
 refine Wb (wpAny_callSpecial?_none h hG ?_)
 dsimp only
 refine Wb (wpAny_specialOf h jC ?_)
 exact Wq k
noncomputable def cvB : List Stmt := av (ay o76)
noncomputable def cv0 : Stmt := aa cvB 0
noncomputable def cv1 : Stmt := aa (an cv0) 1
noncomputable def cvR : Expr := af (aa (an cv1) 0)
section
variable {w : World} {n : Nat} {M F W : Ap} {env : Env} {ea : ao} {s s' : Shared} {A : Around} {E : Ee}
theorem oJ {a : Addr} {x : Str} {b : Bool} : Ev (DD w) n (iX a x b) (af cv0) (.bool true) := by
 refine bo (ct (fv := .type "type") (vs := [.str x]) ?_ ?_ ?_ (ai (ah ?_ ?_ ?_) al) (nB rfl)) (dn ?_ ?_ (u := .type "str") rfl) (sh rfl)
 all_goals rfl'
theorem nz {a : Addr} {x : Str} {b : Bool} : Sx (DD w) n (iX a x b) (aa (an cv0) 0) (.next (gF a x b)) := by
 rw [show aa (an cv0) 0 = .Assign [.Name "regex" (aw (aa (an cv0) 0)).pos] (af (aa (an cv0) 0)) (aa (an cv0) 0).pos by rfl']
 refine .name (v := .sta (.ref (reA b))) ?_ (aO ⋯)
 cases b <;> exact aF (T := TB w n) (k := 5) ⋯
theorem oC {a : Addr} {x : Str} {b : Bool} (hd : eL b x) (hA : bb n A) (R : Rel (DD w) M F W env (gF a x b) s) {Q : Bool → Shared → Prop} (k : ∀ s', Keeps s s' → s.heap.objs.size ≤ s'.heap.objs.size → Q true s') : wpAny (model (DD w).prog (DD w).w) A (isTrue (af cv1) env (eval (af cv1) env)) Q E s := by
 have e1 : af cv1 = .Call (.Attribute (.Name "regex" (bS (af cv1)).pos) "search" (dZ (af cv1)).pos) [.Name "value" (aj 0 (af cv1)).pos] [] (af cv1).pos := ⋯
 rw [e1]
 have ev : Evs (DD w) n (gF a x b) [.Name "value" (aj 0 (af cv1)).pos] [.str x] := ai (ah ⋯ ⋯ ⋯) al
 have ho : Ev (DD w) n (gF a x b) (.Name "regex" (bS (af cv1)).pos) (.sta (.ref (reA b))) := ah ⋯ ⋯ ⋯
 refine wpAny_isTrue_value (pA (ho.pl.base _ _ _) ⋯ (show 1 < 20 by decide) ev (au (ho.ev hA R) fun ov s₁ g => ?_)) rfl
 obtain ⟨z1, k1, r1⟩ := g
 have R₁ := R.keeps k1 z1
 have := r1.sta_inv
 subst this
 obtain ⟨p, ob, h1, h2, h3⟩ := lU b R₁.st
 refine getMethod_builtin ⟨ob, h1, h2⟩ bf a8 cg (fun a e => by cases e; exact ⟨ob, h1, h3⟩) (au (ev.ev _ hA R₁) fun us s₃ g₃ => ⟨.inl (fun a e => nomatch e), ?_⟩)
 obtain ⟨z3, k3, r3⟩ := g₃
 obtain ⟨v, rfl, rv1⟩ := r3.one
 obtain ⟨t, rfl⟩ := rv1.str_inv
 obtain ⟨p, ob, h1, h2, h3⟩ := lU b (R₁.keeps k3 z3).st
 unfold eL at hd
 cases hr : c8 (nat_lit 4000) (dj (cs b) x) with
 | none => rw [hr] at hd; cases hd
 | some r =>
  cases r with
  | none => rw [hr] at hd; cases hd
  | some m =>
   refine aA (call_meets a8 ⟨ob, h1, h2⟩ bX (bO _ _) (eZ (k := nat_lit 4000) (by decide +kernel) hr) ⟨p, fun m s₄ k4 ty z4 => iY ty ?_⟩)
   exact k _ (Kp.trans' (Kp.trans' k1 k3) k4) (A1' (A1' z1 z3) z4)
theorem nh {a : Addr} {x : Str} {b : Bool} (hd : eL b x) (hA : bb n A) (R : Rel (DD w) M F W env (iX a x b) s)
  (k : ∀ s₁ h' e tok, aq W s s₁ → (∃ m, s₁.heap.Ns env.locals m) → Heap.MadeExc s₁.heap h' e "ValueError" [.str gQ tok] → E (.ref e) { s₁ with heap := h' }) : wpAny (model (DD w).prog (DD w).w) A (execs (av (ay o76)) env) (fun z z => False) E s := by
 rw [show av (ay o76) = [.If (af cv0) [aa (an cv0) 0, .If (af cv1) [.Raise (some (.Call (.Name "ValueError" (dZ cvR).pos) [.Constant (.str gQ) (kOf (aj 0 cvR)) (aj 0 cvR).pos] [] cvR.pos)) none (aa (an cv1) 0).pos] [] cv1.pos, aa (an cv0) 2] [] cv0.pos, aa cvB 1] by rfl']
 refine B2' (au (wpAny_If (au (oJ.tr hA R aR) fun c' s₁ g => ?_)) fun z z f => False.elim f)
 obtain ⟨rfl, z1, k1⟩ := g
 refine B2' (au (nz.h hA (R.keeps k1 z1)) fun f s₂ g => ?_)
 obtain ⟨rfl, z2, k2, R₂⟩ := g
 refine B2' (au (wpAny_If (oC hd hA R₂ fun s₃ k3 z3 => ?_)) fun z z f => False.elim f)
 have R₃ := R₂.keeps k3 z3
 refine B2' (au (wpAny_Raise_call PySem.F.excCall_ValueError PySem.F.excRaise_ValueError hA.handled rfl (wpAny_Name ?_ (by decide))) fun z z f => False.elim f)
 refine au (f6 (D := DD w) (ea := gF a x b) (x := "ValueError") (u := .type "ValueError") ⋯ ⋯ R₃) fun v s₄ g => ?_
 obtain ⟨k4, r4⟩ := g
 refine ⟨r4.sta_inv, dS rfl (spliced_cons (Constant_str (k := kOf (aj 0 cvR)) (pos := (aj 0 cvR).pos) (spliced_nil ⟨rfl, by show 1 ≤ sizeLine; rw [aX]; decide, fun h' e hm => ?_⟩)))⟩
 obtain ⟨h₄, t₄, rfl, k4'⟩ := id k4
 refine k { s₃ with heap := h₄, toks := t₄ + 1 } h' e t₄ (((((Kp.toW k1).trans k2).trans (Kp.toW k3)).trans (Kp.toW k4)).trans (Kp.toW (Kp.toks' _ _))) ?_ hm
 obtain ⟨m, hm, _⟩ := R₃.loc
 exact ⟨m, hm.at' fun o => k4' _ o⟩
theorem jY {y : Str} {yp : Pos} {apos pos : Pos} {arg : Expr} {b : Bool} {kk : Nat} {kp kpos : Pos} {x : Str} {xs : List V} (hy : sq y "__debug__" = false) (hmo : lk ea.mo y = some (.hdr xs)) (hl : (apos.endLine == pos.line) = true) (ev : Ev (DD w) (n + 1) ea arg (.str x)) (hd : eL b x) :
  RaE (DD w) (n + 1) ea (.Call (.Attribute (.Name y yp) "_convert_string_type" apos) [arg] [⟨some "name", .Constant (.bool b) kk kp, kpos⟩] pos) gQ := fun {M F W env s A E base l} hA R U kk => by
 refine wQ hy hmo hl ev hA R fun a lx hF mobj => ?_
 refine (HX w).method R.st mobj (by decide +kernel) (f := nat_lit 76) ⋯ ⋯ ?_
 have h76 : _ := R.st (nat_lit 76) o76 (by decide) ⋯
 refine ⟨rfl, nat_lit 76, o76, ay o76, rfl, h76, by rfl', fun u s₃ g => ?_⟩
 have R₃ := R.keeps g.2.1 g.1
 have U₃ := U.keep (Kp.toW g.2.1)
 refine wpAny_call (dt (ag := ⟨[.ref a, u], [("name", .bool b)]⟩) Cf hA R₃.st R₃.dom R₃.mb R₃.bs (ps := ["self", "value", "name"]) (xs := [.sta (.ref a), .str x, .bool b]) (fun E' => ?_) (aV (ea' := iX a x b) ⋯) fun {M₂ F₂ W₂ env₂ s₄ A₂} hA₂ R₄ hM hz k₂ hF₂ hFW fr => ?_)
 ·have e : bindArgs (ay o76) ⟨[.ref a, u], [("name", .bool b)]⟩ = pure ((["self", "value", "name"] : List Str).zip [.ref a, u, .bool b]) := ⋯
  rw [e]
  exact Wq ⟨A6' _, Kp.refl' _, [.ref a, u, .bool b], rfl, rfl, .cons (.sta _) (.cons g.2.2 (.cons (.bool _) .nil))⟩
 have hW : ∀ b, W₂ b → s₃.heap.objs.size ≤ b := fun b q => hF₂ b (R₄.wf b q)
 have U₄ := eH U₃.fr U₃.st (U₃.all R₃) k₂ hW fr.1
 refine au (nh hd hA₂ R₄ fun s₅ h' e tok kw hns hx => ?_) fun z z f => False.elim f
 obtain ⟨m, hns⟩ := hns
 have U₅ := U₄.keep kw
 refine wpAny_leaves_madeW U₅.fr U₅.fe U₅.st (.cons (by rw [R₄.fn]; decide) U₅.fe hns (U₅.nb _ R₄.ml) U₅.ff) hx.of fun h₆ t fl tup z up => kk _ _ ?_
 have kw' : aq (fun b => s₃.heap.objs.size ≤ b) s₃ s₅ := k₂.trans (kw.sub hW)
 obtain ⟨h₅, t₅, rfl, kk₅⟩ := kw'
 have k03 := Kp.toW (W := wc) g.2.1
 refine Fly.then (s₁ := s₃) ⟨e, t, tok, h₆, t₅, rfl, rfl, fl, tup, fun b o z eb hn => ?_⟩ k03
 obtain ⟨sl, e2⟩ := up b o (hx.keeps b o (kk₅ b o (fun q => A7' _ (A2' (A5' eb) q)) eb)) hn
 exact ⟨sl, e2⟩
end
end
section
section
variable {w : World} {n : Nat} {M F W : Ap} {env : Env} {ea : ao} {s s' : Shared} {A : Around} {E : Ee} {msg : Str}
noncomputable def qX (w : World) (fo : Obj) (p : Str) (ps : List Str) (vs xs : List V) : Prop := ∀ {M : Ap} {s : Shared} {A : Around} {E : Ee} (a : Addr) (us : List Value), StD w s.heap → Dom M s → nat_lit 271 ≤ s.heap.objs.size → VRs (DD w).prog (DD w).w M s.heap us vs →
 wpAny (model (DD w).prog (DD w).w) A (bindArgs (ay fo) ⟨.ref a :: us, []⟩) (fun b s' => s.heap.objs.size ≤ s'.heap.objs.size ∧ Keeps s s' ∧ ∃ vals, b = (p :: ps).zip vals ∧ (p :: ps).length = vals.length ∧ VRs (DD w).prog (DD w).w M s'.heap vals (.sta (.ref a) :: xs)) E s
noncomputable def yE (w : World) (nm : List (Str × NameKind)) (p : Str) (ps : List Str) (xs mv : List V) (eB : ao) : Prop := lk nm p = some .local ∧ ∀ a, ∃ e, c9 (DD w) (baseE nm) ((p :: ps).zip (.sta (.ref a) :: xs)) e ∧ lk e.loc p = some (.sta (.ref a)) ∧ e.names = nm ∧ e.mo = [] ∧ cF { e with mw := false } p (.hdr mv) = eB
theorem iE {y m : Str} {yp apos pos : Pos} {args : List Expr} {vs xs mv : List V} {f : Addr} {fo : Obj} {ps : List Str} {eB : ao} (FA : dW (DD w) f (ay fo) (av (ay fo))) (hy : sq y "__debug__" = false) (hmo : lk ea.mo y = some (.hdr mv)) (hl : (apos.endLine == pos.line) = true) (hf : args.length < 20) (ev : Evs (DD w) (n + 1) ea args vs)
  (hn : m ≠ "_headers") (hfi : findIn (KF w.params) (.ref (nat_lit 175)) m = some (some (.ref f))) (ht : typeIn (KF w.params) (.ref f) = some (.type "function")) (st : yE w (ay fo).scope.names "self" ps xs mv eB) (hbd : qX w fo "self" ps vs xs) (hb : RaB (DD w) n eB (av (ay fo)) msg) :
  RaE (DD w) (n + 1) ea (.Call (.Attribute (.Name y yp) m apos) args [] pos) msg := fun {M F W env s A E base l} hA R U kk => by
 refine pA rfl hl hf ev (wpAny_Name (au (bJ R hmo) fun ov s₁ h₁ => ?_) (by simpa using aJ hy))
 obtain ⟨rfl, a, lx, rfl, _, hF, _, mobj, _⟩ := h₁
 refine (HX w).method R.st mobj hn hfi ht (au (ev.ev pos hA R) fun us s₃ g => ?_)
 obtain ⟨z3, k3, r3⟩ := g
 have R₃ := R.keeps k3 z3
 have U₃ := U.keep (Kp.toW k3)
 obtain ⟨o, ho, hdat⟩ := FA.at _ R₃.st
 refine ⟨.inr ⟨f, o, ay fo, rfl, ho, hdat⟩, ?_⟩
 obtain ⟨hp, st⟩ := st
 obtain ⟨e, ha, q1, q2, q3, q4⟩ := st a
 exact tm (ag := ⟨.ref a :: us, []⟩) (ps := "self" :: ps) FA hA R₃.st R₃.dom R₃.mb R₃.bs (R₃.fm _ hF) (mobj.keep (X := fun z => False) (fun b q => q.elim) (fun q => q) (Kp.toW k3)) hp q1 q2 q3 (fun E' => hbd a us R₃.st R₃.dom R₃.bs r3) ha U₃.fr U₃.st (U₃.all R₃) (q4 ▸ hb) fun e s' f => kk e s' (f.then (Kp.toW k3))
theorem uC {y : Str} {yp p apos pos tp : Pos} {tk : Nat} {c1 c2 : Expr} {xs : List V} {x : V} (hy : sq y "__debug__" = false) (hmo : lk ea.mo y = some (.hdr xs)) (hl : (apos.endLine == pos.line) = true) (h1 : Ev (DD w) n ea c1 x) (h2 : RaE (DD w) n ea c2 msg) (hs : ∀ env t, starEach (c2 :: t) env = (false, eval c2 env) :: starEach t env) :
  RaE (DD w) n ea (.Call (.Attribute (.Attribute (.Name y yp) "_headers" p) "append" apos) [.Tuple [c1, c2] tk tp] [] pos) msg := fun {M F W env s A E base l} hA R U kk => by
 refine wD rfl hl (show 1 < 20 by decide) rfl (Attribute_name (wpAny_Name (au (bJ R hmo) fun ov s₁ h₁ => ?_) (by simpa using aJ hy)))
 obtain ⟨rfl, a, lx, rfl, ne, hF, hw, mobj, hh⟩ := h₁
 refine cH R.st mobj ?_
 have k0 : Keeps s₁ { s₁ with toks := s₁.toks + 1 } := Kp.toks' s₁ _
 cases mobj with | hdr ho hd hm hx hl' r ha hdw =>
 refine getMethod_builtin (T := "list") (s := { s₁ with toks := s₁.toks + 1 }) ⟨_, hl', rfl⟩ PySem.F.plainAttrs_list PySem.F.slot_list_append PySem.F.type_list_append (fun b e => by cases e; exact ⟨_, hl', rfl⟩) ?_
 show wpAny _ A (spliced [(false, _)]) _ E _
 refine spliced_cons (Tuple_ (k := tk) ?_)
 rw [h1.pl.star, hs]
 show wpAny _ A (spliced [(false, _), (false, _)]) _ E _
 refine spliced_cons (au (h1.ev hA (R.keeps k0 (A6' _))) fun u s₃ g => spliced_cons (au (h2 hA ((R.keeps k0 (A6' _)).keeps g.2.1 g.1) ((U.keep (Kp.toW k0)).keep (Kp.toW g.2.1)) fun e s' f => kk e s' ((f.then (Kp.toW g.2.1)).then (Kp.toW k0))) fun z z f => False.elim f))
end
end
section
section
variable {w : World} {n : Nat}
theorem xO {x : Str} : qX w gp "self" ["name", "default"] [.str x] [.str x, .none] := fun {M s A E} a us st hd hb r => by
 obtain ⟨u, rfl, r1⟩ := r.one
 refine ik (a := nat_lit 115) (o := uy) (pt := none) ⋯ (st _ _ (by decide) ⋯) ?_
 have e : gg (bindArgs (ay gp) ⟨[.ref a, u], []⟩) uy = pure ([("self", .ref a), ("name", u), ("default", .none)] : Lw) := ⋯
 show wpAny _ _ (gg (bindArgs (ay gp) ⟨[.ref a, u], []⟩) uy) _ _ _
 rw [e]
 exact Wq ⟨A6' _, Kp.refl' s, [.ref a, u, .none], rfl, rfl, .cons (.sta _) (.cons r1 (.cons .none .nil))⟩
theorem sf {x y : V} : qX w eF "self" ["name", "value"] [x, y] [x, y] := fun {M s A E} a us st hd hb r => by
 rw [qk a us r.length]
 exact Wq ⟨A6' _, Kp.refl' s, .ref a :: us, rfl, by have := r.length; simp [this], .cons (.sta _) r⟩
theorem xZ {x y : V} : qX w i9 "self" ["_name", "_value", "_params"] [x, y] [x, y, .dict []] := fun {M s A E} a us st hd hb r => by
 obtain ⟨u, v, rfl, r1, r2⟩ := r.two
 refine lr (o := { cls := .type "dict", data := .dict #[] }) ⋯ ?_
 have e : mr (bindArgs (ay i9) ⟨[.ref a, u, v], []⟩) s.heap.objs.size = pure ([("self", .ref a), ("_name", u), ("_value", v), ("_params", .ref s.heap.objs.size)] : Lw) := ⋯
 rw [e]
 have kk : ∀ b o, s.heap.get? b = some o → (s.heap.push { cls := .type "dict", data := .dict #[] }).get? b = some o := fun b o e => A3' _ e
 refine Wq ⟨aC .., Kp.push' _ _ _, [.ref a, u, v, .ref s.heap.objs.size], rfl, rfl, .cons (.sta _) (.cons (r1.keeps kk) (.cons (r2.keeps kk) (.cons (.dict hd.new (Heap.DictOf.new s.heap) ?_ .nil) .nil)))⟩
 have h9 : @LE.le Nat _ 271 s.heap.objs.size := hb
 exact beq_eq_false_iff_ne.mpr fun e => by
  have : @Eq Nat s.heap.objs.size 1 := e
  lia
noncomputable def roE (fo : Obj) (mv : List V) (loc : Lv) : ao := { di (ay fo).scope.names "self" (.hdr mv) false with loc := loc }
theorem yr {mv : List V} {x : Str} (hx : Low x) (hd : eL true (Txt.lower x)) : RaB (DD w) (n + 1) (roE gp mv [("name", .str x), ("default", .none)]) (av (ay gp)) gQ := by
 refine dw (iM (jY (xs := mv) ?_ ?_ ?_ (eE (ah ?_ ?_ ?_) ?_ hx) hd) fun z z z z => rfl)
 all_goals rfl'
theorem uA {mv : List V} {x : Str} {v : V} (hx : Low x) (hd : eL true (Txt.lower x)) : RaB (DD w) (n + 1 + 1) (roE eF mv [("name", .str x), ("value", v)]) (av (ay eF)) gQ := by
 refine dw (iM (iE (fo := gp) (f := nat_lit 122) (m := "get") (mv := mv) (vs := [.str x]) (xs := [.str x, .none]) (ps := ["name", "default"]) xD ?_ ?_ ?_ ?_ (ai (ah ?_ ?_ ?_) al) (by decide +kernel) ?_ ?_ ⟨?_, fun a => ⟨{ baseE (ay gp).scope.names with loc := [("self", .sta (.ref a)), ("name", .str x), ("default", .none)] }, aV ?_, ?_, rfl, rfl, ?_⟩⟩ xO (yr (mv := mv) hx hd)) fun z z z z => rfl)
 all_goals first | kernel_rfl! | decide
theorem u7 {rows : Ls} {x y : Str} (hx : Low x) (hc : bu true (Txt.lower x)) (hr : ∀ p ∈ rows, Low p.1) (h : hget rows (Txt.lower x) = none) (hx2 : bu true x) (hy : eL false y) : RaB (DD w) (n + 1 + 1) (roE eF (ak rows) [("name", .str x), ("value", .str y)]) (av (ay eF)) gQ := by
 refine lD (bA (bx (mv := .hdr (ak rows)) ?_ ?_ ?_ ?_ (ai (ah (v := .str x) ?_ ?_ ?_) al) (lJ hx hc hr h)) (aO (ea' := roE eF (ak rows) [("name", .str x), ("value", .str y), ("result", .none)]) ?_))
  (dw (r8 (v := .bool true) (c := true) (bo (a := .none) (ah ?_ ?_ ?_) fM jH) aR
   (dw (rN (uC (xs := ak rows) (x := .str x) ?_ ?_ ?_ (fB (xs := ak rows) ?_ ?_ ?_ (ah ?_ ?_ ?_) hx2) (jY (xs := ak rows) ?_ ?_ ?_ (ah ?_ ?_ ?_) hy) fun z z => rfl) fun z z => rfl))))
 all_goals first | kernel_rfl! | decide
theorem yb {mv : List V} {x y : Str} (hy : eL false y) : RaB (DD w) (n + 1 + 1) (roE i9 mv [("_name", .str x), ("_value", .str y), ("_params", .dict [])]) (av (ay i9)) gQ := by
 refine lD (bA (eW (xs := []) ?_ al) (aO (ea' := roE i9 mv [("_name", .str x), ("_value", .str y), ("_params", .dict []), ("parts", .list [])]) ?_))
  (dw (r8 (v := .bool true) (c := true) (bo (a := .str y) (ah ?_ ?_ ?_) fM gM) aR (dw (iM (jY (xs := mv) ?_ ?_ ?_ (ah ?_ ?_ ?_) hy) fun z z z z => rfl))))
 all_goals first | kernel_rfl! | decide
noncomputable def pK (w : World) (n : Nat) (m : Str) (mv : List V) (x y : V) : Prop := ∀ {ea : ao} {t : Str} {yp apos pos : Pos} {args : List Expr}, sq t "__debug__" = false → lk ea.mo t = some (.hdr mv) → (apos.endLine == pos.line) = true → args.length < 20 → Evs (DD w) (n + 1 + 1 + 1) ea args [x, y] →
 RaE (DD w) (n + 1 + 1 + 1) ea (.Call (.Attribute (.Name t yp) m apos) args [] pos) gQ
theorem td {mv : List V} {x : Str} {v : V} (hx : Low x) (hd : eL true (Txt.lower x)) : pK w n "setdefault" mv (.str x) v := fun h1 h2 h3 h4 ev => by
 refine iE (fo := eF) (f := nat_lit 165) (mv := mv) (xs := [.str x, v]) (ps := ["name", "value"]) oq h1 h2 h3 h4 ev (by decide +kernel) ?_ ?_ ⟨?_, fun a => ⟨{ baseE (ay eF).scope.names with loc := [("self", .sta (.ref a)), ("name", .str x), ("value", v)] }, aV ?_, ?_, rfl, rfl, ?_⟩⟩ sf (uA (mv := mv) (v := v) hx hd)
 all_goals kernel_rfl!
theorem uw {rows : Ls} {x y : Str} (hx : Low x) (hc : bu true (Txt.lower x)) (hr : ∀ p ∈ rows, Low p.1) (h : hget rows (Txt.lower x) = none) (hx2 : bu true x) (hy : eL false y) : pK w n "setdefault" (ak rows) (.str x) (.str y) := fun h1 h2 h3 h4 ev => by
 refine iE (fo := eF) (f := nat_lit 165) (mv := ak rows) (xs := [.str x, .str y]) (ps := ["name", "value"]) oq h1 h2 h3 h4 ev (by decide +kernel) ?_ ?_ ⟨?_, fun a => ⟨{ baseE (ay eF).scope.names with loc := [("self", .sta (.ref a)), ("name", .str x), ("value", .str y)] }, aV ?_, ?_, rfl, rfl, ?_⟩⟩ sf (u7 hx hc hr h hx2 hy)
 all_goals kernel_rfl!
theorem xN {mv : List V} {x y : Str} (hy : eL false y) : pK w n "add_header" mv (.str x) (.str y) := fun h1 h2 h3 h4 ev => by
 refine iE (fo := i9) (f := nat_lit 172) (mv := mv) (xs := [.str x, .str y, .dict []]) (ps := ["_name", "_value", "_params"]) uB h1 h2 h3 h4 ev (by decide +kernel) ?_ ?_ ⟨?_, fun a => ⟨{ baseE (ay i9).scope.names with loc := [("self", .sta (.ref a)), ("_name", .str x), ("_value", .str y), ("_params", .dict [])] }, aV ?_, ?_, rfl, rfl, ?_⟩⟩ xZ (yb (mv := mv) (x := x) hy)
 all_goals kernel_rfl!
end
end
section
noncomputable def sF (h : Heap) (L : Addr) : Heap := h.update L fun z => ⟨.none, none, .freed, #[]⟩
theorem oZ {h : Heap} {L : Addr} : (sF h L).get? L = none := by
 cases e : (sF h L).get? L with
 | none => rfl
 | some o =>
  obtain ⟨h1, h2⟩ := Heap.get?_some_iff.mp e
  unfold sF Heap.update at h1
  simp only [Array.getElem?_modify, if_true] at h1
  cases q : h.objs[L]? with
  | none => rw [q] at h1; cases h1
  | some o' => rw [q] at h1; cases h1; cases h2
theorem kT {h : Heap} {L b : Addr} (ne : b ≠ L) : (sF h L).get? b = h.get? b := Heap.get?_update_ne _ _ _ _ ne
noncomputable def EvF (D : Std) (n : Nat) (ea : ao) (e : Expr) (v : V) : Prop := ∀ {M F W : Ap} {env : Env} {s : Shared} {A : Around} {E : Ee}, bb n A → A.frames = some [env] → env.frame = some env.locals → Rel D M F W env ea s →
 wpAny (model D.prog D.w) A (eval e env) (fun u s' => s.heap.objs.size ≤ s'.heap.objs.size ∧ aq W s s' ∧ Rel D M F W env ea s' ∧ VR D.prog D.w M s'.heap u v) E s
noncomputable def nm265 : List (Str × NameKind) := (ay pB).scope.names
noncomputable def rfT : Stmt := aa (av (ay pB)) 0
noncomputable def rfI : Stmt := aa (an rfT) 0
noncomputable def rfH : ExceptHandler := (sp rfT).hs.getD 0 ⟨none, none, [], ⟨0, 0, 0, 0⟩⟩
noncomputable def rfR : Stmt := match rfH with
 | .ExceptHandler _ _ b _ => aa b 0
noncomputable def rfN : Expr := match rfH with
 | .ExceptHandler (some t) _ _ _ => t
 | _ => af rfT
noncomputable def wI (x : Stmt) : List Stmt := (sp x).o
noncomputable def rfE (rows : List V) (b : Bool) (x y : V) : ao := { di nm265 "table" (.hdr rows) false with loc := [("offered", .bool b), ("name", x), ("text", y)] }
noncomputable def rfM (b : Bool) : Str := match b with
 | true => "setdefault"
 | false => "add_header"
noncomputable def rfC (b : Bool) : Stmt := match b with
 | true => aa (an rfI) 0
 | false => aa (wI rfI) 0
section
variable {w : World} {n : Nat} {M F W : Ap} {env : Env} {ea : ao} {s s' : Shared} {A : Around} {E : Ee} {base : Heap} {l : List Env}
theorem AY : av (ay pB) = [.Try [.If (.Name "offered" (af rfI).pos) [.Expr (af (rfC true)) (rfC true).pos] [.Expr (af (rfC false)) (rfC false).pos] rfI.pos] [.ExceptHandler (some (.Name "ValueError" rfN.pos)) (some "error") [.Return (some (.Call (.Name "str" (dZ (af rfR)).pos) [.Name "error" (aj 0 (af rfR)).pos] [] (af rfR).pos)) rfR.pos] (match rfH with | .ExceptHandler _ _ _ p => p)] [] [] rfT.pos, aa (av (ay pB)) 1] := ⋯
theorem xA {rows : List V} {b : Bool} {x y : V} (hr : pK w n (rfM b) rows x y) (hA : bb (n + 1 + 1 + 1) A) (R : Rel (DD w) M F W env (rfE rows b x y) s) (U : fc base A env l W s)
  (k : ∀ e s', Fly base (env :: l) wc gQ s e s' → E e s') : wpAny (model (DD w).prog (DD w).w) A (execs [.If (.Name "offered" (af rfI).pos) [.Expr (af (rfC true)) (rfC true).pos] [.Expr (af (rfC false)) (rfC false).pos] rfI.pos] env) (fun z z => False) E s := by
 have t : Ev (DD w) (n + 1 + 1 + 1) (rfE rows b x y) (.Name "offered" (af rfI).pos) (.bool b) := ah ⋯ ⋯ ⋯
 refine B2' (au (wpAny_If (au (t.tr hA R aR) fun c s₁ g => ?_)) fun z z f => False.elim f)
 obtain ⟨rfl, z1, k1⟩ := g
 have R₁ := R.keeps k1 z1
 have ev : Evs (DD w) (n + 1 + 1 + 1) (rfE rows c x y) [aj 0 (af (rfC c)), aj 1 (af (rfC c))] [x, y] := by
  cases c <;> exact ai (ah ⋯ ⋯ ⋯) (ai (ah ⋯ ⋯ ⋯) al)
 have h1 : ∀ m : Str, pK w n m rows x y → af (rfC c) = .Call (.Attribute (.Name "table" (bS (af (rfC c))).pos) m (dZ (af (rfC c))).pos) [aj 0 (af (rfC c)), aj 1 (af (rfC c))] [] (af (rfC c)).pos → ((dZ (af (rfC c))).pos.endLine == (af (rfC c)).pos.line) = true →
   wpAny (model (DD w).prog (DD w).w) A (execs [.Expr (af (rfC c)) (rfC c).pos] env) (fun z z => False) E s₁ := fun m hm e hl => by
  refine B2' (au (wpAny_Expr_any (au ?_ fun z z f => False.elim f) (by unfold interactive; rw [R.fn]; rfl) (by rw [e]; rfl)) fun z z f => False.elim f)
  rw [e]
  refine hm (ea := rfE rows c x y) ⋯ ⋯ hl (by show 2 < 20; decide) ev hA R₁ (U.keep (Kp.toW k1)) fun e s' f => k e s' (f.then (Kp.toW k1))
 cases c with
 | true => exact h1 "setdefault" hr ⋯ ⋯
 | false => exact h1 "add_header" hr ⋯ ⋯
theorem lR {x : Str} {v : Value} (hk : env.scope.kind = .function) (hx : env.kindOf x = some .globalImplicit) (hg : env.globals = mainGlobals) (hb : env.builtins = builtinsNs) (st : StD w s.heap) (e : (DD w).gl x = some v) {Q : Ee} (k : Q v s) : wpAny (model (DD w).prog (DD w).w) A (loadName env x) Q E s := by
 unfold loadName
 simp only [Env.blockKind, hk, hx, ScopeKind.isAnnotationScope, Bool.false_and, Bool.false_eq_true, if_false]
 exact (DD w).glob st hg hb e k
theorem AQ {prog : Program} {w : World} {e : Addr} {X T : String} {t : Expr} {n : Str} {b₀ : Stmt} {suite : List Stmt} {pos : Pos} {rest : List ExceptHandler} {Q : Flow → Shared → Prop}
  (hexc : isSubtype (.type T) (.type "BaseException") = pure true) (hnt : isSubtype (.type ((Manifest.find? T).elim "type" fun x => x.metatype)) (.type "tuple") = pure false)
  (hsub : isSubtype (.type X) (.type T) = pure true)
  (h : wpAny (model prog w) (A.mark (some (.ref e))) (eval t env) (fun c s₁ => c = .type T ∧ s₁.TypeIs (.ref e) X ∧
   wpAny (model prog w) (A.mark (some (.ref e))) (setFlight (.ref e) none) (fun z s₂ =>
     wpAny (model prog w) (A.mark (some (.ref e))) (storeName env n (.ref e)) (fun z s₃ =>
      wpAny (model prog w) (A.mark (some (.ref e))) (execs (b₀ :: suite) env)
       (fun f s₄ => wpAny (model prog w) A (do bindName env n .none; unbindBehindTheSuite env n pos) (fun z s₅ => Q f s₅) E s₄) (fun z z => False) s₃) (fun z z => False) s₂) (fun z z => False) s₁) (fun z z => False) s) :
  wpAny (model prog w) A (handleBy (.ref e) env (.ExceptHandler (some t) (some n) (b₀ :: suite) pos :: rest)) Q E s :=
 wpAny_handleBy_builtin_as hexc hnt hsub (wpAny_mono h (fun z z g => ⟨g.1, g.2.1, wpAny_mono g.2.2 (fun z z g => wpAny_mono g (fun z z g => wpAny_mono g (fun z z g => g) fun z z f => f.elim) fun z z f => f.elim) fun z z f => f.elim⟩) fun z z f => f.elim)
theorem vM {rows : List V} {b : Bool} {x y : V} (hr : pK w n (rfM b) rows x y) (hA : bb (n + 1 + 1 + 1) A) (R : Rel (DD w) M F W env (rfE rows b x y) s) (U : fc base A env l W s) (hst : ∀ h, base.StaysIn h → StD w h) {Q : Flow → Shared → Prop}
  (k : ∀ h' tk tok, base.StaysIn h' → (∀ b o, b ≠ env.locals → s.heap.get? b = some o → (∀ vs, o.data ≠ .fields vs) → ∃ sl, h'.get? b = some { o with slots := sl }) → Q (.ret (.str gQ tok)) { s with heap := h', toks := tk }) : wpAny (model (DD w).prog (DD w).w) A (execs (av (ay pB)) env) Q E s := by
 rw [AY]
 have kin : ∀ {z : Str} {q : NameKind}, lk nm265 z = some q → env.kindOf z = some q := fun e => bt R e
 refine B2' (wpAny_Try_except (wpAny_mono (xA hr hA R U fun e s₁ fl => ?_) (fun u u f => False.elim f) fun u u x => x))
 obtain ⟨x, t, tok, h₁, tk, rfl, rfl, f1, f2, f3⟩ := fl
 refine wpAny_looks_onW U.fr U.fe f1 fun h₂ held up2 => ?_
 refine wpAny_landsW held fun h₃ fl3 up3 => ?_
 show wpAny _ A _ _ _ { s with heap := h₃, toks := tk }
 have up : s.heap.UpToSlots h₃ := Heap.UpToSlots.trans (Heap.UpToSlots.trans (fun b o e hn => f3 b o (fun q => q) e hn) up2) up3
 have tup := (f2.of_slots up2).of_slots up3
 obtain ⟨oe, vs, he, hcls, hd, h0⟩ := fl3.first
 refine AQ (X := "ValueError") (T := "ValueError") (isSubtype_of_subB (by decide +kernel)) (isSubtype_of_subB (by decide +kernel)) (isSubtype_of_subB (by decide +kernel)) ?_
 refine wpAny_Name (lR (x := "ValueError") (v := .type "ValueError") R.fn (kin ⋯) R.glb R.blt (hst _ fl3.1) ⋯ ⟨rfl, ⟨oe, he, hcls⟩, ?_⟩) (by decide)
 obtain ⟨g1, g2, g3, g4⟩ := fl3
 refine wpAny_setFlight_noneW g1 g3 g4.at fun h₄ q1 q2 q3 q4 => ?_
 show wpAny _ _ _ _ _ { s with heap := h₄, toks := tk }
 have up4 : s.heap.UpToSlots h₄ := Heap.UpToSlots.trans up fun b o e hn => ⟨o.slots, q4 b o e hn⟩
 obtain ⟨oe, vs, T, oT, ts, he, hcls, hd, _⟩ := q3
 obtain ⟨m, hm, _⟩ := R.loc
 have nw : base.get? env.locals = none := U.nb _ R.ml
 have hcl : (env.scope.kind == .class || (env.scope.kind == .module && env.locals != env.globals)) = false := by rw [R.fn]; rfl
 refine wpAny_storeName_local (kin ⋯) (up4.ns hm) (fun h₅ hm5 hs5 => ?_) hcl
 show wpAny _ _ _ _ _ { s with heap := h₅, toks := tk + 1 }
 have st5 : base.StaysIn h₅ := fun b o e => (hs5.2 b fun q => by rw [q, nw] at e; cases e).trans (q1 b o e)
 have ne : ∀ {b o}, h₄.get? b = some o → (∀ es ep, o.data ≠ .dict es ep) → h₅.get? b = some o := fun {b o} e hn => (hs5.2 b fun q => by
  obtain ⟨o', es, ep, e', hd', _⟩ := up4.ns hm
  rw [q, e'] at e; cases e
  exact hn _ _ hd').trans e
 have he5 := ne he fun es ep q => by rw [hd] at q; cases q
 have tup5 : h₅.TupAt t [.str gQ tok] := by
  obtain ⟨o, n, ho, hc, htd⟩ := tup.of_slots fun b o e hn => ⟨o.slots, q4 b o e hn⟩
  have h9 := ne ho fun es ep q => by rw [htd] at q; cases q
  exact ⟨o, n, h9, hc, htd⟩
 refine B2' (wpAny_Return_some ?_)
 rw [arm_eval_Call_Name']
 refine Wb (wpAny_Name (lR (x := "str") (v := .type "str") R.fn (kin ⋯) R.glb R.blt (hst _ st5) ⋯ ?_) (by decide))
 refine bT rfl ?_
 show wpAny _ _ (spliced [(false, _)]) _ _ _
 refine spliced_cons (wpAny_Name (wpAny_loadName_local R.fn (kin ⋯) hm5 (if_pos rfl) ?_) (by decide))
 refine spliced_nil ⟨.inl (fun a e => nomatch e), P.str_of_exc_one PySem.F.excStr_ValueError (by have := hA.units; show A.units + 2 < cLine; lia) ⟨oe, vs, he5, hcls.1, hd, hcls.2⟩ tup5 ?_⟩
 refine wpAny_nameGoes (kin ⋯) hm5 hcl fun h₆ m' hm6 hs6 => ?_
 refine k h₆ _ tok (fun b o e => (hs6.2 b fun q => by rw [q, nw] at e; cases e).trans (st5 b o e)) fun b o hb e hn => ?_
 obtain ⟨sl, e1⟩ := up4 b o e hn
 exact ⟨sl, (hs6.2 b hb).trans ((hs5.2 b hb).trans e1)⟩
end
end
section
section
variable {D : Std} {n : Nat} {M F W : Ap} {env : Env} {ea e1 : ao} {s s' : Shared} {A : Around} {E : Ee}
theorem Rel.upTo (R : Rel D M F W env ea s) {L : Addr} {h' : Heap} {t : Nat} (hLM : M L) (hs : ∀ b o, b ≠ L → s.heap.get? b = some o → h'.get? b = some o) (up : s.heap.UpToSlots h') (hl : ∀ a l mv, l ≠ env.locals → cj D M s.heap a l mv → l ≠ L)
  (hz : s.heap.objs.size ≤ h'.objs.size) (ht : ea.tw = true → D.TabSt env M h') : Rel D M F W env ea { s with heap := h', toks := t } := by
 have kM : ∀ b o, ¬ M b → s.heap.get? b = some o → h'.get? b = some o := fun b o q => hs b o fun e => q (e ▸ hLM)
 have kc : ∀ {c u}, s.heap.IsCell c u → h'.IsCell c u := fun ⟨o, e, d⟩ => let ⟨_, e'⟩ := up _ o e (fun vs q => by rw [d] at q; cases q); ⟨_, e', d⟩
 obtain ⟨m, hm, hl', hu⟩ := R.loc
 refine { R with cex := fun x e => ?_, loc := ⟨m, up.ns hm, fun x v e => ?_, fun x mv e => ?_⟩, cel := fun x v e => ?_, st := ?_, dom := R.dom.size hz, bs := A1' R.bs hz, tw := fun hh => ⟨(R.tw hh).1, ht hh⟩ }
 ·obtain ⟨a, u, e1, c, e2⟩ := R.cex x e
  exact ⟨a, u, e1, kc c, e2⟩
 ·obtain ⟨vv, e1, r⟩ := hl' x v e
  exact ⟨vv, e1, r.mono kM fun z q => .inl q⟩
 ·obtain ⟨a, l, ne, hF, hw, r, q⟩ := hu x mv e
  exact ⟨a, l, ne, hF, hw, r.grow (s' := { s with heap := h' }) kM (fun z q => .inl q) fun o => hs _ o (hl a l mv ne r), q.imp id fun ⟨q1, c, q2, q3⟩ => ⟨q1, c, q2, kc q3⟩⟩
 ·obtain ⟨a, vv, e1, c, r⟩ := R.cel x v e
  exact ⟨a, vv, e1, kc c, r.mono kM fun z q => .inl q⟩
 ·refine D.stb _ _ (fun b o hb ht e => hs b o (fun q => ?_) e) R.st
  rcases R.mb _ hLM with h | h
  ·exact A7' _ (A2' (q ▸ hb) h)
  ·exact ht (q.trans h)
theorem Rel.slotL (R : Rel D M F W env ea s) {h' : Heap} {t : Nat} (hs : ∀ b o, b ≠ env.locals → s.heap.get? b = some o → h'.get? b = some o) (hL : ∀ o, s.heap.get? env.locals = some o → (∀ vs, o.data ≠ .fields vs) → ∃ sl, h'.get? env.locals = some { o with slots := sl })
  (hz : s.heap.objs.size ≤ h'.objs.size) : Rel D M F W env ea { s with heap := h', toks := t } := by
 have hLM : M env.locals := R.fm _ (R.wf _ R.ml)
 refine R.upTo (L := env.locals) hLM hs (fun b o e hn => ?_) (fun a l mv ne z => ne) hz fun hh => D.tabK (fun o e => hs _ o (fun q => ?_) e) (fun b o q => hs b o fun e => q (e ▸ hLM)) (fun z q => .inl q) (R.tw hh).2
 ·by_cases q : b = env.locals
  ·subst q; exact hL o e hn
  ·exact ⟨o.slots, hs b o q e⟩
 ·obtain ⟨o', fs, e', d'⟩ := D.tabF (R.tw hh).2
  obtain ⟨m, hm, _⟩ := R.loc
  obtain ⟨o2, es, ep, e2, d2, _⟩ := hm
  rw [← q, e'] at e2; cases e2
  rw [d'] at d2; cases d2
end
section
variable {w : World} {n : Nat} {M F W : Ap} {env : Env} {ea e1 : ao} {s s' : Shared} {A : Around} {E : Ee}
theorem fO {c : Str} {fp cp pos : Pos} {a1 a2 a3 : Expr} {rows : List V} {b : Bool} {x y : V} (h1 : lk ea.names "_law_refused" = some .globalImplicit) (hc : sq c "__debug__" = false) (hmo : lk ea.mo c = some (.hdr rows)) (ev : Evs (DD w) (n + 1 + 1 + 1 + 1) ea [a1, a2, a3] [.bool b, x, y])
  (hr : pK w n (rfM b) rows x y) : EvF (DD w) (n + 1 + 1 + 1 + 1) ea (.Call (.Name "_law_refused" fp) [.Name c cp, a1, a2, a3] [] pos) (.str gQ) := fun {M F W env s A E} hA hfr hfe R => by
 rw [arm_eval_Call_Name']
 refine Wb (wpAny_Name (lR (x := "_law_refused") (v := .ref (nat_lit 265)) R.fn (bt R h1) R.glb R.blt R.st ⋯ ?_) (by decide))
 refine bT (show (false || (backTo pos (starEach [a1, a2, a3] env)).any (·.1)) = false by rw [ev.no]; rfl) ?_
 show wpAny _ A (spliced ((false, eval (.Name c cp) env) :: backTo pos (starEach [a1, a2, a3] env))) _ E s
 refine spliced_cons (wpAny_Name (au (bJ R hmo) fun ov s₁ h₁ => ?_) (by simpa using aJ hc))
 obtain ⟨rfl, a, lx, rfl, _, hF, _, mobj, _⟩ := h₁
 refine au (ev.ev pos hA R) fun us s₃ g => ?_
 obtain ⟨z3, k3, r3⟩ := g
 have R₃ := R.keeps k3 z3
 refine ⟨.inr ⟨nat_lit 265, pB, ay pB, rfl, R₃.st _ _ (by decide) ⋯, by rfl'⟩, ?_⟩
 obtain ⟨v, u, t, rfl, q1, q2, q3⟩ := r3.three
 have hLM : M env.locals := R.fm _ (R.wf _ R.ml)
 have st : (sF s₃.heap env.locals).StaysIn s₃.heap := fun b o e => by
  by_cases q : b = env.locals
  ·rw [q, oZ] at e; cases e
  ·rw [kT q] at e; exact e
 have ff : s₃.heap.FunFrames (sF s₃.heap env.locals) [env] := by
  obtain ⟨m, hm, _⟩ := R₃.loc
  exact .cons (by rw [R.fn]; decide) hfe hm oZ trivial
 have main : wpAny (model (DD w).prog (DD w).w) A (call (.ref (nat_lit 265)) [.ref a, v, u, t]) (fun u s' => ∃ h' tk tok, u = .str gQ tok ∧ s' = { s₃ with heap := h', toks := tk } ∧ (∀ b o, b ≠ env.locals → s₃.heap.get? b = some o → h'.get? b = some o) ∧ ∀ o, s₃.heap.get? env.locals = some o → (∀ vs, o.data ≠ .fields vs) → ∃ sl, h'.get? env.locals = some { o with slots := sl }) E s₃ := by
  refine wpAny_call (li (ag := ⟨[.ref a, v, u, t], []⟩) y9 hA R₃.st R₃.dom R₃.mb R₃.bs (R₃.fm _ hF) (mobj.keep (X := fun z => False) (fun b q => q.elim) (fun q => q) (Kp.toW k3)) (p := "table") (ea := { baseE nm265 with loc := [("table", .sta (.ref a)), ("offered", .bool b), ("name", x), ("text", y)] }) ⋯ ⋯ rfl rfl (ps := ["table", "offered", "name", "text"]) (xs := [.sta (.ref a), .bool b, x, y]) (fun E' => ?_) (aV ⋯) fun {M₂ F₂ W₂ env₂ s₂ A₂} hA₂ R₂ k₂ hz₂ hW fr => ?_)
  ·have e : bindArgs (ay pB) ⟨[.ref a, v, u, t], []⟩ = pure ((["table", "offered", "name", "text"] : List Str).zip [.ref a, v, u, t]) := ⋯
   rw [e]
   exact Wq ⟨A6' _, Kp.refl' s₃, [.ref a, v, u, t], rfl, rfl, .cons (.sta _) (.cons q1 (.cons q2 (.cons q3 .nil)))⟩
  have R₂ : Rel (DD w) M₂ F₂ W₂ env₂ (rfE rows b x y) s₂ := R₂
  have U := eH hfr st ff k₂ hW fr
  have hst : ∀ h, (sF s₃.heap env.locals).StaysIn h → StD w h := fun h hh => (DD w).stb s₃.heap h (fun b o hb ht e => hh b o ((kT fun q => by
   rcases R₃.mb _ hLM with h | h
   ·exact A7' _ (A2' (q ▸ hb) h)
   ·exact ht (q.trans h)).trans e)) R₃.st
  refine au (vM (Q := fun f s' => ∃ h' tk tok, f = .ret (.str gQ tok) ∧ s' = { s₂ with heap := h', toks := tk } ∧ (sF s₃.heap env.locals).StaysIn h' ∧ ∀ b o, b ≠ env₂.locals → s₂.heap.get? b = some o → (∀ vs, o.data ≠ .fields vs) → ∃ sl, h'.get? b = some { o with slots := sl }) @hr hA₂ R₂ U hst fun h' tk tok hst up => ⟨h', tk, tok, rfl, rfl, hst, up⟩) fun f s' g => ?_
  obtain ⟨h', tk, tok, rfl, rfl, hst, up⟩ := g
  obtain ⟨h₂, t₂, rfl, kk⟩ := k₂
  refine ⟨h', tk, tok, rfl, rfl, fun b o q e => hst b o ((kT q).trans e), fun o e hn => ?_⟩
  have hlt := A5' e
  exact up _ o (fun q => A7' _ (A2' hlt (hW _ (q ▸ R₂.ml)))) (kk _ o (fun q => A7' _ (A2' hlt q)) e) hn
 refine au (bh main) fun u s₄ g => ?_
 obtain ⟨z4, h', tk, tok, rfl, rfl, k1, k2⟩ := g
 exact ⟨A1' z3 z4, (Kp.toW k3).trans ⟨h', tk, rfl, fun b o q e => k1 b o (fun h => q (h ▸ R.ml)) e⟩, R₃.slotL k1 k2 z4, .str _ _⟩
theorem nE {c1 c2 c3 : Expr} {x : Str} {p lp pos : Pos} {z1 z2 z3 : Str} (h1 : EvF (DD w) n ea c1 (.str z1)) (h2 : EvF (DD w) n ea c2 (.str z2)) (h3 : EvF (DD w) n ea c3 (.str z3)) (hs : ∀ env, starEach [c1, c2, c3] env = [(false, eval c1 env), (false, eval c2 env), (false, eval c3 env)])
  (a : dG (DD w) ea x (.list [.str z1, .str z2, .str z3]) e1) : StF (DD w) n ea (.Assign [.Name x p] (.List [c1, c2, c3] lp) pos) (.next e1) := fun {M F W env s A E} hA hfr hfe R => by
 refine wpAny_Assign_Name (List_ ?_) rfl
 rw [hs]
 show wpAny _ A (spliced [(false, _), (false, _), (false, _)]) _ E s
 refine spliced_cons (au (h1 hA hfr hfe R) fun u1 s₁ g => ?_)
 obtain ⟨a1, k1, R₁, r1⟩ := g
 obtain ⟨t1, rfl⟩ := r1.str_inv
 refine spliced_cons (au (h2 hA hfr hfe R₁) fun u2 s₂ g => ?_)
 obtain ⟨a2, k2, R₂, r2⟩ := g
 obtain ⟨t2, rfl⟩ := r2.str_inv
 refine spliced_cons (au (h3 hA hfr hfe R₂) fun u3 s₃ g => ?_)
 obtain ⟨a3, k3, R₃, r3⟩ := g
 obtain ⟨t3, rfl⟩ := r3.str_inv
 refine spliced_nil (B7' ?_ (by show 3 ≤ sizeLine; rw [aX]; decide))
 have g := dD (s := s₃) (prog := (DD w).prog) (w := (DD w).w) (R₃.dom) (vs := #[.str z1 t1, .str z2 t2, .str z3 t3]) (xs := [.str z1, .str z2, .str z3]) (.cons (.str _ _) (.cons (.str _ _) (.cons (.str _ _) .nil)))
 exact aA (a (R₃.keeps g.1 (aC ..)) g.2 fun s₄ k₄ R₄ z₄ => ⟨rfl, A1' (A1' a1 (A1' a2 a3)) (A1' (aC ..) z₄), (((k1.trans k2).trans k3).trans (Kp.toW g.1)).trans k₄, R₄⟩)
end
end
section
noncomputable def gR {α : Type} (f : Nat → Nat → Bool) (n : Nat) : KasT α → Option α
 | .ret a => some a
 | .ask i j k => if (Nat.blt i n && Nat.blt j n) = true then gR f n (k (f i j)) else none
set_option tactic.hygienic true in
theorem oz {α : Type} {cmp : Nat → Nat → (Bool → Shared → Prop) → Shared → Prop} {f : Nat → Nat → Bool} {n : Nat} {Q : α → Shared → Prop} {s : Shared} {a : α} (hc : ∀ i j C, i < n → j < n → C (f i j) s → cmp i j C s) (hq : Q a s) : ∀ (t : KasT α), gR f n t = some a → t.kasWp cmp Q s
 | .ret b, e => by cases e; exact hq
 | .ask i j k, e => by
  unfold gR at e
  split at e
  ·rename_i h
   obtain ⟨h1, h2⟩ := C4' h
   exact hc i j _ (Nat.le_of_ble_eq_true h1) (Nat.le_of_ble_eq_true h2) (oz hc hq _ e)
  ·cases e
section
variable {prog : Program} {w : World} {A : Around} {E : Ee} {s : Shared} {h0 : Heap} {a : Addr} {f : Value} {v0 v1 v2 : Value} {kz : Nat → Int}
end
inductive DK (s : Shared) (h0 : Heap) (a : Addr) (e1 : Nat) (kz : Nat → Int) (i : Nat) (s' : Shared) : Prop
 | mk (h' : Heap) (tk : Tok) (kA : Array Value) (e : Nat) (hs : s' = { s with heap := h', toks := tk }) (o' : ∀ b o, h0.get? b = some o → h'.get? b = some o) (gk : h'.get? (s.heap.objs.size + 1) = some (seqObj "list" kA e)) (ga : h'.get? a = some (seqObj "list" #[] e1)) (hk : IntsAre kA.toList ((List.range i).map kz))
section
variable {prog : Program} {w : World} {A : Around} {E : Ee} {s : Shared} {h0 : Heap} {a : Addr} {f : Value} {v0 v1 v2 : Value} {kz : Nat → Int}
theorem Bd {n : Nat} {p : Array Nat} {P : PySem.Fin → Shared → Prop} (ho : s.heap.get? a = some (seqObj "list" (List.toArray [v0, v1, v2]) n)) (old : ∀ b o, h0.get? b = some o → b ≠ a ∧ s.heap.get? b = some o)
  (turn : ∀ i v, [v0, v1, v2][i]? = some v → ∀ h t, (∀ b o, h0.get? b = some o → h.get? b = some o) → wpAny (model prog w) A (call f [v]) (fun u s'' => Keeps { s with heap := h, toks := t } s'' ∧ ∃ t, u = .int (kz i) t) (fun z z => False) { s with heap := h, toks := t })
  (hp : gR (fun i j => decide (kz i < kz j)) 3 (kas_sort 3) = some p)
  (k : ∀ h' tk c, (∀ b o, h0.get? b = some o → h'.get? b = some o) → h'.get? a = some (seqObj "list" (List.toArray (p.toList.map fun i => [v0, v1, v2].getD i Value.none)) c) → p.size = 3 → P (.done (.ret .none)) { s with heap := h', toks := tk }) :
  wpAny (model prog w) A (ksk_tree a f false) P E s := by
 have ha : a < s.heap.objs.size := A5' ho
 have s1 := Heap.SameBut.update s.heap a (Obj.mapSeq fun z => (#[] : Array Value))
 obtain ⟨e1, ho1⟩ : ∃ e1, (s.heap.update a (Obj.mapSeq fun z => (#[] : Array Value))).get? a = some (seqObj "list" #[] e1) := ⟨_, get?_update_seq ho fun z => #[]⟩
 unfold ksk_tree
 refine Wb (listItems_at ho rfl ?_)
 refine Wb (listUpdate_at ho rfl ?_ (by rw [sizeLine_eq]; show 3 ≤ _; decide) (A9' _))
 refine Wb (seqEpoch_at ho1 rfl ?_)
 refine Wb (wpAny_newTuple ?_ (by show 3 ≤ _; rw [sizeLine_eq]; decide))
 refine Wb (wpAny_newList ?_ (A9' _))
 refine B3' ?_
 dsimp only
 have k1 : ∀ b o, (s.heap.update a (Obj.mapSeq fun z => (#[] : Array Value))).get? b = some o → (((s.heap.update a (Obj.mapSeq fun z => (#[] : Array Value))).push (seqObj "tuple" [v0, v1, v2].toArray 0)).push (seqObj "list" #[] 0)).get? b = some o := fun b o e => A3' _ (A3' _ e)
 have hkS := A4' ((s.heap.update a (Obj.mapSeq fun z => (#[] : Array Value))).push (seqObj "tuple" [v0, v1, v2].toArray 0)) (o := seqObj "list" #[] 0) rfl
 have hzS : ((s.heap.update a (Obj.mapSeq fun z => (#[] : Array Value))).push (seqObj "tuple" [v0, v1, v2].toArray 0)).objs.size = s.heap.objs.size + 1 := by rw [Heap.size_push, Heap.size_update]
 generalize hH : ((s.heap.update a (Obj.mapSeq fun z => (#[] : Array Value))).push (seqObj "tuple" [v0, v1, v2].toArray 0)).push (seqObj "list" #[] 0) = H at k1 hkS
 show wpAny _ A (ksk_rest a f false [v0, v1, v2].toArray e1 (.ref ((s.heap.update a (Obj.mapSeq fun z => (#[] : Array Value))).push (seqObj "tuple" [v0, v1, v2].toArray 0)).objs.size)) P E { s with heap := H }
 generalize hk : ((s.heap.update a (Obj.mapSeq fun z => (#[] : Array Value))).push (seqObj "tuple" [v0, v1, v2].toArray 0)).objs.size = kS at hkS hzS
 clear hH hk
 subst hzS
 have hka : s.heap.objs.size + 1 ≠ a := Nat.ne_of_gt (B1' ha)
 have nS : ∀ {b o}, h0.get? b = some o → b ≠ s.heap.objs.size + 1 := fun e q => by
  have := A5' (old _ _ e).2
  rw [q] at this
  exact A7' _ (Nat.lt_of_succ_lt this)
 have o1 : ∀ b o, h0.get? b = some o → H.get? b = some o := fun b o e => k1 b o ((s1.2 b (old b o e).1).trans (old b o e).2)
 unfold ksk_rest
 refine Wb (wpAny_rule ?_)
 first
  | rw [List.forIn_toArray]
  | (rw [← Array.forIn_toList]; simp only [List.toList_toArray])
 refine Wb (ksk_fold (fun i s' => DK s h0 a e1 kz i s') [v0, v1, v2] 0 _
  ⟨H, s.toks, #[], 0, rfl, o1, hkS, k1 _ _ ho1, .nil⟩ ?step ?done)
 case step =>
  rintro j x s' hx ⟨h', tk, kA, e, rfl, o', gk, ga, hk⟩
  rw [Nat.zero_add] at hk ⊢
  have hz : kA.size = j := by
   have h1 := hk.length
   rw [Array.length_toList, List.length_map, List.length_range] at h1
   exact h1
  have hj : j < 3 := (List.getElem?_eq_some_iff.mp hx).1
  refine Wb (wpAny_attempt (wpAny_mono (turn j x hx h' tk o') (fun v s'' he => ?_) fun z z hF => hF.elim))
  obtain ⟨⟨g, tk2, rfl, kk⟩, t2, rfl⟩ := he
  dsimp only
  have gk2 := kk _ _ gk
  have s2 := Heap.SameBut.update g (s.heap.objs.size + 1) (Obj.mapSeq (·.push (.int (kz j) t2)))
  obtain ⟨c2, hc2⟩ : ∃ c2, (g.update (s.heap.objs.size + 1) (Obj.mapSeq (·.push (.int (kz j) t2)))).get? (s.heap.objs.size + 1) = some (seqObj "list" (kA.push (.int (kz j) t2)) c2) := ⟨_, get?_update_seq gk2 (·.push (.int (kz j) t2))⟩
  refine Wb (listUpdate_at gk2 rfl ?_ (by rw [sizeLine_eq]; lia) (A1' (Nat.le_of_eq (Array.size_push ..)) (by rw [sizeLine_eq]; lia)))
  refine Wq ⟨rfl, .mk _ _ (kA.push (.int (kz j) t2)) c2 rfl (fun b o e => (s2.2 b (nS e)).trans (kk _ _ (o' b o e))) hc2 ((s2.2 a hka.symm).trans (kk _ _ ga)) ?_⟩
  rw [Array.toList_push, List.range_succ, List.map_append]
  exact ksk_snoc hk
 case done =>
  rintro s' ⟨h', tk, kA, e, rfl, o', gk, ga, hk⟩
  refine Wb (listItems_at gk rfl ?_)
  have hk : IntsAre kA.toList [kz 0, kz 1, kz 2] := hk
  have hsz : kA.size = 3 := by
   have h1 := hk.length
   rw [Array.length_toList] at h1
   exact h1
  obtain ⟨l, rfl⟩ : ∃ l : List Value, kA = l.toArray := ⟨kA.toList, by rw [Array.toArray_toList]⟩
  rw [List.toList_toArray] at hk
  have asks : ∀ i j (C : Bool → Shared → Prop), i < 3 → j < 3 → C (decide (kz i < kz j)) { s with heap := h', toks := tk } → kas_ask prog w A oneType' l i j C { s with heap := h', toks := tk } := by
   intro i j C hi hj hC
   have gt : ∀ i, i < 3 → ∃ t, l.getD i Value.none = .int (kz i) t := by
    intro i hi
    cases hk with | cons n0 t0 hk => cases hk with | cons n1 t1 hk => cases hk with | cons n2 t2 hk => cases hk with | nil =>
    have : i = 0 ∨ i = 1 ∨ i = 2 := by lia
    rcases this with rfl | rfl | rfl <;> exact ⟨_, rfl⟩
   obtain ⟨t, e1⟩ := gt i hi
   obtain ⟨u, e2⟩ := gt j hj
   unfold kas_ask
   rw [keyLt'_oneType, e1, e2]
   exact oneLt_int hC
  unfold ksk_end
  dsimp only
  simp only [Bool.false_eq_true, if_false]
  have n2 : ¬ ([v0, v1, v2].toArray.size < 2) := show ¬ (3 < 2) by decide
  rw [if_neg n2, if_neg n2]
  rw [ksk_kind (keys := l.toArray) (by rw [List.toList_toArray]; exact hk) (by rw [hsz]; decide)]
  refine Wb (Wq ?_)
  have hll : l.length = [v0, v1, v2].length := by have := hk.length; exact this
  refine Wb (wpAny_mono (kat_run (κ := oneType') (Q := fun st' s' => p.size = 3 ∧ s' = { s with heap := h', toks := tk } ∧ arrOf st' = p.map (kas_item (l.toArray.zip [v0, v1, v2].toArray)) ∧ failedOf st' = none) hll (show 2 ≤ 3 by decide) (show 3 < 64 by decide) (G := fun q s' => q = p ∧ s' = { s with heap := h', toks := tk })
   (fun q st' s' a1 a2 a3 a4 => ⟨a4.1 ▸ a1, a4.2, a4.1 ▸ a2, a3⟩) (oz asks ⟨rfl, rfl⟩ _ hp)) ?_ fun z z e => e)
  rintro ⟨⟨⟩, st'⟩ s' ⟨hps, rfl, har, hf⟩
  dsimp only
  have hsn := kat_snds hll har
  unfold ksk_tail
  dsimp only
  have s3 := Heap.SameBut.update h' (s.heap.objs.size + 1) (Obj.mapSeq fun z => (#[] : Array Value))
  have ga3 := (s3.2 a hka.symm).trans ga
  refine Wb (listUpdate_at gk rfl ?_ (by rw [hsz, sizeLine_eq]; decide) (A9' _))
  refine Wb (wpAny_letGo ?_)
  refine Wb (seqEpoch_at ga3 rfl ?_)
  have hzo : ((arrOf st').map (·.2)).size = 3 := by rw [hsn, List.size_toArray, List.length_map, Array.length_toList]; exact hps
  refine Wb (listUpdate_at ga3 rfl ?_ (A9' _) (A1' (Nat.le_of_eq hzo) (by rw [sizeLine_eq]; decide)))
  rw [hf]
  simp only [bne_self_eq_false, Bool.false_eq_true, if_false]
  have s4 := Heap.SameBut.update (h'.update (s.heap.objs.size + 1) (Obj.mapSeq fun z => (#[] : Array Value))) a (Obj.mapSeq fun z => (arrOf st').map (·.2))
  have h9 := get?_update_seq ga3 fun z => (arrOf st').map (·.2)
  rw [hsn] at h9 ⊢
  refine Wq (k _ _ _ (fun b o e => ?_) h9 hps)
  rw [← hsn]
  exact (s4.2 b (old b o e).1).trans ((s3.2 b (nS e)).trans (o' b o e))
end
end
section
noncomputable def b20 : List Stmt := an (aa ap 20)
noncomputable def eSo : Expr := af (aa b20 11)
noncomputable def Ce (e : Expr) : Keyword := (xp e).ks.getD 0 ⟨none, e, e.pos⟩
noncomputable def laE : Expr := (Ce eSo).value
noncomputable def laA : Arguments := (xp laE).ar
noncomputable def laB : Expr := aj 0 laE
noncomputable def laS : Scope := cSc laE
noncomputable def laU : Expr := aj 0 laB
theorem yu : laB = .UnaryOp .USub (.Subscript (.Name "read" (sOb laU).pos) (.Name "k" (sIx laU).pos) laU.pos) laB.pos := ⋯
theorem wS : ∀ x ∈ laS.names, x.2 ≠ .cell := by decide +kernel
theorem Aw : eSo = .Call (.Name "sorted" (dZ eSo).pos) [.Call (.Name "range" (dZ (aj 0 eSo)).pos) [.Constant (.int 3) (kOf (aj 0 (aj 0 eSo))) (aj 0 (aj 0 eSo)).pos] [] (aj 0 eSo).pos] [⟨some "key", .Lambda laA laB laS fH, (Ce eSo).pos⟩] eSo.pos := ⋯
noncomputable def rdV (r : Nat → Int) : V := .list [.int (r 0), .int (r 1), .int (r 2)]
section
variable {w : World} {n : Nat} {M F W : Ap} {env : Env} {ea : ao} {s s' : Shared} {A : Around} {E : Ee}
theorem z9 {r : Nat → Int} {i : Nat} (h : i < 3) : ([V.int (r 0), V.int (r 1), V.int (r 2)] : List V)[i]? = some (V.int (r i)) := by
 rcases i with _ | _ | _ | i
 ·rfl
 ·rfl
 ·rfl
 ·exact absurd h (Nat.not_lt_of_le (Nat.le_add_left 3 i))
theorem rG {qual : Str} {pm ctv vv : Value} {c' a f : Addr} {cl : List (Str × Addr)} (hcl : cl.lookup (Str.ofString "read") = some a) {r : Nat → Int} {i : Nat} {t : Tok} (hA : A.depth < recursionLimit) (ho : s.heap.get? f = some (kla_obj "<lambda>" qual laA laB laS cl pm c' ctv)) (hcd : s.heap.CodeRec (.ref c') qual) (st : StD w s.heap) (ic : s.heap.IsCell a (some vv)) (rv : VR (DD w).prog (DD w).w M s.heap vv (rdV r)) (hi : i < 3) {Q : Ee}
  (k : ∀ u s'', Keeps s s'' → (∃ t, u = .int (-(r i)) t) → Q u s'') : wpAny (model (DD w).prog (DD w).w) A (call (.ref f) [.int i t]) Q E s := by
 refine wpAny_call (kla_callFunE hA ho rfl ⋯ ⋯ rfl hcd ?_)
 have e : bindArgs (kla_fn "<lambda>" qual laA laB laS cl pm (.ref c') ctv) ⟨[.int i t], []⟩ = pure ([("k", .int i t)] : Lw) := ⋯
 rw [e]
 refine Wq (wpAny_newFunctionEnv wS (fun x hx => by rw [C1' hx, ← ig]; rfl') (fun h₁ hns hsb => ?_) ⋯)
 have kk : ∀ b o, s.heap.get? b = some o → h₁.get? b = some o := fun b o e => hsb.extBut b o (A8' (A5' e)) (A3' _ e)
 refine ⟨xg.lim h₁ fun b o ne e => kk b o (st b o ne e), kla_codeExpr ?_⟩
 refine Eq.mpr (congrArg (fun b => wpAny _ _ (eval b _) _ _ _) yu) ?_
 refine wpAny_UnaryOp (Subscript_ (wpAny_Name (wpAny_loadName_free (c := a) (v := vv) ⋯ (show _ = _ by unfold Env.kindOf; rw [← ig]; rfl') hcl (ic.keeps kk) ?_) (by decide)))
 refine wpAny_Name (wpAny_loadName_local (v := .int (i : Nat) t) ⋯ (show _ = _ by unfold Env.kindOf; rw [← ig]; rfl') hns ⋯ ?_) (by decide)
 have sb : lb (DD w) (rdV r) (.int (i : Nat)) (.int (r i)) := l7 (by lia) (by rw [Int.toNat_natCast]; exact z9 hi)
 refine au (sb (rv.keeps kk) (.int _ _)) fun u s₂ g => ?_
 obtain ⟨k2, r2⟩ := g
 obtain ⟨t2, rfl⟩ := r2.int_inv
 exact P.neg_int (k _ _ (Kp.trans' (⟨h₁, _, rfl, kk⟩ : Keeps s { s with heap := h₁, toks := s.toks + 1 }) (Kp.trans' k2 (Kp.toks' _ _))) ⟨_, rfl⟩)
theorem Aj {A : Around} {s : Shared} {r S : Addr} {t u v : Tok} {prog : Program} {R : Result → Shared → Prop} (hh : A.handled = none) (hr : IsRange s.heap r 0 3 1 t u v) (hS : s.heap.get? S = some { cls := .type "list", data := .seq #[] })
  (k : ∀ h' tk t0 t1 t2 c, (∀ b o, b ≠ S → s.heap.get? b = some o → h'.get? b = some o) → h'.get? S = some { cls := .type "list", data := .seq (List.toArray [.int 0 t0, .int 1 t1, .int 2 t2]) c } → R (.ok (.ret (.ref S))) { s with heap := h', toks := tk }) :
  codeAny (model prog w) A (.builtin "list.__iadd__" ⟨[.ref S, .ref r], []⟩) R s := by
 refine codeAny_builtin PySem.F.entry_list_iadd ?_
 rw [Around.under_plainId PySem.F.plain_list_iadd _]
 show wpAny _ A.in1 (Builtin.List.listExtendWith (.ref S) (.ref r) (.ref S)) _ _ _
 refine wpAny_extend_range (R := R) (n := 3) hh hr (by decide) (by decide) (by decide) S (.ref S) 0 hS fun h' tk acc c' hk hS' hacc => ?_
 obtain ⟨hz, hp⟩ := hacc
 obtain ⟨l, rfl⟩ : ∃ l : List Value, acc = l.toArray := ⟨acc.toList, by rw [Array.toArray_toList]⟩
 obtain ⟨x, y, z, rfl⟩ := mu hz
 obtain ⟨t0, rfl⟩ := hp 0 x rfl
 obtain ⟨t1, rfl⟩ := hp 1 y rfl
 obtain ⟨t2, rfl⟩ := hp 2 z rfl
 exact k h' tk t0 t1 t2 c' hk hS'
theorem qO {A : Around} {s : Shared} {E : Ee} {r : Addr} {t u v : Tok} {prog : Program} (hh : A.handled = none) (hr : IsRange s.heap r 0 3 1 t u v) {Q : List Value → Shared → Prop} (k : ∀ h' tk t0 t1 t2, (∀ b o, s.heap.get? b = some o → h'.get? b = some o) → Q [.int 0 t0, .int 1 t1, .int 2 t2] { s with heap := h', toks := tk }) :
  wpAny (model prog w) A (collect (.ref r)) Q E s := by
 unfold collect
 refine Wb (wpAny_runValue (codeAny_builtin PySem.F.entry_proto_collect ?_))
 rw [Around.under_plainId PySem.F.plain_proto_collect _]
 show wpAny _ A.in1 (newList [] >>= fun l => again (.builtin "list.__iadd__" ⟨[l, .ref r], []⟩)) _ _ s
 refine Wb (B7' ?_)
 refine Wq ⟨plainId_quiet PySem.F.plain_list_iadd _, Aj hh (A3' _ hr) (A4' _ rfl) fun h' tk t0 t1 t2 c hk hS' => ?_⟩
 show wpAny _ A (load s.heap.objs.size >>= _) _ _ _
 refine Wb (wpAny_load hS' ?_)
 exact Wq (k h' tk t0 t1 t2 fun b o e => hk b o (A8' (A5' e)) (A3' _ e))
theorem la {r : Addr} {t u v : Tok} {f : Addr} {rd : Nat → Int} {p : Array Nat} (hA : bb n A) (hr : IsRange s.heap r 0 3 1 t u v) (hp : gR (fun i j => decide (-(rd i) < -(rd j))) 3 (kas_sort 3) = some p)
  (turn : ∀ (A : Around) i (t : Tok) s', A.depth < recursionLimit → i < 3 → Keeps s s' → wpAny (model (DD w).prog (DD w).w) A (call (.ref f) [.int (i : Nat) t]) (fun u s'' => Keeps s' s'' ∧ ∃ t, u = .int (-(rd i)) t) (fun z z => False) s') {Q : Ee}
  (k : ∀ D h' tk c t0 t1 t2, (∀ b o, s.heap.get? b = some o → h'.get? b = some o) → s.heap.objs.size ≤ D → h'.get? D = some { cls := .type "list", data := .seq (List.toArray (p.toList.map fun i => [Value.int 0 t0, .int 1 t1, .int 2 t2].getD i Value.none)) c } → p.size = 3 → Q (.ref D) { s with heap := h', toks := tk }) : wpAny (model (DD w).prog (DD w).w) A (call (.builtin "sorted") [.ref r] [("key", .ref f)]) Q E s := by
 refine call_function_entry_kw kind_sorted plain_sorted entry_sorted (ksk_s1 _ _) ?_
 unfold Builtin.«sorted»
 refine wpAny_bind (m := checkCount "sorted" 1 1 _) (Wq ?_)
 refine Wb (aA (qO (A := A.in1) (s := s) (r := r) hA.handled hr fun h₁ tk₁ t0 t1 t2 k1 hz1 => ?_))
 refine Wb (wpAny_newList ?_ (by show 3 ≤ _; rw [sizeLine_eq]; decide))
 have hL : (h₁.push (seqObj "list" [Value.int 0 t0, .int 1 t1, .int 2 t2].toArray 0)).get? h₁.objs.size = some (seqObj "list" [Value.int 0 t0, .int 1 t1, .int 2 t2].toArray 0) := A4' _ rfl
 refine Wb (B3' (wpAny_call_entry_kw slot_list_sort ⟨_, hL, rfl⟩ entry_list_sort ?_ (ksk_l1 _ _)))
 show wpAny (model (DD w).prog (DD w).w) A.in1.in1 (Builtin.«list.sort» ⟨[.ref h₁.objs.size], [(Str.ofString "key", .ref f)]⟩) _ _ { s with heap := h₁.push (seqObj "list" [Value.int 0 t0, .int 1 t1, .int 2 t2].toArray 0), toks := tk₁ }
 rw [ksk_t1]
 refine Bd (h0 := h₁) (kz := fun i => -(rd i)) hL (fun b o e => ⟨A8' (A5' e), A3' _ e⟩) (fun i v hv h t old => ?_) hp fun h' tk c k2 ho hps => ⟨_, rfl, Wq ⟨_, rfl, k _ h' tk c t0 t1 t2 (fun b o e => k2 b o (k1 b o e)) hz1 ho hps⟩⟩
 have hA2 : A.in1.in1.depth < recursionLimit := by have := hA.depth; show A.depth < _; lia
 match i, hv with
 | 0, hv => cases hv; exact turn _ 0 t0 _ hA2 (by decide) ⟨h, t, rfl, fun b o e => old b o (k1 b o e)⟩
 | 1, hv => cases hv; exact turn _ 1 t1 _ hA2 (by decide) ⟨h, t, rfl, fun b o e => old b o (k1 b o e)⟩
 | 2, hv => cases hv; exact turn _ 2 t2 _ hA2 (by decide) ⟨h, t, rfl, fun b o e => old b o (k1 b o e)⟩
end
end
section
section
variable {w : World} {n : Nat} {M F W : Ap} {env : Env} {ea : ao} {s s' : Shared} {A : Around} {E : Ee}
theorem sx {h : Heap} (st : StD w h) : CodeHd h (nat_lit 269) (nat_lit 267) :=
 ⟨we, mL we, "/claim/cut.py", nat_lit 2251, 3, 0, true, 276, 0, st _ _ (by decide) ⋯, by rfl', by rfl', by rfl', by rfl', by rfl', by rfl', by rfl', by rfl', by decide⟩
theorem Dq {h : Heap} (st : StD w h) : h.BuiltinsAt ((H1 w.params).nsMap mainGlobals) (nat_lit 267) :=
 ⟨nat_lit 4, o4, by rfl', by decide, by decide, by decide, st _ _ (by decide) ⋯, by rfl', by rfl', by rfl'⟩
theorem mainNs {h : Heap} (st : StD w h) : h.Ns mainGlobals ((H1 w.params).nsMap mainGlobals) := qT st (by decide) (by have k := ul w.params; simp only [Bool.and_eq_true] at k; exact k.1.1)
theorem fW {h h' : Heap} {c : Addr} {q : Str} (r : h.CodeRec (.ref c) q) (k : ∀ b o, h.get? b = some o → h'.get? b = some o) : h'.CodeRec (.ref c) q := by
 obtain ⟨a, oc, vs, t, e, eo, r⟩ := r
 exact ⟨a, oc, vs, t, e, k _ _ eo, r⟩
theorem qu {clos : List (Str × Addr)} (R : Rel (DD w) M F W env ea s) (htw : ea.tw = true) (hcl : closureFor laS env = pure clos) {Q : Ee}
  (k : ∀ f c' pm ctv s', s.heap.objs.size ≤ s'.heap.objs.size → aq W s s' → Rel (DD w) M F W env ea s' → (∀ b o, ¬ M b → s.heap.get? b = some o → s'.heap.get? b = some o) → (∀ a u, s.heap.IsCell a u → s'.heap.IsCell a u) → s'.heap.get? f = some (kla_obj "<lambda>" (env.qual ++ "<lambda>") laA laB laS clos pm c' ctv) → s'.heap.CodeRec (.ref c') (env.qual ++ "<lambda>") → Q (.ref f) s') :
  wpAny (model (DD w).prog (DD w).w) A (eval (.Lambda laA laB laS fH) env) Q E s := by
 refine kla_eval ⋯ ?_
 obtain ⟨hW, hcode, htab⟩ := R.tw htw
 have hM : M (nat_lit 267) := R.fm _ (R.wf _ hW)
 have hb := Dq R.st
 rcases htab with e | ⟨a, hMa, e, hrec⟩
 ·refine kla_makeFunction (mg := (H1 w.params).nsMap mainGlobals) hcl R.glb (mainNs R.st) hcode (sx R.st) e trivial rfl (by decide) hb fun c' ctv h' tk hx hge hlt hrec htb => ?_
  have kk : ∀ b o, b ≠ nat_lit 267 → s.heap.get? b = some o → (h'.push (kla_obj "<lambda>" (env.qual ++ "<lambda>") laA laB laS clos (((H1 w.params).nsMap mainGlobals "__name__").getD .none) c' ctv)).get? b = some o := fun b o ne e => A3' _ (hx b o ne e)
  have hz : s.heap.objs.size ≤ (h'.push (kla_obj "<lambda>" (env.qual ++ "<lambda>") laA laB laS clos (((H1 w.params).nsMap mainGlobals "__name__").getD .none) c' ctv)).objs.size := A1' (A1' hge (Nat.le_of_lt hlt)) (aC ..)
  have cr := fW hrec fun b o e => A3' (kla_obj "<lambda>" (env.qual ++ "<lambda>") laA laB laS clos (((H1 w.params).nsMap mainGlobals "__name__").getD .none) c' ctv) e
  have tf : ∃ o fs, s.heap.get? (nat_lit 267) = some o ∧ o.data = .fields fs := ⟨_, _, e, rfl⟩
  have up : s.heap.UpToSlots (h'.push (kla_obj "<lambda>" (env.qual ++ "<lambda>") laA laB laS clos (((H1 w.params).nsMap mainGlobals "__name__").getD .none) c' ctv)) := fun b o eb hn => ⟨o.slots, kk b o (fun q => by rw [q, e] at eb; cases eb; exact hn _ rfl) eb⟩
  refine k h'.objs.size c' _ ctv _ hz ⟨_, tk, rfl, fun b o q e => kk b o (fun h => q (h ▸ hW)) e⟩ (R.upTo hM kk up (fun a l mv z r q => r.notFields tf q.symm) hz fun z => ⟨hcode, .inr ⟨c', fun q => ?_, A3' _ htb, cr⟩⟩) (fun b o q e => kk b o (fun h => q (h ▸ hM)) e) (fun a u ic => ?_) (A4' _ rfl) cr
  ·exact A7' _ (A2' (R.dom _ q) hge)
  ·obtain ⟨o, eo, d⟩ := ic
   obtain ⟨sl, e'⟩ := up a o eo fun vs q => by rw [d] at q; cases q
   exact ⟨_, e', d⟩
 ·refine kla_makeFunctionHit (mg := (H1 w.params).nsMap mainGlobals) (cv := .ref a) hcl R.glb (mainNs R.st) hcode (sx R.st) e trivial ⋯ hb fun ctv h' tk hk hsz => ?_
  have kk : ∀ b o, s.heap.get? b = some o → (h'.push (kla_obj "<lambda>" (env.qual ++ "<lambda>") laA laB laS clos (((H1 w.params).nsMap mainGlobals "__name__").getD .none) a ctv)).get? b = some o := fun b o e => A3' _ (hk b o e)
  have kp : Keeps s { s with heap := h'.push (kla_obj "<lambda>" (env.qual ++ "<lambda>") laA laB laS clos (((H1 w.params).nsMap mainGlobals "__name__").getD .none) a ctv), toks := tk } := ⟨_, tk, rfl, kk⟩
  have hz : s.heap.objs.size ≤ (h'.push (kla_obj "<lambda>" (env.qual ++ "<lambda>") laA laB laS clos (((H1 w.params).nsMap mainGlobals "__name__").getD .none) a ctv)).objs.size := A1' hsz (aC ..)
  exact k h'.objs.size a _ ctv _ hz (Kp.toW kp) (R.keeps kp hz) (fun b o z e => kk b o e) (fun a u ic => ic.keeps kk) (A4' _ rfl) (fW hrec kk)
theorem Bo {t0 t1 t2 : Tok} {q : Nat} (h : q < 3) : ∃ t, [Value.int 0 t0, .int 1 t1, .int 2 t2].getD q Value.none = .int (q : Nat) t := by
 match q, h with
 | 0, _ => exact ⟨t0, rfl⟩
 | 1, _ => exact ⟨t1, rfl⟩
 | 2, _ => exact ⟨t2, rfl⟩
theorem nZ {r : Nat → Int} {q0 q1 q2 : Nat} (hp : gR (fun i j => decide (-(r i) < -(r j))) 3 (kas_sort 3) = some #[q0, q1, q2]) (h0 : q0 < 3) (h1 : q1 < 3) (h2 : q2 < 3) (htw : ea.tw = true) (hs : lk ea.names "sorted" = some .globalImplicit) (hr : lk ea.names "range" = some .globalImplicit) (hrd : lk ea.names "read" = some .cell) (he : lk ea.cel "read" = some (rdV r)) :
  FxE (DD w) (n + 1) ea eSo ea (.list [.int q0, .int q1, .int q2]) := by
 rw [Aw]
 refine ⟨fun z z z z => rfl, fun z z z z z => ⟨rfl, rfl⟩, fun z z => rfl, fun {M F W env s A E} hA R => ?_⟩
 rw [arm_eval_Call_Name']
 refine Wb (wpAny_Name (lR (x := "sorted") (v := .builtin "sorted") R.fn (bt R hs) R.glb R.blt R.st ⋯ ?_) (by decide))
 refine callWith_kw ?_
 show wpAny _ A (spliced [(false, _)]) _ E s
 refine spliced_cons (nq (D := DD w) (fv := .type "range") hr ⋯ ⋯ (fun a e => nomatch e) (ai (aK (wpAny_Constant_int (aP _ _ _))) al) hA R fun us s₁ g => ?_)
 obtain ⟨z1, k1, r1⟩ := g
 obtain ⟨v, rfl, r2⟩ := r1.one
 obtain ⟨t, rfl⟩ := r2.int_inv
 refine call_range_1 (spliced_nil ?_)
 have k2 : Keeps s₁ { s₁ with heap := s₁.heap.push { cls := .type "range", data := .fields #[.int 0 s₁.toks, .int 3 t, .int 1 (s₁.toks + 1)] }, toks := s₁.toks + 1 + 1 } := Kp.push' s₁ _ _
 have hrg := IsRange.new s₁.heap 0 3 1 s₁.toks t (s₁.toks + 1)
 have R₂ := R.keeps (Kp.trans' k1 k2) (A1' z1 (aC ..))
 generalize hS : ({ s₁ with heap := s₁.heap.push { cls := .type "range", data := .fields #[.int 0 s₁.toks, .int 3 t, .int 1 (s₁.toks + 1)] }, toks := s₁.toks + 1 + 1 } : Shared) = s₂ at k2 R₂ ⊢
 have hrg : IsRange s₂.heap s₁.heap.objs.size 0 3 1 s₁.toks t (s₁.toks + 1) := by rw [← hS]; exact hrg
 have z2 : s₁.heap.objs.size ≤ s₂.heap.objs.size := by rw [← hS]; exact aC ..
 clear hS
 show wpAny _ A (evalAll [do let v ← eval (.Lambda laA laB laS fH) env; standAt eSo.pos; pure v]) _ E s₂
 obtain ⟨a, vv, e1, ic, rv⟩ := R₂.cel _ _ he
 obtain ⟨clos, hclos, c1, c2⟩ := b6 (env := env) laS fun x hm => by
  have : x = Str.ofString "read" := by
   have key : ∀ y ∈ laS.names, y.2 = .free → y.1 = Str.ofString "read" := by decide +kernel
   exact key _ hm rfl
  exact this ▸ ⟨a, e1⟩
 obtain ⟨a', e2⟩ := c2 "read" (by
  have key : (Str.ofString "read", NameKind.free) ∈ laS.names := by decide +kernel
  exact key)
 have e3 := (c1 _ _ e2).2
 rw [e1] at e3; cases e3
 refine wpAny_evalAll_cons (wpAny_bind (qu R₂ htw hclos fun f c' pm ctv s₃ z3 k3 R₃ kM kc ho hrec => Wb (wpAny_standAt (Wq (wpAny_evalAll_nil ?_)))))
 have hrM : ¬ M s₁.heap.objs.size := fun q => A7' _ (A2' (R.dom _ q) z1)
 refine au (bh (la (E := E) hA (kM _ _ hrM hrg) hp (fun A i t s' hd hi kk => rG (M := M) e2 hd (Kp.get kk ho) (fW hrec fun z z e => Kp.get kk e) ((DD w).stb _ _ (fun b o z z e => Kp.get kk e) R₃.st) ((kc _ _ ic).keeps fun z z e => Kp.get kk e) ((rv.mono kM fun z q => .inl q).keeps fun z z e => Kp.get kk e) hi fun u s'' k9 h9 => ⟨k9, h9⟩)
  (Q := fun u s' => ∃ D h' tk c t0 t1 t2, u = .ref D ∧ s' = { s₃ with heap := h', toks := tk } ∧ (∀ b o, s₃.heap.get? b = some o → h'.get? b = some o) ∧ s₃.heap.objs.size ≤ D ∧ h'.get? D = some { cls := .type "list", data := .seq (List.toArray ([q0, q1, q2].map fun i => [Value.int 0 t0, .int 1 t1, .int 2 t2].getD i Value.none)) c })
  fun D h' tk c t0 t1 t2 k hD ho z => ⟨D, h', tk, c, t0, t1, t2, rfl, rfl, k, hD, ho⟩)) fun u s₄ g => ?_
 obtain ⟨z4, D, h', tk, c, t0, t1, t2, rfl, rfl, k4, hD, ho'⟩ := g
 obtain ⟨u0, w0⟩ := Bo (t0 := t0) (t1 := t1) (t2 := t2) h0
 obtain ⟨u1, w1⟩ := Bo (t0 := t0) (t1 := t1) (t2 := t2) h1
 obtain ⟨u2, w2⟩ := Bo (t0 := t0) (t1 := t1) (t2 := t2) h2
 have kp : Keeps s₃ { s₃ with heap := h', toks := tk } := ⟨h', tk, rfl, k4⟩
 refine ⟨A1' (A1' z1 z2) (A1' z3 z4), ((Kp.toW (Kp.trans' k1 k2)).trans k3).trans (Kp.toW kp), R₃.keeps kp z4, .list (n := c) (fun q => A7' _ (A2' (R₃.dom _ q) hD)) ho' ?_⟩
 rw [List.toList_toArray]
 show VRs _ _ M h' [[Value.int 0 t0, .int 1 t1, .int 2 t2].getD q0 Value.none, [Value.int 0 t0, .int 1 t1, .int 2 t2].getD q1 Value.none, [Value.int 0 t0, .int 1 t1, .int 2 t2].getD q2 Value.none] _
 rw [w0, w1, w2]
 exact .cons (.int _ _) (.cons (.int _ _) (.cons (.int _ _) .nil))
end
end
section
noncomputable def nY (a b c : Nat) : Str := ⟨#[61, 49, a, 61, 49, b, 61, 49, c]⟩
noncomputable def u5 (a b c : Nat) : Str := ⟨#[61, 63, 120, 63, 113, 63, 61, 49, a, 61, 49, b, 61, 49, c, 63, 61]⟩
section
variable {prog : Program} {w : World} {A : Around} {E : Ee} {s : Shared}
theorem qD {a : Addr} {vs : Array Value} {k c : Nat} {y : Str} {u : Tok} (ho : s.heap.get? a = some { cls := .type "list", data := .seq vs k }) (hc : vs[c]? = some (.str y u)) (hs : c < 100000) {Q : Builtin.Str.Mapped → Shared → Prop} (h : ∀ tk, Q (.text y) { s with toks := tk }) :
  wpAny (model prog w) A (Builtin.Str.tableLookup (.ref a) c) Q E s := by
 unfold Builtin.Str.tableLookup
 refine Wb (wpAny_attempt (Wb (wpAny_mkInt (wpAny_getItem_list (s := { s with toks := s.toks + 1 }) ⟨_, ho, rfl, _, rfl⟩ (by lia) (by lia) (by rw [Int.toNat_natCast]; exact hc) ?_))))
 dsimp only
 refine Wb (wpAny_of_eq (a := none) rfl ?_)
 refine Wb (wpAny_of_eq (a := some y) rfl ?_)
 exact Wq (h _)
noncomputable def vO {β : Type} (prog : Program) (w : World) (A : Around) (E : Ee) (s : Shared) (B : Nat → β → Sem (ForInStep β)) (c : Nat) (b b' : β) : Prop := ∀ k {Q : ForInStep β → Shared → Prop}, (∀ tk, Q (.yield b') { s with toks := tk }) → wpAny (model prog w) A (B c b) Q E { s with toks := k }
theorem DS {β : Type} {B : Nat → β → Sem (ForInStep β)} {c1 c2 c3 : Nat} {b0 b1 b2 b3 : β} (h1 : vO prog w A E s B c1 b0 b1) (h2 : vO prog w A E s B c2 b1 b2) (h3 : vO prog w A E s B c3 b2 b3) {Q : β → Shared → Prop} (h : ∀ tk, Q b3 { s with toks := tk }) : wpAny (model prog w) A (forIn (#[c1, c2, c3] : Array Nat) b0 B) Q E s := by
 rw [show (#[c1, c2, c3] : Array Nat) = List.toArray [c1, c2, c3] from rfl, List.forIn_toArray, List.forIn_cons]
 refine Wb (h1 s.toks fun k1 => ?_)
 show wpAny _ _ (forIn [c2, c3] b1 B) _ _ _
 rw [List.forIn_cons]
 refine Wb (h2 k1 fun k2 => ?_)
 show wpAny _ _ (forIn [c3] b2 B) _ _ _
 rw [List.forIn_cons]
 refine Wb (h3 k2 fun k3 => ?_)
 show wpAny _ _ (forIn [] b3 B) _ _ _
 rw [List.forIn_nil]
 exact Wq (h k3)
theorem rK {m : Nat} (hm : m < 100) : ¬ (Builtin.Str.tooLong m = true) := by unfold Builtin.Str.tooLong; rw [decide_eq_true_iff, sizeLine_eq]; lia
theorem BG {a : Addr} {vs : Array Value} {k c1 c2 c3 : Nat} {y1 y2 y3 : Str} {u1 u2 u3 t : Tok} (ho : s.heap.get? a = some { cls := .type "list", data := .seq vs k }) (h1 : vs[c1]? = some (.str y1 u1)) (h2 : vs[c2]? = some (.str y2 u2)) (h3 : vs[c3]? = some (.str y3 u3)) (l1 : c1 < 128) (l2 : c2 < 128) (l3 : c3 < 128)
  (n1 : y1.length = 3) (n2 : y2.length = 3) (n3 : y3.length = 3) {Q : PySem.Fin → Shared → Prop} (h : ∀ t k, Q (.done (.ret (.str ⟨y1.cps ++ y2.cps ++ y3.cps⟩ t))) { s with toks := k }) : wpAny (model prog w) A (Builtin.«str.translate» ⟨[.str ⟨#[c1, c2, c3]⟩ t, .ref a], []⟩) Q E s := by
 have e0 : Builtin.Str.strOneArg "translate" ⟨[.str ⟨#[c1, c2, c3]⟩ t, .ref a], []⟩ = pure (.str ⟨#[c1, c2, c3]⟩ t, ⟨#[c1, c2, c3]⟩, .ref a) := ⋯
 unfold Builtin.«str.translate»
 refine Wb (wpAny_of_eq e0 ?_)
 dsimp only
 rw [if_neg (by show ¬ ((3 == 0) = true); decide)]
 have hf : (Array.all #[c1, c2, c3] fun x => decide (x < 128)) = true := by simp [l1, l2, l3]
 rw [hf]
 refine Wb (DS (s := s) (b1 := ([y1], 0 + y1.length, false, [], false)) (b2 := ([y2, y1], 0 + y1.length + y2.length, false, [], false)) (b3 := ([y3, y2, y1], 0 + y1.length + y2.length + y3.length, false, [], false)) ?f1 ?f2 ?f3 fun k4 => ?_)
 case f1 =>
  intro k0 Q' hq
  dsimp only [List.lookup]
  rw [if_neg (rK (by decide)), if_pos rfl]
  refine Wb (qD (s := { s with toks := k0 }) ho h1 (by exact A1' ‹_› (by decide)) fun k1 => ?_)
  dsimp only
  simp only [n1, show ((3 : Nat) == 1) = false from rfl, Bool.false_and, Bool.false_eq_true, if_false]
  refine Wb (Wq ?_)
  dsimp only
  refine Wb (wpAny_rule ?_)
  refine Wb (qD (s := { s with toks := k1 }) ho h1 (by exact A1' ‹_› (by decide)) fun k2 => Wq ?_)
  exact hq k2
 case f2 =>
  intro k0 Q' hq
  dsimp only
  rw [if_neg (rK (by rw [n1]; decide))]
  simp only [Bool.false_eq_true, if_false]
  exact Wb (qD (s := { s with toks := k0 }) ho h2 (by exact A1' ‹_› (by decide)) fun k3 => Wq (hq k3))
 case f3 =>
  intro k0 Q' hq
  dsimp only
  rw [if_neg (rK (by rw [n1, n2]; decide))]
  simp only [Bool.false_eq_true, if_false]
  exact Wb (qD (s := { s with toks := k0 }) ho h3 (by exact A1' ‹_› (by decide)) fun k3 => Wq (hq k3))
 dsimp only
 rw [if_neg (rK (by rw [n1, n2, n3]; decide))]
 have e : (⟨[y3, y2, y1].reverse.foldl (fun acc p => acc ++ p.cps) #[]⟩ : Str) = ⟨y1.cps ++ y2.cps ++ y3.cps⟩ := by
  show (⟨((#[] ++ y1.cps) ++ y2.cps) ++ y3.cps⟩ : Str) = _
  rw [Array.empty_append]
 rw [e]
 exact Wb (wpAny_mkStr (Wq (h _ _)) (by
  have q1 : y1.cps.size = 3 := n1
  have q2 : y2.cps.size = 3 := n2
  have q3 : y3.cps.size = 3 := n3
  show (y1.cps ++ y2.cps ++ y3.cps).size ≤ _
  rw [Array.size_append, Array.size_append, q1, q2, q3, sizeLine_eq]; decide))
end
open PySem.Builtin in
theorem rL {id : String} {b : Array UInt8} : _codecs.decodeRoad id b "latin1" none [] = (_codecs.runDecoder id _codecs.latin1Decoder none true b 0 [] >>= fun r => mkStr ⟨r.1⟩) := ⋯
open PySem.Builtin in
theorem pI {c : UInt8} {cs : List UInt8} {t t1 : Tok} : Builtin.«bytes.decode» ⟨[.bytes (c :: cs).toArray t, .str "latin1" t1], []⟩ = (mkStr "utf-8" >>= fun z => mkStr "latin1" >>= fun e => mkStr "bytes.decode" >>= fun d => call (.builtin "_codecs.decode.text") [.bytes (c :: cs).toArray t, e, .none, d] >>= fun v => ret v) := ⋯
theorem qN (a b : Value) : argsOk "bytes.decode" ⟨[a, b], []⟩ := by unfold argsOk; rfl'
open PySem.Builtin in
theorem qw {D : Std} {n : Nat} {c : UInt8} {cs : List UInt8} {x : Str} {k : Nat} (hd : ∀ id, _codecs.runDecoder id _codecs.latin1Decoder none true (c :: cs).toArray 0 [] = pure (x.cps, k)) (hx : x.length ≤ 1000) : nk D n "decode" (.byt (c :: cs).toArray) [.str "latin1"] (.str x) :=
 ⟨"bytes", "bytes.decode", FB.plainAttrs_bytes, FB.slot_bytes_decode, FB.type_bytes_decode, fun r => by
  obtain ⟨t, rfl⟩ := r.byt_inv
  exact ⟨typeIs_bytes _ _ _, fun z e => nomatch e⟩, fun {M s A E v vs} hA hdm rv r => by
  obtain ⟨t, rfl⟩ := rv.byt_inv
  obtain ⟨v, rfl, r1⟩ := r.one
  obtain ⟨t1, rfl⟩ := r1.str_inv
  refine wpAny_call_entry FB.slot_bytes_decode (typeIs_bytes _ _ _) FB.entry_bytes_decode ?_ (qN _ _)
  rw [pI]
  refine Wb (wpAny_mkStr (Wb (wpAny_mkStr (Wb (wpAny_mkStr (Wb ?_) (by decide +kernel))) (by decide +kernel))) (by decide +kernel))
  refine call_function_entry_kw KBd.kind_text KBd.plain_text KBd.entry_text (KBd.args_text _ _ _ _) ?_
  show wpAny _ _ (Bytes.bytesLike _ (.bytes (c :: cs).toArray t) >>= fun r => _) _ _ _
  refine Wb (wpAny_of_eq KBd.like_eq ?_)
  refine Wb (wpAny_of_eq KBd.held_eq ?_)
  show wpAny _ _ (_codecs.decodeRoad _ (c :: cs).toArray "latin1" none [] >>= fun v => _) _ _ _
  rw [rL, hd]
  refine Wb (Wb (Wq (wpAny_mkStr (Wq ⟨_, rfl, Wq ⟨_, rfl, Kp.toks' s _, .str _ _⟩⟩) ?_)))
  show x.length ≤ _
  rw [sizeLine_eq]; exact A1' ‹_› (by decide)⟩
end
section
theorem tc2 (a b : Value) : checkTypeCall "int" ⟨[a, b], []⟩ = pure () := ⋯
theorem nc2 (a b : Value) : checkBuiltinCall "int.__new__" ⟨[.type "int", a, b], []⟩ = pure () := ⋯
theorem m5 (obj a b : Value) : argsOk "object.__init__" ⟨[obj, a, b], []⟩ := by unfold argsOk; rfl'
noncomputable def Dg (n : Nat) : Prop := 2 ≤ n ∧ n ≤ 6
theorem ly {n : Nat} (h : Dg n) : n = 2 ∨ n = 3 ∨ n = 4 ∨ n = 5 ∨ n = 6 := by unfold Dg at h; lia
theorem rh {n : Nat} (h : Dg n) (t u : Tok) : Builtin.«int.__new__» ⟨[.type "int", .str ⟨#[49, 48 + n]⟩ t, .int 16 u], []⟩ = (mkInt (16 + n : Nat) >>= fun v => ret v) := by
 rcases ly h with rfl | rfl | rfl | rfl | rfl <;> rfl'
theorem kP {n : Nat} (h : Dg n) (t u : Tok) : Meets (Builtin.«int.__new__» ⟨[.type "int", .str ⟨#[49, 48 + n]⟩ t, .int 16 u], []⟩) (Made.int (16 + n : Nat)).spec := .of_wp fun prog w A R s hs => by
 rw [rh h]
 exact Wb (wpAny_mkInt (Wq ⟨_, rfl, hs⟩))
theorem tB {D : Std} {n : Nat} (h : Dg n) : gm D Bn.int.val [.str ⟨#[49, 48 + n]⟩, .int 16] (.int (16 + n : Nat)) := fun {M s A E vs} _ r => by
 obtain ⟨v, u, rfl, a, b⟩ := r.two
 obtain ⟨t, rfl⟩ := a.str_inv
 obtain ⟨t2, rfl⟩ := b.int_inv
 exact callType_new PySem.F.called_int PySem.F.newNe_int (tc2 _ _) (nc2 _ _) (fun obj => m5 obj _ _) PySem.F.entry_int_new (kP h t t2) (show (Made.int (16 + n : Nat)).post _ s from ⟨rfl, aP _ _ _⟩)
noncomputable def i16 (x : Str) : Option { n : Nat // Dg n ∧ x = ⟨#[49, 48 + n]⟩ } := match x with
 | ⟨⟨[49, c]⟩⟩ => if h : 50 ≤ c ∧ c ≤ 54 then some ⟨c - 48, ⟨by omega, by omega⟩, by rw [show 48 + (c - 48) = c by omega]⟩ else none
 | _ => none
section
variable (w : World) (n : Nat)
noncomputable def TI : Tab (DD w) n := { TB w n with
 cf := fun x xs => match (TB w n).cf x xs with
  | some r => some r
  | none => match h : sq x "int", xs with
   | true, [.str y, .int 16] => match i16 y with
    | some ⟨m, hm, e⟩ => some ⟨.int (16 + m : Nat), e ▸ gm.cf (tB hm) (by rw [aN.mp h]; rfl')⟩
    | none => none
   | _, _ => none }
noncomputable def cfV {x : Str} {a : Addr} {fo : Obj} (FA : dW (DD w) a (ay fo) (av (ay fo))) (q : (DD w).gl x = some (.ref a)) (ps : List Str) (hb : ∀ vs, vs.length = ps.length → bindArgs (ay fo) ⟨vs, []⟩ = pure (ps.zip vs)) (xs : List V) : Option { r : V // rD (DD w) (n + 1) x xs r } :=
 if hl : xs.length = ps.length then match yT (DD w) (baseE (ay fo).scope.names) (ps.zip xs) with
  | some e => match exD (TI w n) (FB w n) 14 4 e.1 (av (ay fo)) with
   | some ⟨.ret e1 r, hh⟩ => some ⟨r, fun {M s A E fv vs} hA hst hd hmb hbs e' rv => by
     cases q.symm.trans e'
     obtain ⟨o, ho, hdat⟩ := FA.at _ hst
     have hv : vs.length = ps.length := rv.length.trans hl
     exact ⟨.inr ⟨a, o, ay fo, rfl, ho, hdat⟩, gb (ag := ⟨vs, []⟩) FA hA hst hd hmb hbs (ps := ps) (vals := vs) (xs := xs) hv.symm (hb vs hv) rv e.2 (g9 hh)⟩⟩
   | _ => none
  | none => none
 else none
theorem bd3 {fo : Obj} {ps : List Str} (hp : ps.length = 3) (h : ∀ a b c, bindArgs (ay fo) ⟨[a, b, c], []⟩ = pure (ps.zip [a, b, c])) : ∀ vs : List Value, vs.length = ps.length → bindArgs (ay fo) ⟨vs, []⟩ = pure (ps.zip vs) := fun vs hv => by
 obtain ⟨a, b, c, rfl⟩ := mu (hv.trans hp)
 exact h a b c
theorem bd1 {fo : Obj} {ps : List Str} (hp : ps.length = 1) (h : ∀ a, bindArgs (ay fo) ⟨[a], []⟩ = pure (ps.zip [a])) : ∀ vs : List Value, vs.length = ps.length → bindArgs (ay fo) ⟨vs, []⟩ = pure (ps.zip vs) := fun vs hv => by
 obtain ⟨a, rfl⟩ := nI (hv.trans hp)
 exact h a
noncomputable def TC : Tab (DD w) (n + 1) := { TB w (n + 1) with
 cf := fun x xs => match (TB w (n + 1)).cf x xs with
  | some r => some r
  | none => match h : sq x "rgb_to_hsv" with
   | true => cfV w n (fo := yR) Bk (by rw [aN.mp h]; rfl') ["r", "g", "b"] (bd3 rfl fun a b c => by rfl') xs
   | false => match h : sq x "rgb_to_hls" with
    | true => cfV w n (fo := yZ) z8 (by rw [aN.mp h]; rfl') ["r", "g", "b"] (bd3 rfl fun a b c => by rfl') xs
    | false => match h : sq x "unquote" with
     | true => cfV w n (fo := y0) zr (by rw [aN.mp h]; rfl') ["s"] (bd1 rfl fun a => by rfl') xs
     | false => none }
end
end
section
noncomputable def y5 : Array Value := match yD.data with
 | .seq vs _ => vs
 | _ => #[]
noncomputable def BV : Nat := match yD.data with
 | .seq _ k => k
 | _ => 0
theorem sY : yD = { cls := .type "list", data := .seq y5 BV } := ⋯
noncomputable def Dr (n : Nat) : Tok := match y5[16 + n]? with
 | some (.str _ u) => u
 | _ => (nat_lit 0)
theorem kU {n : Nat} (h : Dg n) : y5[16 + n]? = some (.str ⟨#[61, 49, 48 + n]⟩ (Dr n)) := by
 rcases ly h with rfl | rfl | rfl | rfl | rfl <;> rfl'
theorem zA {w : World} {h : Heap} (st : StD w h) : h.get? (nat_lit 201) = some { cls := .type "list", data := .seq y5 BV } := (st _ _ (by decide) (show _ = some yD by rfl')).trans (congrArg some sY)
noncomputable def b3 (a b c : Nat) : List UInt8 := [UInt8.ofNat (16 + a), UInt8.ofNat (16 + b), UInt8.ofNat (16 + c)]
noncomputable def s3 (a b c : Nat) : Str := ⟨#[16 + a, 16 + b, 16 + c]⟩
open PySem.Builtin in
noncomputable def uf (a b c : Nat) : Prop := ∀ id : String, _codecs.runDecoder id _codecs.latin1Decoder none true (b3 a b c).toArray 0 [] = pure ((s3 a b c).cps, 3)
noncomputable def heB : List Stmt := av (ay pM)
noncomputable def heT : Expr := af (aa heB 1)
noncomputable def heE (v : V) (l : Lv) : ao := { baseE (ay pM).scope.names with loc := ("header_bytes", v) :: ("charset", .str "x") :: l }
noncomputable def sy (e : Expr) : Expr := bS e
noncomputable def d3 (n : Nat) : Str := ⟨#[61, 49, 48 + n]⟩
theorem vA {a b c : Nat} : (⟨(d3 a).cps ++ (d3 b).cps ++ (d3 c).cps⟩ : Str) = nY (48 + a) (48 + b) (48 + c) := ⋯
theorem mU {w : World} {a b c : Nat} (ha : Dg a) (hb : Dg b) (hc : Dg c) {M : Ap} {s : Shared} {A : Around} {E : Ee} {t : Tok} (st : StD w s.heap) :
  wpAny (model (DD w).prog (DD w).w) A (call (.builtin "str.translate") [.str (s3 a b c) t, .ref (nat_lit 201)]) (Got (DD w).prog (DD w).w M s (.str (nY (48 + a) (48 + b) (48 + c)))) E s := by
 refine wpAny_call_entry PySem.F.slot_str_translate (typeIs_str _ _ _) PySem.F.entry_str_translate ?_ (PySem.F.args_str_translate_2 _ _)
 have g1 := ha.2
 have g2 := hb.2
 have g3 := hc.2
 refine BG (y1 := d3 a) (y2 := d3 b) (y3 := d3 c) (zA st) (kU ha) (kU hb) (kU hc) (by lia) (by lia) (by lia) rfl rfl rfl fun t k => ?_
 rw [vA]
 exact ⟨_, rfl, Kp.toks' _ k, .str _ _⟩
theorem qZ {D : Std} {n : Nat} {M : Ap} {s : Shared} {A : Around} {E : Ee} {ea : ao} {a : Addr} {fd : FuncData} {body : List Stmt} (FA : dW D a fd body) (hA : bb (n + 1) A) (hst : D.St s.heap) (hd : Dom M s) (hmb : ∀ b, M b → D.base ≤ b ∨ b = D.tab) (hbs : D.base ≤ s.heap.objs.size) {ps : List Str} {xs : List V} {r : V}
  {ag : Args} (hbind : ∀ E' : Ee, wpAny (model D.prog D.w) A.in1 (bindArgs fd ag) (fun b s' => s.heap.objs.size ≤ s'.heap.objs.size ∧ Keeps s s' ∧ ∃ vals, b = ps.zip vals ∧ ps.length = vals.length ∧ VRs D.prog D.w M s'.heap vals xs) E' s) (ha : c9 D (baseE fd.scope.names) (ps.zip xs) ea) (hb : gy D n ea body r) :
  wpAny (model D.prog D.w) A (call (.ref a) ag.pos ag.kw) (Got D.prog D.w M s r) E s := by
 refine wpAny_call (dt FA hA hst hd hmb hbs (ps := ps) (xs := xs) hbind ha fun hA₂ R₂ hM hz k₂ hF z z => ?_)
 refine wpAny_mono (hb hA₂ R₂) (fun f s₃ g => ?_) fun z z x => x
 obtain ⟨u, rfl, kw, fin⟩ := g
 have k03 : aq (fun b => s.heap.objs.size ≤ b) s s₃ := k₂.trans (kw.sub fun b q => by
  rcases q with q | q
  ·exact hF _ (R₂.wf _ q)
  ·exact A1' hz q)
 exact ⟨k03.keeps (A6' _), fin M hM⟩
theorem ko {w : World} {a b c : Nat} (ha : Dg a) (hb : Dg b) (hc : Dg c) {M : Ap} {s : Shared} {A : Around} {E : Ee} {t : Tok} {us : List Value} (st : StD w s.heap) (r : VRs (DD w).prog (DD w).w M s.heap us [.sta (.ref (nat_lit 201))]) :
  wpAny (model (DD w).prog (DD w).w) A (call (.builtin "str.translate") (.str (s3 a b c) t :: us)) (Got (DD w).prog (DD w).w M s (.str (nY (48 + a) (48 + b) (48 + c)))) E s := by
 obtain ⟨v, rfl, r1⟩ := r.one
 have e := r1.sta_inv
 subst e
 exact mU ha hb hc st
noncomputable def lS (k : Nat) (e : Expr) : Expr := aj k e
noncomputable def fvV (e : Expr) : Expr := aj 0 e
inductive EvS (D : Std) (n : Nat) (ea : ao) : List Expr → List Str → Prop
 | nil : EvS D n ea [] []
 | cons {e x es xs} : Ev D n ea e (.str x) → EvS D n ea es xs → EvS D n ea (e :: es) (x :: xs)
section
variable {D : Std} {n : Nat} {M F W : Ap} {env : Env} {ea : ao} {s s' : Shared} {A : Around} {E : Ee}
theorem jd : ∀ (xs : List Str) (a : Str), (xs.foldl (· ++ ·) a).length = a.length + (xs.map Str.length).sum := by
 intro v0'
 induction v0' with
 | nil =>
  exact fun a => rfl
 | cons x xs ih' =>
  exact fun a => by
   show (xs.foldl (· ++ ·) (a ++ x)).length = _
   rw [ih', strLen_append, List.map_cons, List.sum_cons, Nat.add_assoc]
theorem rl {es : List Expr} {xs : List Str} (h : EvS D n ea es xs) : ∀ {s₀ s : Shared} {acc : Str}, bb n A → Rel D M F W env ea s → s₀.heap.objs.size ≤ s.heap.objs.size → Keeps s₀ s → (xs.foldl (· ++ ·) acc).length ≤ sizeLine →
  Joins (model D.prog D.w) A E (evalEach es env) acc (fun out s₁ => out.length ≤ sizeLine ∧ cz D M s₀ (.str (xs.foldl (· ++ ·) acc)) (.str out s₁.toks) { s₁ with toks := s₁.toks + 1 }) s := by
 induction h with
 | nil => exact fun hA R z k hl => ⟨hl, z, Kp.trans' k (Kp.toks' _ _), .str _ _⟩
 | cons e _ ih =>
  intro s₀ s acc hA R z k hl
  refine au (e.ev hA R) fun v s₁ g => ?_
  obtain ⟨t, rfl⟩ := g.2.2.str_inv
  refine ⟨_, t, rfl, A1' ?_ hl, ih hA (R.keeps g.2.1 g.1) (A1' z g.1) (Kp.trans' k g.2.1) hl⟩
  show _ ≤ (List.foldl (· ++ ·) (acc ++ _) _).length
  rw [jd]
  exact Nat.le_add_right _ _
theorem qU {es : List Expr} {xs : List Str} {p : Pos} (h : EvS D n ea es xs) (h2 : 2 ≤ es.length) (hl : (xs.map Str.length).sum ≤ 1000) : Ev D n ea (.JoinedStr es p) (.str (xs.foldl (· ++ ·) Str.empty)) := by
 match es, h2 with
 | e1 :: e2 :: es, _ =>
  refine .mk' ⟨fun z z => rfl, fun z z => rfl, fun z => rfl, fun z z z z z => rfl, fun z z z => rfl⟩ (fun z z z z => rfl) (fun z z => rfl) fun hA R => ?_
  exact wpAny_JoinedStr (rl h hA R (A6' _) (Kp.refl' _) (by rw [jd, sizeLine_eq]; show 0 + _ ≤ _; lia))
theorem wB {e : Expr} {x : Str} {p : Pos} (hx : x.length ≤ 1000) (h : Ev D n ea e (.str x)) : Ev D n ea (.FormattedValue e 115 none p) (.str x) :=
 .mk' ⟨fun q q => rfl, fun q q => rfl, fun q => rfl, fun q q q q q => rfl, fun q q q => rfl⟩ (fun q q q q => rfl) (fun q q => rfl) fun {M F W env s A E} hA R => by
  have hs : x.length ≤ sizeLine := by rw [sizeLine_eq]; exact A1' ‹_› (by decide)
  refine wpAny_FormattedValue_s (au (h.ev hA R) fun v s₁ g => ?_)
  obtain ⟨t, rfl⟩ := g.2.2.str_inv
  show wpAny _ _ (habitSame _ (.str x t)) _ _ _
  have fin : ∀ s₂ : Shared, Keeps s₁ s₂ → s₁.heap.objs.size ≤ s₂.heap.objs.size → ∀ t, cz D M s (.str x) (.str x t) s₂ := fun s₂ k z t => ⟨A1' g.1 z, Kp.trans' g.2.1 k, .str _ _⟩
  have f := fun tk t => fin { s₁ with toks := tk } (Kp.toks' _ _) (A6' _) t
  exact wpAny_habitSame_str (wpAny_formatField_str (f _ _) (f _ _) hs) (wpAny_formatField_str (f _ _) (f _ _) hs) hs
end
theorem zU {w : World} {n : Nat} {ea : ao} {e : Expr} {x : Str} (h : (evD (TB w n) 5 ea e).map (·.1) = some (.str x)) : Ev (DD w) n ea e (.str x) := aF h
section
variable {w : World} {n a b c : Nat}
theorem uI {D : Std} {n : Nat} {ea : ao} {o : Expr} {m : Str} {apos pos : Pos} {args : List Expr} {id : String} {z : Str} {vs : List V} {x : V} (ho : Ev D n ea o (.str z)) (hl : (apos.endLine == pos.line) = true) (hf : args.length < 20) (ev : Evs D n ea args vs)
  (slot : Slot "str" m id) (ty : typeOf (.builtin id) = pure (.type "method_descriptor"))
  (hc : ∀ {M : Ap} {s : Shared} {A : Around} {E : Ee} {t : Tok} {us : List Value}, bb n A → D.St s.heap → Dom M s → VRs D.prog D.w M s.heap us vs → wpAny (model D.prog D.w) A (call (.builtin id) (.str z t :: us)) (Got D.prog D.w M s x) E s) : Ev D n ea (.Call (.Attribute o m apos) args [] pos) x :=
 .mk' ⟨fun q q => rfl, fun q q => rfl, fun q => rfl, fun q q q q q => rfl, fun q q q => rfl⟩ (fun q q q q => rfl) (fun q q => rfl) fun hA R => by
  refine pA (ho.pl.base _ _ _) hl hf ev (au (ho.ev hA R) fun ov s₁ g => ?_)
  have R₁ := R.keeps g.2.1 g.1
  obtain ⟨t, rfl⟩ := g.2.2.str_inv
  refine getMethod_builtin (typeIs_str _ _ _) PySem.F.plainAttrs_str slot ty (fun q e => nomatch e) (au (ev.ev pos hA R₁) fun us s₃ g₃ => ?_)
  have R₃ := R₁.keeps g₃.2.1 g₃.1
  exact ⟨.inl (fun a e => nomatch e), cz.after (Kp.trans' g.2.1 g₃.2.1) (A1' g.1 g₃.1) (hc hA R₃.st R₃.dom g₃.2.2)⟩
theorem vq (hd : uf a b c) (ha : Dg a) (hb : Dg b) (hc : Dg c) : Bx (DD w) n (heE (.byt (b3 a b c).toArray) []) heB (.ret (heE (.byt (b3 a b c).toArray) [("encoded", .str (nY (48 + a) (48 + b) (48 + c)))]) (.str (u5 (48 + a) (48 + b) (48 + c)))) := by
 have i0 : Sx (DD w) n (heE (.byt (b3 a b c).toArray) []) (aa heB 0) (.next (heE (.byt (b3 a b c).toArray) [])) := eO (T := TB w n) (X := FB w n) (ke := 9) (k := 3) ⋯
 have i1 : Ev (DD w) n (heE (.byt (b3 a b c).toArray) []) (sy heT) (.str (s3 a b c)) := by
  rw [show sy heT = .Call (.Attribute (.Name "header_bytes" (bS (sy heT)).pos) "decode" (dZ (sy heT)).pos) [.Constant (.str "latin1") (kOf (aj 0 (sy heT))) (aj 0 (sy heT)).pos] [] (sy heT).pos by rfl']
  exact br (v := .byt (b3 a b c).toArray) (ah ⋯ ⋯ ⋯) ⋯ (by decide) (ai (aK (Constant_str (aW _ _ _))) al) (qw hd (by show 3 ≤ _; decide))
 have i2 : Ev (DD w) n (heE (.byt (b3 a b c).toArray) []) heT (.str (nY (48 + a) (48 + b) (48 + c))) := by
  rw [show heT = .Call (.Attribute (sy heT) "translate" (dZ heT).pos) [.Name "_QUOPRI_HEADER_MAP" (aj 0 heT).pos] [] heT.pos by rfl']
  exact uI i1 ⋯ (by decide) (ai (dn (u := .ref (nat_lit 201)) ⋯ ⋯ ⋯) al) PySem.F.slot_str_translate PySem.F.type_str_translate fun z st z r => ko ha hb hc st r
 have i3 : Ev (DD w) n (heE (.byt (b3 a b c).toArray) [("encoded", .str (nY (48 + a) (48 + b) (48 + c)))]) (af (aa heB 2)) (.str (u5 (48 + a) (48 + b) (48 + c))) := by
  have q1 : Ev (DD w) n (heE (.byt (b3 a b c).toArray) [("encoded", .str (nY (48 + a) (48 + b) (48 + c)))]) (.Name "charset" (fvV (lS 1 (af (aa heB 2)))).pos) (.str "x") := ah ⋯ ⋯ ⋯
  have q2 : Ev (DD w) n (heE (.byt (b3 a b c).toArray) [("encoded", .str (nY (48 + a) (48 + b) (48 + c)))]) (.Name "encoded" (fvV (lS 3 (af (aa heB 2)))).pos) (.str (nY (48 + a) (48 + b) (48 + c))) := ah ⋯ ⋯ ⋯
  rw [show af (aa heB 2) = .JoinedStr [lS 0 (af (aa heB 2)), .FormattedValue (.Name "charset" (fvV (lS 1 (af (aa heB 2)))).pos) 115 none (lS 1 (af (aa heB 2))).pos, lS 2 (af (aa heB 2)), .FormattedValue (.Name "encoded" (fvV (lS 3 (af (aa heB 2)))).pos) 115 none (lS 3 (af (aa heB 2))).pos, lS 4 (af (aa heB 2))] (af (aa heB 2)).pos by rfl']
  have hz : (nY (48 + a) (48 + b) (48 + c)).length ≤ 1000 := show 9 ≤ 1000 by decide
  have e := qU (p := (af (aa heB 2)).pos) (.cons (zU (e := lS 0 (af (aa heB 2))) (x := "=?") ⋯) (.cons (wB (p := (lS 1 (af (aa heB 2))).pos) (by decide) q1) (.cons (zU (e := lS 2 (af (aa heB 2))) (x := "?q?") ⋯) (.cons (wB (p := (lS 3 (af (aa heB 2))).pos) hz q2) (.cons (zU (e := lS 4 (af (aa heB 2))) (x := "?=") ⋯) .nil))))) (Nat.le_add_left _ _) (show 2 + (1 + (3 + (9 + (2 + 0)))) ≤ 1000 by decide)
  rw [show ([("=?" : Str), "x", "?q?", nY (48 + a) (48 + b) (48 + c), "?="].foldl (· ++ ·) Str.empty) = u5 (48 + a) (48 + b) (48 + c) by rfl'] at e
  exact e
 rw [show heB = [aa heB 0, .Assign [.Name "encoded" (aw (aa heB 1)).pos] heT (aa heB 1).pos, .Return (some (af (aa heB 2))) (aa heB 2).pos] by rfl']
 exact .next i0 (.next (.name i2 (aO ⋯)) (.ret (.ret i3)))
theorem zP (v u : Value) : bindArgs (ay pM) ⟨[v, u], []⟩ = .load (nat_lit 217) none (gg (bindArgs (ay pM) ⟨[v, u], []⟩)) := ⋯
theorem xb (v u : Value) : gg (bindArgs (ay pM) ⟨[v, u], []⟩) Ci = pure ([("header_bytes", v), ("charset", u)] : Lw) := ⋯
theorem yk (hd : uf a b c) (ha : Dg a) (hb : Dg b) (hc : Dg c) : rD (DD w) (n + 1) "header_encode" [.byt (b3 a b c).toArray, .str "x"] (.str (u5 (48 + a) (48 + b) (48 + c))) := fun {_ s _ _ _ _} hA hst hdm hmb hbs e rv => by
 cases e.symm.trans (show (DD w).gl "header_encode" = some (.ref (nat_lit 224)) by rfl')
 refine ⟨.inr ⟨nat_lit 224, pM, ay pM, rfl, hst _ _ (by decide) ⋯, by rfl'⟩, ?_⟩
 obtain ⟨v, u, rfl, r1, r2⟩ := rv.two
 exact qZ (ag := ⟨[v, u], []⟩) zk hA hst hdm hmb hbs (ps := ["header_bytes", "charset"]) (xs := [.byt (b3 a b c).toArray, .str "x"]) (fun E' => ik (zP v u) (hst _ _ (by decide) ⋯) (by rw [xb]; exact Wq ⟨A6' _, Kp.refl' s, [v, u], rfl, rfl, .cons r1 (.cons r2 .nil)⟩)) (aV ⋯) (g9 (vq hd ha hb hc).h)
end
end
section
noncomputable def lZ {α : Type} (l l' : List (Str × α)) : Prop := ∀ x v, lk l x = some v → lk l' x = some v
theorem lZ.nil {α : Type} {l : List (Str × α)} : lZ [] l := fun z z e => nomatch e
set_option tactic.hygienic true in
theorem lZ.cons {α : Type} {l l' : List (Str × α)} {k : Str} {v : α} (h : lk l' k = some v) (r : lZ l l') : lZ ((k, v) :: l) l' := fun x u e => by
 unfold lk at e
 split at e
 ·rename_i q
  cases e
  rw [aN.mp q]; exact h
 ·exact r x u e
section
variable {D : Std} {n : Nat} {M F W : Ap} {env : Env} {ea e1 : ao} {s : Shared} {l c : Lv} {m : List (Str × MV)}
theorem Rel.sub (R : Rel D M F W env ea s) (h1 : lZ l ea.loc) (h2 : lZ c ea.cel) (h3 : lZ m ea.mo) : Rel D M F W env { ea with loc := l, cel := c, mo := m } s := by
 obtain ⟨mm, hm, hl, hu⟩ := R.loc
 exact { R with loc := ⟨mm, hm, fun x v e => hl x v (h1 x v e), fun x v e => hu x v (h3 x v e)⟩, cel := fun x v e => R.cel x v (h2 x v e) }
end
section
variable {w : World} {n : Nat}
theorem vE {rows : Ls} {x y : Str} {v : V} (hx : Low x) (hc : bu true (Txt.lower x)) (hr : ∀ p ∈ rows, Low p.1) (h : hget rows (Txt.lower x) = some y) : dF (DD w) (n + 1 + 1) (roE eF (ak rows) [("name", .str x), ("value", v)]) (av (ay eF)) (.ret (roE eF (ak rows) [("name", .str x), ("value", v), ("result", .str y)]) (.str y)) := by
 refine a7 (bA (bx (mv := .hdr (ak rows)) ?_ ?_ ?_ ?_ (ai (ah (v := .str x) ?_ ?_ ?_) al) (iJ hx hc hr h)) (aO (ea' := roE eF (ak rows) [("name", .str x), ("value", v), ("result", .str y)]) ?_))
  (bR (fi (v := .bool false) (c := false) (bo (a := .str y) (ah ?_ ?_ ?_) fM iU) aR (bR (dm (ah ?_ ?_ ?_)))))
 all_goals first | kernel_rfl! | decide
theorem yo {rows : Ls} {x y v : Str} (hx : Low x) (hc : bu true (Txt.lower x)) (hr : ∀ p ∈ rows, Low p.1) (h : hget rows (Txt.lower x) = some y) : qM (DD w) (n + 1 + 1 + 1) "setdefault" (.hdr (ak rows)) [.str x, .str v] (.str y) := by
 intro M s A E a l pl
 refine (qp (w := w) (n := n + 1 + 1) (mv := ak rows) (r := .str y) (ea := roE eF (ak rows) [("name", .str x), ("value", .str v)]) (ea' := roE eF (ak rows) [("name", .str x), ("value", .str v), ("result", .str y)]) (m := "setdefault") (f := nat_lit 165) (fo := eF) (p := "self") (ps := ["name", "value"]) (xs := [.str x, .str v]) (ds := []) (ag := fun a us => ⟨a :: us, []⟩) (dv := []) oq (by decide +kernel) ⋯ ⋯ ⋯ (fun z z => ⟨rfl, rfl⟩) rfl .nil ?_ (aV ⋯) (vE hx hc hr h))
 clear M s A E a l pl
 intro s A E' a us st hus
 obtain ⟨u, v, rfl⟩ := lI hus
 rw [qk a [u, v] rfl]
 exact Wq ⟨rfl, rfl⟩
end
noncomputable def EC (g : G) (t : List Row) (pl : Bool) (cd rows : Ls) (L C : Lv) : ao :=
 EZ g t (("eighth", .flt 0x3FC0000000000000) :: ("coded", .list (ak cd)) :: ("plain", .bool pl) :: L) C [("colours", .hdr (ak rows))]
noncomputable def oth (b i : Nat) : Nat := (abc.filter fun x => !(x == b)).getD i 97
theorem gz {b i : Nat} (hb : Lo b) (hi : i < 4) : Lo (oth b i) := by
 have : i = 0 ∨ i = 1 ∨ i = 2 ∨ i = 3 := by lia
 rcases this with rfl | rfl | rfl | rfl <;> rcases dr hb with rfl | rfl | rfl | rfl | rfl <;> exact ⟨by decide, by decide⟩
noncomputable def wL (b : Nat) : Lv := [("w", .str (one (oth b 0))), ("x", .str (one (oth b 1))), ("y", .str (one (oth b 2))), ("z", .str (one (oth b 3)))]
noncomputable def bC (b : Nat) : Lv := [("lone", .str (one b))]
noncomputable def jv : Expr := af (aa b20 1)
noncomputable def swV (p q r s : Nat) : V := .tup [.str (one p), .str (one q), .str (one r), .str (one s)]
section
variable {w : World} {n : Nat} {g : G} {t : List Row} {pl : Bool} {cd rows : Ls} {b : Nat} {dd : P2 → Nat}
theorem zd (hb : Lo b) : Sx (DD w) n (EC g t pl cd rows [] (bC b)) (aa b20 0) (.next (EC g t pl cd rows (wL b) (bC b))) := by
 rcases dr hb with rfl | rfl | rfl | rfl | rfl <;> exact eO (T := TB w n) (X := FB w n) (ke := 9) (k := 3) ⋯
noncomputable def jZ (ea : ao) (o : Option (Nat × Nat × Nat × Nat)) : ao := { cenvOf ea (cSc jv) with loc := match o with | none => [] | some (p, q, r, s) => [("p", .str (one p)), ("q", .str (one q)), ("r", .str (one r)), ("s", .str (one s))] }
theorem uW : jv = .ListComp (a5 jv) [⟨cG jv, cIt jv, [], 0⟩] (cSc jv) jv.pos := ⋯
theorem iw {m k : Nat} : (bp m ++ bp k).length = m + k := by
 show (Array.size _ : Nat) = _
 show (List.toArray (List.replicate m 46) ++ List.toArray (List.replicate k 46)).size = _
 rw [Array.size_append, List.size_toArray, List.size_toArray, List.length_replicate, List.length_replicate]
noncomputable def fL (t : List Row) (dd : P2 → Nat) : Prop := ∀ p, Los p → cc (t.map kg) (am p) = some (.str (bp (dd p))) ∧ dd p < 100
noncomputable def lnA : Expr := aj 0 (a5 jv)
theorem kE {ea : ao} (he : ea = EC g t pl cd rows (wL b) (bC b)) (hd : fL t dd) {p q r s : Nat} (hp : Lo p) (hq : Lo q) (hr : Lo r) (hs : Lo s) : Ev (DD w) n (jZ ea (some (p, q, r, s))) (a5 jv) (.int ((dd (p, q) + dd (r, s) : Nat) : Int)) := by
 subst he
 obtain ⟨l1, z1⟩ := hd (p, q) ⟨hp, hq⟩
 obtain ⟨l2, z2⟩ := hd (r, s) ⟨hr, hs⟩
 have k1 : Ev (DD w) n (jZ (EC g t pl cd rows (wL b) (bC b)) (some (p, q, r, s))) (sIx (aj 0 lnA)) (.str (am (p, q))) := aF (T := TB w n) (k := 5) ⋯
 have k2 : Ev (DD w) n (jZ (EC g t pl cd rows (wL b) (bC b)) (some (p, q, r, s))) (sIx (aj 1 lnA)) (.str (am (r, s))) := aF (T := TB w n) (k := 5) ⋯
 have i1 : Ev (DD w) n (jZ (EC g t pl cd rows (wL b) (bC b)) (some (p, q, r, s))) (aj 0 lnA) (.str (bp (dd (p, q)))) := by
  rw [show aj 0 lnA = .Subscript (.Name "dots" (sOb (aj 0 lnA)).pos) (sIx (aj 0 lnA)) (aj 0 lnA).pos by rfl']
  exact d6 (aD (v := ki t) ⋯ ⋯ ⋯) k1 (ck l1)
 have i2 : Ev (DD w) n (jZ (EC g t pl cd rows (wL b) (bC b)) (some (p, q, r, s))) (aj 1 lnA) (.str (bp (dd (r, s)))) := by
  rw [show aj 1 lnA = .Subscript (.Name "dots" (sOb (aj 1 lnA)).pos) (sIx (aj 1 lnA)) (aj 1 lnA).pos by rfl']
  exact d6 (aD (v := ki t) ⋯ ⋯ ⋯) k2 (ck l2)
 have hz : (bp (dd (p, q))).length + (bp (dd (r, s))).length ≤ 10000 := by
  rw [← strLen_append, iw]; lia
 rw [show a5 jv = .Call (.Name "len" (dZ (a5 jv)).pos) [.BinOp (aj 0 lnA) .Add (aj 1 lnA) lnA.pos] [] (a5 jv).pos by rfl']
 have := ct (fv := .builtin "len") (f := "len") (p := (dZ (a5 jv)).pos) (pos := (a5 jv).pos) (a := .BinOp (aj 0 lnA) .Add (aj 1 lnA) lnA.pos) ⋯ ⋯ ⋯ (ai (eh i1 i2 (fz hz)) al) (gm.cf (n := n) (xX (by rw [iw]; lia)) ⋯)
 rw [iw] at this
 exact this
noncomputable def sA (dd : P2 → Nat) (b : Nat) : Nat := dd (oth b 0, oth b 1) + dd (oth b 2, oth b 3)
noncomputable def sB (dd : P2 → Nat) (b : Nat) : Nat := dd (oth b 0, oth b 2) + dd (oth b 1, oth b 3)
noncomputable def sC (dd : P2 → Nat) (b : Nat) : Nat := dd (oth b 0, oth b 3) + dd (oth b 1, oth b 2)
noncomputable def smV (a b c : Nat) : V := .list [.int (a : Nat), .int (b : Nat), .int (c : Nat)]
noncomputable def wsL (b a1 a2 a3 : Nat) (r : Lv) : Lv := ("w", .str (one (oth b 0))) :: ("x", .str (one (oth b 1))) :: ("y", .str (one (oth b 2))) :: ("z", .str (one (oth b 3))) :: ("sums", smV a1 a2 a3) :: r
theorem zy (hb : Lo b) (hd : fL t dd) : Sx (DD w) n (EC g t pl cd rows (wL b) (bC b)) (aa b20 1) (.next (EC g t pl cd rows (wsL b (sA dd b) (sB dd b) (sC dd b) []) (bC b))) := by
 have l0 := gz hb (i := 0) (by decide)
 have l1 := gz hb (i := 1) (by decide)
 have l2 := gz hb (i := 2) (by decide)
 have l3 := gz hb (i := 3) (by decide)
 have key : ∀ o p q r s, bw (DD w) (jZ (EC g t pl cd rows (wL b) (bC b)) o) (cG jv) (swV p q r s) (jZ (EC g t pl cd rows (wL b) (bC b)) (some (p, q, r, s))) := fun o p q r s => by
  cases o <;> exact aI ⋯
 have i1 : Ev (DD w) n (EC g t pl cd rows (wL b) (bC b)) jv (smV (sA dd b) (sB dd b) (sC dd b)) := by
  rw [uW]
  refine pe (xs := [swV (oth b 0) (oth b 1) (oth b 2) (oth b 3), swV (oth b 0) (oth b 2) (oth b 1) (oth b 3), swV (oth b 0) (oth b 3) (oth b 1) (oth b 2)]) ⋯ ?_ (show 3 ≤ 100000 by decide) (.take (key none _ _ _ _) aE (kE rfl hd l0 l1 l2 l3) (.take (key _ _ _ _ _) aE (kE rfl hd l0 l2 l1 l3) (.take (key _ _ _ _ _) aE (kE rfl hd l0 l3 l1 l2) .nil)))
  exact fg (T := TB w n) (k := 5) ⋯
 rw [show aa b20 1 = .Assign [.Name "sums" (aw (aa b20 1)).pos] jv (aa b20 1).pos by rfl']
 exact .name i1 (aO ⋯)
end
end
section
abbrev T3 := Nat × Nat × Nat
noncomputable def tri : List T3 := (2,2,2) :: (2,2,3) :: (2,2,4) :: (2,3,2) :: (2,3,3) :: (2,3,4) :: (2,4,2) :: (2,4,3) :: (2,4,4) :: (2,5,5) :: (2,6,6) :: (3,2,2) :: (3,2,3) :: (3,2,4) :: (3,3,2) :: (3,3,3) :: (3,3,4) :: (3,3,5) :: (3,4,2) :: (3,4,3) :: (3,4,4) :: (3,5,3) :: (3,5,5) :: (4,2,2) :: (4,2,3) :: (4,2,4) :: (4,3,2) :: (4,3,3) :: (4,3,4) :: (4,4,2) :: (4,4,3) :: (4,4,4) :: (5,2,5) :: (5,3,3) :: (5,3,5) :: (5,5,2) :: (5,5,3) :: (6,2,6) :: (6,6,2) :: []
theorem x9 {x : T3} (h : x ∈ tri) : Dg x.1 ∧ Dg x.2.1 ∧ Dg x.2.2 := by
 have key : ∀ x ∈ tri, (2 ≤ x.1 ∧ x.1 ≤ 6) ∧ (2 ≤ x.2.1 ∧ x.2.1 ≤ 6) ∧ (2 ≤ x.2.2 ∧ x.2.2 ≤ 6) := by decide
 exact key x h
inductive a9 {α : Type} (f g : T3 → α) : List T3 → Prop
 | nil : a9 f g []
 | cons {x : T3} {xs : List T3} : f x = g x → a9 f g xs → a9 f g (x :: xs)
theorem a9.at {α : Type} {f g : T3 → α} {l : List T3} (h : a9 f g l) : ∀ {x : T3}, x ∈ l → f x = g x := by
 induction h with
 | nil => exact fun h => nomatch h
 | cons a _ ih =>
  intro x hx
  rcases C2' hx with rfl | hx
  ·exact a
  ·exact ih hx
noncomputable def f4 (x : T3) : Str := s3 x.1 x.2.1 x.2.2
noncomputable def cwS (x : T3) : Str := ⟨#[61, 63, 120, 63, 113, 63, 61, 49, 48 + x.1, 61, 49, 48 + x.2.1, 61, 49, 48 + x.2.2, 63, 61, 9]⟩
theorem gv {x : T3} (h : x ∈ tri) : eL false (f4 x) := a9.at (f := fun x => (c8 (nat_lit 4000) (dj (cs false) (f4 x))).any Option.isSome) (g := fun z => true) (by unfold tri; (repeat (refine a9.cons ?_ ?_; rfl')); exact a9.nil) h
theorem mz {x : T3} (h : x ∈ tri) : bu false (cwS x) := a9.at (f := fun x => c8 (nat_lit 4000) (dj (cs false) (cwS x))) (g := fun z => some none) (by unfold tri; (repeat (refine a9.cons ?_ ?_; rfl')); exact a9.nil) h
theorem jc {x : T3} : JoinOk "; " [cwS x] = true ∧ Txt.join "; " [cwS x] = cwS x := ⟨by rfl', by rfl'⟩
noncomputable def x4 (b : Nat) : Str := ⟨#[b, 9]⟩
theorem jh {b : Nat} (h : Lo b) : Low (x4 b) ∧ eL true (Txt.lower (x4 b)) := by
 rcases dr h with rfl | rfl | rfl | rfl | rfl <;> exact ⟨(by rfl' : iO _ = true), (by rfl' : Option.any _ _ = true)⟩
noncomputable def cB (b : Nat) (x : T3) (r : Lv) : Lv := wsL b x.1 x.2.1 x.2.2 (("bare", .str (f4 x)) :: r)
noncomputable def noV : V := .list [.str gQ, .str gQ, .str gQ]
section
variable {w : World} {n : Nat} {g : G} {t : List Row} {pl : Bool} {cd rows : Ls} {b : Nat} {x : T3}
noncomputable def Dt (w : World) (n : Nat) (ea : ao) : Option Out := (m4 (TB w n) (FB w n) (evD (TB w n) 9) (exD (TB w n) (FB w n) 9 3) ea (aa b20 2)).map (·.1)
theorem yG : a9 (fun x => Dt w n (EC g t pl cd rows (wsL b x.1 x.2.1 x.2.2 []) (bC b))) (fun x => some (.next (EC g t pl cd rows (cB b x []) (bC b)))) tri := by unfold tri; (repeat (refine a9.cons ?_ ?_; rfl')); exact a9.nil
theorem Br (h : x ∈ tri) : Sx (DD w) n (EC g t pl cd rows (wsL b x.1 x.2.1 x.2.2 []) (bC b)) (aa b20 2) (.next (EC g t pl cd rows (cB b x []) (bC b))) :=
 eO (T := TB w n) (X := FB w n) (ke := 9) (k := 3) (yG.at h)
noncomputable def cW : Expr := af (aa b20 3)
noncomputable def ew (k : Nat) (e : Expr) : Expr := aj k e
theorem Au (hb : Lo b) (h : x ∈ tri) (hr : ∀ p ∈ rows, Low p.1) (hn : hget rows (one b) = none) : StF (DD w) (n + 1 + 1 + 1 + 1) (EC g t pl cd rows (cB b x []) (bC b)) (aa b20 3) (.next (EC g t pl cd rows (cB b x [("words", noV)]) (bC b))) := by
 have lo : Txt.lower (one b) = one b := dL hb false
 have q1 : pK w n "setdefault" (ak rows) (.str (one b)) (.str (f4 x)) := by
  have := @uw w n rows (one b) (f4 x) (wq hb false) (by rw [lo]; exact dM hb false true) hr (by rw [lo]; exact hn) (dM hb false true) (gv h)
  exact @this
 have q2 : pK w n "add_header" (ak rows) (.str (one b)) (.str (f4 x)) := by
  have := @xN w n (ak rows) (one b) (f4 x) (gv h)
  exact @this
 have q3 : pK w n "setdefault" (ak rows) (.str (x4 b)) (.str (one b)) := by
  have := @td w n (ak rows) (x4 b) (.str (one b)) (jh hb).1 (jh hb).2
  exact @this
 have v1 : Ev (DD w) (n + 1 + 1 + 1 + 1) (EC g t pl cd rows (cB b x []) (bC b)) (aj 1 (ew 0 cW)) (.bool true) := aF (T := TB w _) (k := 5) ⋯
 have v2 : Ev (DD w) (n + 1 + 1 + 1 + 1) (EC g t pl cd rows (cB b x []) (bC b)) (aj 2 (ew 0 cW)) (.str (one b)) := aF (T := TB w _) (k := 5) ⋯
 have v3 : Ev (DD w) (n + 1 + 1 + 1 + 1) (EC g t pl cd rows (cB b x []) (bC b)) (aj 3 (ew 0 cW)) (.str (f4 x)) := aF (T := TB w _) (k := 5) ⋯
 have v4 : Ev (DD w) (n + 1 + 1 + 1 + 1) (EC g t pl cd rows (cB b x []) (bC b)) (aj 1 (ew 1 cW)) (.bool false) := aF (T := TB w _) (k := 5) ⋯
 have v5 : Ev (DD w) (n + 1 + 1 + 1 + 1) (EC g t pl cd rows (cB b x []) (bC b)) (aj 2 (ew 1 cW)) (.str (one b)) := aF (T := TB w _) (k := 5) ⋯
 have v6 : Ev (DD w) (n + 1 + 1 + 1 + 1) (EC g t pl cd rows (cB b x []) (bC b)) (aj 3 (ew 1 cW)) (.str (f4 x)) := aF (T := TB w _) (k := 5) ⋯
 have v7 : Ev (DD w) (n + 1 + 1 + 1 + 1) (EC g t pl cd rows (cB b x []) (bC b)) (aj 1 (ew 2 cW)) (.bool true) := aF (T := TB w _) (k := 5) ⋯
 have v8 : Ev (DD w) (n + 1 + 1 + 1 + 1) (EC g t pl cd rows (cB b x []) (bC b)) (aj 2 (ew 2 cW)) (.str (x4 b)) := aF (T := TB w _) (k := 5) ⋯
 have v9 : Ev (DD w) (n + 1 + 1 + 1 + 1) (EC g t pl cd rows (cB b x []) (bC b)) (aj 3 (ew 2 cW)) (.str (one b)) := aF (T := TB w _) (k := 5) ⋯
 rw [show aa b20 3 = .Assign [.Name "words" (aw (aa b20 3)).pos] (.List [.Call (.Name "_law_refused" (dZ (ew 0 cW)).pos) [.Name "colours" (aj 0 (ew 0 cW)).pos, aj 1 (ew 0 cW), aj 2 (ew 0 cW), aj 3 (ew 0 cW)] [] (ew 0 cW).pos, .Call (.Name "_law_refused" (dZ (ew 1 cW)).pos) [.Name "colours" (aj 0 (ew 1 cW)).pos, aj 1 (ew 1 cW), aj 2 (ew 1 cW), aj 3 (ew 1 cW)] [] (ew 1 cW).pos, .Call (.Name "_law_refused" (dZ (ew 2 cW)).pos) [.Name "colours" (aj 0 (ew 2 cW)).pos, aj 1 (ew 2 cW), aj 2 (ew 2 cW), aj 3 (ew 2 cW)] [] (ew 2 cW).pos] cW.pos) (aa b20 3).pos by rfl']
 intro M F W env s A E
 refine nE (z1 := gQ) (z2 := gQ) (z3 := gQ) (fO (rows := ak rows) (b := true) ?_ ?_ ?_ (ai v1 (ai v2 (ai v3 al))) @q1) (fO (rows := ak rows) (b := false) ?_ ?_ ?_ (ai v4 (ai v5 (ai v6 al))) @q2) (fO (rows := ak rows) (b := true) ?_ ?_ ?_ (ai v7 (ai v8 (ai v9 al))) @q3) (fun z => rfl) (aO ?_)
 all_goals rfl'
theorem zM : Sx (DD w) n (EC g t pl cd rows (cB b x [("words", noV)]) (bC b)) (aa b20 4) (.next (EC g t pl cd rows (cB b x [("words", noV)]) (bC b))) := eO (T := TB w n) (X := FB w n) (ke := 9) (k := 3) ⋯
end
end
section
theorem vR {x : T3} (h : x ∈ tri) : SOk (cwS x) := a9.at (f := fun x => (cwS x).cps.all fun c => decide (c < 1114112)) (g := fun z => true) (by unfold tri; (repeat (refine a9.cons ?_ ?_; rfl')); exact a9.nil) h
open PySem.Builtin in
theorem vF {x : T3} (h : x ∈ tri) : uf x.1 x.2.1 x.2.2 := fun id =>
 a9.at (f := fun x => _codecs.runDecoder id _codecs.latin1Decoder none true (b3 x.1 x.2.1 x.2.2).toArray 0 []) (g := fun x => pure ((s3 x.1 x.2.1 x.2.2).cps, 3)) (by unfold tri; (repeat (refine a9.cons ?_ ?_; rfl')); exact a9.nil) h
noncomputable def kR (k : Nat × T3) : Str × Str := (one k.1, cwS k.2)
noncomputable def sL (ks : List (Nat × T3)) : Prop := ∀ k ∈ ks, Lo k.1 ∧ k.2 ∈ tri
theorem sP {ks : List (Nat × T3)} (h : sL ks) : ∀ p ∈ ks.map kR, Low p.1 := fun p hp => by
 obtain ⟨k, hk, rfl⟩ := C5' hp
 exact wq (h k hk).1 false
theorem sK {b : Nat} (hb : Lo b) : ∀ {ks : List (Nat × T3)}, sL ks → b ∉ ks.map (·.1) → hget (ks.map kR) (one b) = none
 | [], _, _ => rfl
 | k :: ks, h, hn => by
  have h1 := (h k (.head _)).1
  show (match Txt.lower (one k.1) == one b with | true => _ | false => _) = _
  rw [show Txt.lower (one k.1) = one k.1 from dL h1 false]
  have e : (one k.1 == one b) = false := beq_eq_false_iff_ne.mpr fun e => hn (by rw [← kK e]; exact .head _)
  rw [e]
  exact sK hb (fun q hq => h q (.tail _ hq)) fun q => hn (.tail _ q)
theorem sd {b : Nat} {x : T3} (hb : Lo b) : ∀ {ks : List (Nat × T3)}, sL ks → b ∉ ks.map (·.1) → hget ((ks ++ [(b, x)]).map kR) (one b) = some (cwS x)
 | [], _, _ => by
  show (match Txt.lower (one b) == one b with | true => _ | false => _) = _
  rw [show Txt.lower (one b) = one b from dL hb false, beq_self_eq_true]; rfl
 | k :: ks, h, hn => by
  have h1 := (h k (.head _)).1
  show (match Txt.lower (one k.1) == one b with | true => _ | false => _) = _
  rw [show Txt.lower (one k.1) = one k.1 from dL h1 false]
  have e : (one k.1 == one b) = false := beq_eq_false_iff_ne.mpr fun e => hn (by rw [← kK e]; exact .head _)
  rw [e]
  exact sd hb (fun q hq => h q (.tail _ hq)) fun q => hn (.tail _ q)
theorem AW {prog : Program} {w : World} {ks : List (Nat × T3)} (h : sL ks) : eP prog w 8 (.list (ak (ks.map kR))) (.list ((ks.map kR).map uU)) := by
 refine bQ (n := 7) (bP fun x hx => ?_)
 obtain ⟨k, hk, rfl⟩ := C5' hx
 exact o8 (n := 6) (fK (h k hk).1) (vR (h k hk).2)
noncomputable def eAd : Expr := af (aa b20 5)
noncomputable def eAc : Expr := aj 0 (aj 1 eAd)
noncomputable def cD (b : Nat) (x : T3) : Lv := cB b x [("words", noV)]
noncomputable def wC (b : Nat) (x : T3) : Lv := [("lone", .str (one b)), ("word", .str (cwS x))]
section
variable {w : World} {n : Nat} {g : G} {t : List Row} {pl : Bool} {cd rows : Ls} {b : Nat} {x : T3}
noncomputable def DV (w : World) (n : Nat) (ea : ao) : Option V := (evD (TB w n) 9 ea (aj 0 eAc)).map (·.1)
theorem w8 : a9 (fun x => DV w n (EC g t pl cd rows (cD b x) (bC b))) (fun x => some (.byt (b3 x.1 x.2.1 x.2.2).toArray)) tri := by unfold tri; (repeat (refine a9.cons ?_ ?_; rfl')); exact a9.nil
theorem zc (hb : Lo b) (h : x ∈ tri) (hn : rows.length ≤ 1000) : Sx (DD w) (n + 1 + 1) (EC g t pl cd rows (cD b x) (bC b)) (aa b20 5) (.next (EC g t pl cd (rows ++ [(one b, cwS x)]) (cD b x) (bC b))) := by
 obtain ⟨d1, d2, d3⟩ := x9 h
 have i0 : Ev (DD w) (n + 1 + 1) (EC g t pl cd rows (cD b x) (bC b)) (aj 0 eAc) (.byt (b3 x.1 x.2.1 x.2.2).toArray) := aF (T := TB w _) (k := 9) (w8.at h)
 have i1 : Ev (DD w) (n + 1 + 1) (EC g t pl cd rows (cD b x) (bC b)) (aj 1 eAc) (.str "x") := aF (T := TB w _) (k := 5) ⋯
 have i2 : Ev (DD w) (n + 1 + 1) (EC g t pl cd rows (cD b x) (bC b)) (aj 1 (aj 1 eAd)) (.str "\t") := aF (T := TB w _) (k := 5) ⋯
 have i3 : Ev (DD w) (n + 1 + 1) (EC g t pl cd rows (cD b x) (bC b)) (aj 0 eAd) (.str (one b)) := aF (T := TB w _) (k := 5) ⋯
 have i4 : Ev (DD w) (n + 1 + 1) (EC g t pl cd rows (cD b x) (bC b)) eAc (.str (u5 (48 + x.1) (48 + x.2.1) (48 + x.2.2))) := by
  rw [show eAc = .Call (.Name "header_encode" (dZ eAc).pos) [aj 0 eAc, aj 1 eAc] [] eAc.pos by rfl']
  exact ct (fv := .ref (nat_lit 224)) ⋯ ⋯ ⋯ (ai i0 (ai i1 al)) (yk (vF h) d1 d2 d3)
 have i5 : Ev (DD w) (n + 1 + 1) (EC g t pl cd rows (cD b x) (bC b)) (aj 1 eAd) (.str (cwS x)) := by
  rw [show aj 1 eAd = .BinOp eAc .Add (aj 1 (aj 1 eAd)) (aj 1 eAd).pos by rfl']
  have hz : (u5 (48 + x.1) (48 + x.2.1) (48 + x.2.2)).length + ("\t" : Str).length ≤ 10000 := show 17 + 1 ≤ 10000 by decide
  have q := eh (p := (aj 1 eAd).pos) i4 i2 (fz hz)
  rw [show u5 (48 + x.1) (48 + x.2.1) (48 + x.2.2) ++ ("\t" : Str) = cwS x by rfl'] at q
  exact q
 rw [show aa b20 5 = .Expr (.Call (.Attribute (.Name "colours" (bS eAd).pos) "add_header" (dZ eAd).pos) [aj 0 eAd, aj 1 eAd] [] eAd.pos) (aa b20 5).pos by rfl']
 have hz : (ak rows).length ≤ 10000 := by rw [bk]; exact A1' ‹_› (by decide)
 exact .fxexpr (dU (mv := .hdr (ak rows)) ⋯ ⋯ ⋯ ⋯ (by decide) (ai i3 (ai i5 al)) (pd (dM hb false true) (mz h) hz jc.1 jc.2))
noncomputable def CP (w : World) (n : Nat) (ea : ao) : Option Out := (m4 (TB w n) (FB w n) (evD (TB w n) 12) (exD (TB w n) (FB w n) 12 3) ea (aa b20 6)).map (·.1)
theorem xh : a9 (fun x => CP w n (EC g t pl cd rows (cD b x) (bC b))) (fun x => some (.next (EC g t pl cd rows (cD b x) (wC b x)))) tri := by unfold tri; (repeat (refine a9.cons ?_ ?_; rfl')); exact a9.nil
theorem BM (h : x ∈ tri) : Sx (DD w) n (EC g t pl cd rows (cD b x) (bC b)) (aa b20 6) (.next (EC g t pl cd rows (cD b x) (wC b x))) := eO (T := TB w n) (X := FB w n) (ke := 12) (k := 3) (xh.at h)
theorem zG (hn : cd.length ≤ 1000) : Sx (DD w) n (EC g t pl cd rows (cD b x) (wC b x)) (aa b20 7) (.next (EC g t pl (cd ++ [(one b, cwS x)]) rows (cD b x) (wC b x))) := by
 have hz : (ak cd).length + [fD (one b, cwS x)].length ≤ 10000 := by rw [bk]; show _ + 1 ≤ _; exact B4' ‹_› (by decide)
 have i1 : Ev (DD w) n (EC g t pl cd rows (cD b x) (wC b x)) (aj 1 (af (aa b20 7))) (.list [fD (one b, cwS x)]) := aF (T := TB w _) (k := 5) ⋯
 have i2 : Ev (DD w) n (EC g t pl cd rows (cD b x) (wC b x)) (aj 0 (af (aa b20 7))) (.list (ak cd)) := aF (T := TB w _) (k := 5) ⋯
 have q := eh (p := (af (aa b20 7)).pos) i2 i1 (cQ hz)
 rw [← show ak (cd ++ [(one b, cwS x)]) = ak cd ++ [fD (one b, cwS x)] from List.map_append] at q
 rw [show aa b20 7 = .Assign [.Name "coded" (aw (aa b20 7)).pos] (.BinOp (aj 0 (af (aa b20 7))) .Add (aj 1 (af (aa b20 7))) (af (aa b20 7)).pos) (aa b20 7).pos by rfl']
 exact .name q (aO ⋯)
noncomputable def cV8 : Expr := af (aa b20 8)
noncomputable def gtA (k : Nat) : Expr := ew k (aj 0 (bv 0 cV8))
theorem yH {b : Nat} (hb : Lo b) : Low (one (lt true b)) ∧ Txt.lower (one (lt true b)) = one b := ⟨wq hb true, dL hb true⟩
theorem zi {ks : List (Nat × T3)} (hb : Lo b) (h : x ∈ tri) (hk : sL ks) (hn : b ∉ ks.map (·.1)) (hl : ks.length ≤ 100) : Sx (DD w) (n + 1 + 1 + 1) (EC g t pl ((ks ++ [(b, x)]).map kR) ((ks ++ [(b, x)]).map kR) (cD b x) (wC b x)) (aa b20 8) (.next (EC g t pl ((ks ++ [(b, x)]).map kR) ((ks ++ [(b, x)]).map kR) (cD b x) (wC b x))) := by
 have hk2 : sL (ks ++ [(b, x)]) := fun k q => by
  rcases C3' q with q | q
  ·exact hk k q
  ·rw [C1' q]; exact ⟨hb, h⟩
 have hh := sd (x := x) hb hk hn
 have hr := sP hk2
 have hz : (ak ((ks ++ [(b, x)]).map kR)).length ≤ 100000 := by
  rw [bk, List.length_map, List.length_append]; show _ + 1 ≤ _; exact B4' ‹_› (by decide)
 generalize hE : (ks ++ [(b, x)]).map kR = rows at hh hr hz
 obtain ⟨u1, u2⟩ := yH hb
 have up : ∀ k, k = 0 ∨ k = 1 → Ev (DD w) (n + 1 + 1 + 1) (EC g t pl rows rows (cD b x) (wC b x)) (aj 0 (gtA k)) (.str (one (lt true b))) := fun k hk => by
  rw [← lP hb]
  have hf : iO (Txt.upper (one b)).length = true := by rw [lP hb]; exact (by rfl' : iO (one (lt true b)).length = true)
  rw [show aj 0 (gtA k) = .Call (.Attribute (.Name "lone" (bS (aj 0 (gtA k))).pos) "upper" (dZ (aj 0 (gtA k))).pos) [] [] (aj 0 (gtA k)).pos by rcases hk with rfl | rfl <;> rfl']
  exact br (v := .str (one b)) (aD ⋯ ⋯ ⋯) (by rcases hk with rfl | rfl <;> rfl') (by decide) al (eI hf)
 have v1 : Ev (DD w) (n + 1 + 1 + 1) (EC g t pl rows rows (cD b x) (wC b x)) (aj 1 (gtA 1)) (.str (f4 x)) := aF (T := TB w _) (k := 5) ⋯
 have g1 : Ev (DD w) (n + 1 + 1 + 1) (EC g t pl rows rows (cD b x) (wC b x)) (gtA 0) (.str (cwS x)) := by
  rw [show gtA 0 = .Call (.Attribute (.Name "colours" (bS (gtA 0)).pos) "get" (dZ (gtA 0)).pos) [aj 0 (gtA 0)] [] (gtA 0).pos by rfl']
  refine bx (mv := .hdr (ak rows)) ⋯ ⋯ ⋯ (by decide) (ai (up 0 (.inl rfl)) al) ?_
  have := @iJ w (n + 1) rows (one (lt true b)) (cwS x) u1 (by rw [u2]; exact dM hb false true) hr (by rw [u2]; exact hh)
  exact @this
 have g2 : Ev (DD w) (n + 1 + 1 + 1) (EC g t pl rows rows (cD b x) (wC b x)) (gtA 1) (.str (cwS x)) := by
  rw [show gtA 1 = .Call (.Attribute (.Name "colours" (bS (gtA 1)).pos) "setdefault" (dZ (gtA 1)).pos) [aj 0 (gtA 1), aj 1 (gtA 1)] [] (gtA 1).pos by rfl']
  refine bx (mv := .hdr (ak rows)) ⋯ ⋯ ⋯ (by decide) (ai (up 1 (.inr rfl)) (ai v1 al)) ?_
  have := @yo w n rows (one (lt true b)) (cwS x) (f4 x) u1 (by rw [u2]; exact dM hb false true) hr (by rw [u2]; exact hh)
  exact @this
 have p1 : eP (DD w).prog (DD w).w 8 (.list [.str (cwS x), .str (cwS x)]) (.list [.str (cwS x), .str (cwS x)]) := bQ (n := 7) (ba (aM (vR h)) (ba (aM (vR h)) ch))
 have c1 : a6 (DD w).prog (DD w).w .NotEq (.list [.str (cwS x), .str (cwS x)]) (.list [.str (cwS x), .str (cwS x)]) (!PyData.eqv (.list [.str (cwS x), .str (cwS x)]) (.list [.str (cwS x), .str (cwS x)])) := lO p1 p1
 rw [SeqAt.eqv_refl _ p1.1] at c1
 have v2 : Ev (DD w) (n + 1 + 1 + 1) (EC g t pl rows rows (cD b x) (wC b x)) (aj 1 (bv 0 cV8)) (.list [.str (cwS x), .str (cwS x)]) := aF (T := TB w _) (k := 5) ⋯
 have i1 : Ev (DD w) (n + 1 + 1 + 1) (EC g t pl rows rows (cD b x) (wC b x)) (bv 0 cV8) (.bool false) := by
  rw [show bv 0 cV8 = .Compare (.List [gtA 0, gtA 1] (aj 0 (bv 0 cV8)).pos) [.NotEq] [aj 1 (bv 0 cV8)] (bv 0 cV8).pos by rfl']
  exact bo (eW (by decide) (ai g1 (ai g2 al))) v2 c1
 have ro := AW (prog := (DD w).prog) (w := (DD w).w) hk2
 rw [hE] at ro
 have c2 : a6 (DD w).prog (DD w).w .NotEq (.list (ak rows)) (.list (ak rows)) (!PyData.eqv (.list (rows.map uU)) (.list (rows.map uU))) := lO ro ro
 rw [SeqAt.eqv_refl _ ro.1] at c2
 have i2 : Ev (DD w) (n + 1 + 1 + 1) (EC g t pl rows rows (cD b x) (wC b x)) (bv 1 cV8) (.bool false) := by
  rw [show bv 1 cV8 = .Compare (.Call (.Attribute (.Name "colours" (bS (aj 0 (bv 1 cV8))).pos) "items" (dZ (aj 0 (bv 1 cV8))).pos) [] [] (aj 0 (bv 1 cV8)).pos) [.NotEq] [.Name "coded" (aj 1 (bv 1 cV8)).pos] (bv 1 cV8).pos by rfl']
  exact bo (bx (mv := .hdr (ak rows)) ⋯ ⋯ ⋯ (by decide) al (iu hz)) (ah (v := .list (ak rows)) ⋯ ⋯ ⋯) c2
 rw [show aa b20 8 = .If (.BoolOp .Or [bv 0 cV8, bv 1 cV8] cV8.pos) (an (aa b20 8)) [] (aa b20 8).pos by rfl']
 exact .ife (rf i1 i2) aR .nil
end
end
section
noncomputable def yj {α : Type} (ks : List Str) (l : List (Str × α)) : List (Str × α) := ks.filterMap fun k => (lk l k).map fun v => (k, v)
theorem lN {α : Type} {l : List (Str × α)} : ∀ (ks : List Str), lZ (yj ks l) l := by
 intro v0'
 induction v0' with
 | nil =>
  exact  .nil
 | cons k ks ih' =>
  exact  by
   unfold yj
   rw [List.filterMap_cons]
   cases h : lk l k with
   | none => exact ih'
   | some v => exact .cons h (ih')
noncomputable def uL (e : ao) : ao := { e with loc := yj ["eighth", "coded", "plain"] e.loc, cel := yj ["script", "tied", "steps", "dots"] e.cel }
theorem Sx.fxtup {D : Std} {n : Nat} {ea e1 e2 : ao} {es : List Expr} {k : Nat} {p pos : Pos} {value : Expr} {v : V} (h : FxE D n ea value e1 v) (a : bw D e1 (.Tuple es k p) v e2) : Sx D n ea (.Assign [.Tuple es k p] value pos) (.next e2) := ⟨by exact sE h a⟩
noncomputable def rOf (x : T3) (i : Nat) : Int := match i with
 | 0 => (x.1 : Nat)
 | 1 => (x.2.1 : Nat)
 | _ => (x.2.2 : Nat)
noncomputable def qOf (x : T3) : T3 := match gR (fun i j => decide (-(rOf x i) < -(rOf x j))) 3 (kas_sort 3) with
 | some ⟨[a, b, c]⟩ => (a, b, c)
 | _ => (3, 3, 3)
theorem yB {x : T3} (h : x ∈ tri) : gR (fun i j => decide (-(rOf x i) < -(rOf x j))) 3 (kas_sort 3) = some #[(qOf x).1, (qOf x).2.1, (qOf x).2.2] :=
 a9.at (f := fun x => gR (fun i j => decide (-(rOf x i) < -(rOf x j))) 3 (kas_sort 3)) (g := fun x => some #[(qOf x).1, (qOf x).2.1, (qOf x).2.2]) (by unfold tri; (repeat (refine a9.cons ?_ ?_; rfl')); exact a9.nil) h
theorem Du {x : T3} (h : x ∈ tri) : (qOf x).1 < 3 ∧ (qOf x).2.1 < 3 ∧ (qOf x).2.2 < 3 := by
 have := a9.at (f := fun x => decide ((qOf x).1 < 3) && (decide ((qOf x).2.1 < 3) && decide ((qOf x).2.2 < 3))) (g := fun z => true) (by unfold tri; (repeat (refine a9.cons ?_ ?_; rfl')); exact a9.nil) h
 simp only [Bool.and_eq_true, decide_eq_true_eq] at this
 exact this
noncomputable def dC (b : Nat) (x : T3) : Lv := [("lone", .str (one b)), ("word", .str (cwS x)), ("read", rdV (rOf x))]
noncomputable def qL (b : Nat) (x : T3) : Lv := cB b x [("words", noV), ("top", .int ((qOf x).1 : Nat)), ("middle", .int ((qOf x).2.1 : Nat)), ("low", .int ((qOf x).2.2 : Nat))]
noncomputable def bn (x : T3) : Bool := (x.1 == x.2.1 && Nat.ble x.2.2 x.1) || ((x.1 == x.2.2 && Nat.ble x.2.1 x.1) || (x.2.1 == x.2.2 && Nat.ble x.1 x.2.1))
theorem nu (l r : List Stmt) (env : Env) : execs (l ++ r) env = (execs l env >>= fun f => match f with | .next => execs r env | f => pure f) := by
 induction l with
 | nil => exact (pure_bind _ _).symm
 | cons s l ih =>
  rw [List.cons_append, execs_cons, execs_cons, bind_assoc]
  refine congrArg _ (funext fun f => ?_)
  cases f <;> first | exact ih | exact (pure_bind _ _).symm
theorem Bx.app {D : Std} {n : Nat} {ea e1 : ao} {b r : List Stmt} {o : Out} (h : Bx D n ea b (.next e1)) (k : Bx D n e1 r o) : Bx D n ea (b ++ r) o := ⟨fun {M F W env s A E} hA R => by
 rw [nu]
 refine Wb (au (h.h hA R) fun f s₁ g => ?_)
 obtain ⟨rfl, z1, k1, R₁⟩ := g
 refine au (k.h hA R₁) fun f s₂ g => ?_
 cases o with
 | next e2 => exact ⟨g.1, A1' z1 g.2.1, k1.trans g.2.2.1, g.2.2.2⟩
 | ret e2 v => exact ⟨A1' z1 g.1, k1.trans g.2.1, g.2.2⟩⟩
structure yQ (e' e : ao) : Prop where
 nm : e'.names = e.names
 cw : e'.cw = e.cw
 mw : e'.mw = e.mw
 tw : e'.tw = e.tw
 loc : lZ e'.loc e.loc
 cel : lZ e'.cel e.cel
 mo : lZ e'.mo e.mo
theorem yQ.rel {D : Std} {M F W : Ap} {env : Env} {s : Shared} {e e' : ao} (h : yQ e' e) (R : Rel D M F W env e s) : Rel D M F W env e' s := by
 obtain ⟨n1, l1, c1, m1, a1, b1, t1⟩ := e
 obtain ⟨n2, l2, c2, m2, a2, b2, t2⟩ := e'
 obtain ⟨h1, h2, h3, h4, h5, h6, h7⟩ := h
 cases h1; cases h2; cases h3; cases h4
 exact R.sub h5 h6 h7
theorem Bx.nilS {D : Std} {n : Nat} {ea e1 : ao} (h : yQ e1 ea) : Bx D n ea [] (.next e1) := ⟨fun {_ _ _ _ s _ _} _ R => Wq ⟨rfl, A6' _, aq.refl s, h.rel R⟩⟩
section
variable {w : World} {n : Nat} {g : G} {t : List Row} {pl : Bool} {cd rows : Ls} {b : Nat} {x : T3}
noncomputable def Db (w : World) (n : Nat) (ea : ao) : Option Out := (exD (TC w n) (FB w (n + 1)) 14 4 ea [aa b20 9, aa b20 10]).map (·.1)
theorem yt : a9 (fun x => Db w n (EC g t pl cd rows (cD b x) (wC b x))) (fun x => some (.next (EC g t pl cd rows (cD b x) (dC b x)))) tri := by unfold tri; (repeat (refine a9.cons ?_ ?_; rfl')); exact a9.nil
theorem x8 (h : x ∈ tri) : Sx (DD w) (n + 1) (EC g t pl cd rows (cD b x) (dC b x)) (aa b20 11) (.next (EC g t pl cd rows (qL b x) (dC b x))) := by
 obtain ⟨h0, h1, h2⟩ := Du h
 rw [show aa b20 11 = .Assign [.Tuple [gh 0 (aw (aa b20 11)), gh 1 (aw (aa b20 11)), gh 2 (aw (aa b20 11))] (kOf (aw (aa b20 11))) (aw (aa b20 11)).pos] eSo (aa b20 11).pos by rfl']
 exact .fxtup (nZ (r := rOf x) (yB h) h0 h1 h2 rfl ⋯ ⋯ ⋯ ⋯) (aI ⋯)
noncomputable def blB : List Stmt := b20.drop 12
noncomputable def y7 (w : World) (n : Nat) (ea : ao) : Option (Out × Option V) := match exD (TC w n) (FB w (n + 1)) 14 4 ea (blB.take 8) with
 | some ⟨.next e, _⟩ => some (.next (uL e), (evD (TC w n) 14 e (bv 1 (af (aa b20 20)))).map (·.1))
 | _ => none
theorem tR {ea e' : ao} {v : V} (h : y7 w n ea = some (.next e', some v)) : ∃ e, dF (DD w) (n + 1) ea (blB.take 8) (.next e) ∧ uL e = e' ∧ Ev (DD w) (n + 1) e (bv 1 (af (aa b20 20))) v := by
 unfold y7 at h
 cases q : exD (TC w n) (FB w (n + 1)) 14 4 ea (blB.take 8) with
 | none => rw [q] at h; cases h
 | some o =>
  obtain ⟨o, ho⟩ := o
  cases o with
  | ret e v => rw [q] at h; cases h
  | next e =>
   rw [q] at h
   injection h with h
   injection h with h1 h2
   injection h1 with h1
   exact ⟨e, @ho, h1, aF h2⟩
theorem ib {e e' : ao} (h : uL e = e') {x : Str} {v : V} (q : lk e'.loc x = some v) : lk e.loc x = some v := by subst h; exact lN _ _ _ q
theorem BS (h : y7 w n (EC g t pl cd rows (qL b x) (dC b x)) = some (.next (EC g t pl cd rows [] []), some (.bool (bn x)))) : Bx (DD w) (n + 1) (EC g t pl cd rows (qL b x) (dC b x)) blB (.next (EC g t (pl && bn x) cd rows [] [])) := by
 obtain ⟨e, h1, h2, h3⟩ := tR h
 have hn : e.names = nmL := congrArg ao.names h2
 have hw := congrArg ao.cw h2
 have hw : e.cw = (EC g t pl cd rows [] []).cw := hw
 have hmw := congrArg ao.mw h2
 have hmw : e.mw = (EC g t pl cd rows [] []).mw := hmw
 have htw := congrArg ao.tw h2
 have htw : e.tw = (EC g t pl cd rows [] []).tw := htw
 have hc : yj ["script", "tied", "steps", "dots"] e.cel = (EC g t pl cd rows [] []).cel := congrArg ao.cel h2
 have hm := congrArg ao.mo h2
 have hm : e.mo = (EC g t pl cd rows [] []).mo := hm
 have i1 : Ev (DD w) (n + 1) e (.Name "plain" (bv 0 (af (aa b20 20))).pos) (.bool pl) := ah ⋯ (by rw [hn]; rfl') (ib h2 ⋯)
 have i2 := jA (p := (af (aa b20 20)).pos) i1 h3
 have s20 : Sx (DD w) (n + 1) e (aa b20 20) (.next { e with loc := up e.loc "plain" (.bool (pl && bn x)), cel := e.cel, mo := rm e.mo "plain" }) := by
  rw [show aa b20 20 = .Assign [.Name "plain" (aw (aa b20 20)).pos] (.BoolOp .And [.Name "plain" (bv 0 (af (aa b20 20))).pos, bv 1 (af (aa b20 20))] (af (aa b20 20)).pos) (aa b20 20).pos by rfl']
  exact .name i2 fun z z z z z z z z z R r h => dz R (by rw [hn]; rfl') r h
 rw [show blB = blB.take 8 ++ [aa b20 20] by rfl']
 refine .app ⟨@h1⟩ (.next s20 (.nilS ⟨hn.symm, hw.symm, hmw.symm, htw.symm, ?_, ?_, ?_⟩))
 ·have u1 : lk (up e.loc "plain" (.bool (pl && bn x))) "eighth" = some (.flt 0x3FC0000000000000) := by
   rw [iD, if_neg (by decide)]; exact ib h2 ⋯
  have u2 : lk (up e.loc "plain" (.bool (pl && bn x))) "coded" = some (.list (ak cd)) := by
   rw [iD, if_neg (by decide)]; exact ib h2 ⋯
  have u3 : lk (up e.loc "plain" (.bool (pl && bn x))) "plain" = some (.bool (pl && bn x)) := by rw [iD, if_pos rfl]
  exact .cons u1 (.cons u2 (.cons u3 .nil))
 ·show lZ (EC g t pl cd rows [] []).cel e.cel
  rw [← hc]; exact lN _
 ·show lZ (EC g t pl cd rows [] []).mo (rm e.mo "plain")
  rw [hm]
  exact .cons ⋯ .nil
end
end
section
section
variable {w : World} {n : Nat} {g : G} {t : List Row} {pl : Bool} {cd rows : Ls} {b : Nat} {x : T3}
theorem xS : a9 (fun x => y7 w n (EC g t pl cd rows (qL b x) (dC b x))) (fun x => some (.next (EC g t pl cd rows [] []), some (.bool (bn x)))) tri := by unfold tri; (repeat (refine a9.cons ?_ ?_; rfl')); exact a9.nil
end
end
section
section
variable {D : Std} {n : Nat} {ea e1 : ao}
structure SF1 (D : Std) (n : Nat) (ea : ao) (st : Stmt) (o : Out) : Prop where
 h : StF D n ea st o
structure Fx1 (D : Std) (n : Nat) (ea : ao) (b : List Stmt) (o : Out) : Prop where
 h : BlF D n ea b o
theorem Sx.f {st : Stmt} {o : Out} (h : Sx D n ea st o) : SF1 D n ea st o := ⟨fun hA z z R => h.h hA R⟩
theorem Bx.f {b : List Stmt} {o : Out} (h : Bx D n ea b o) : Fx1 D n ea b o := ⟨fun hA z z R => h.h hA R⟩
theorem Fx1.next {st : Stmt} {b : List Stmt} {o : Out} (a : SF1 D n ea st (.next e1)) (q : Fx1 D n e1 b o) : Fx1 D n ea (st :: b) o := ⟨by exact rk a.h q.h⟩
end
section
variable {w : World} {n : Nat} {g : G} {t : List Row} {pl : Bool} {b : Nat} {x : T3} {dd : P2 → Nat} {ks : List (Nat × T3)}
theorem za {cd rows : Ls} {o : List Stmt} {r : Out} (h : x ∈ tri) (k : Bx (DD w) (n + 1) (EC g t pl cd rows (cD b x) (dC b x)) o r) : Bx (DD w) (n + 1) (EC g t pl cd rows (cD b x) (wC b x)) (aa b20 9 :: aa b20 10 :: o) r :=
 Bx.app (b := [aa b20 9, aa b20 10]) (zp (T := TC w n) (X := FB w (n + 1)) (ke := 14) (k := 4) (yt.at h)) k
noncomputable def t3 (dd : P2 → Nat) (b : Nat) : T3 := (sA dd b, sB dd b, sC dd b)
theorem jW (hb : Lo b) (hd : fL t dd) (h : t3 dd b ∈ tri) (hk : sL ks) (hn : b ∉ ks.map (·.1)) (hl : ks.length ≤ 100) :
  Fx1 (DD w) (n + 1 + 1 + 1 + 1) (EC g t pl (ks.map kR) (ks.map kR) [] (bC b)) b20 (.next (EC g t (pl && bn (t3 dd b)) ((ks ++ [(b, t3 dd b)]).map kR) ((ks ++ [(b, t3 dd b)]).map kR) [] [])) := by
 have hz : (ks.map kR).length ≤ 1000 := by rw [List.length_map]; lia
 have e : (ks ++ [(b, t3 dd b)]).map kR = ks.map kR ++ [(one b, cwS (t3 dd b))] := by rw [List.map_append]; rfl
 have s5 := zc (w := w) (n := n + 1 + 1) (g := g) (t := t) (pl := pl) (cd := ks.map kR) (rows := ks.map kR) hb h hz
 have s7 := zG (w := w) (n := n + 1 + 1 + 1 + 1) (g := g) (t := t) (pl := pl) (cd := ks.map kR) (rows := ks.map kR ++ [(one b, cwS (t3 dd b))]) (b := b) (x := t3 dd b) hz
 have s6 := BM (w := w) (n := n + 1 + 1 + 1 + 1) (g := g) (t := t) (pl := pl) (cd := ks.map kR) (rows := ks.map kR ++ [(one b, cwS (t3 dd b))]) (b := b) h
 rw [← e] at s5 s6 s7
 have s3 : SF1 (DD w) (n + 1 + 1 + 1 + 1) (EC g t pl (ks.map kR) (ks.map kR) (cB b (t3 dd b) []) (bC b)) (aa b20 3) (.next (EC g t pl (ks.map kR) (ks.map kR) (cD b (t3 dd b)) (bC b))) := ⟨by exact Au hb h (sP hk) (sK hb hk hn)⟩
 rw [show b20 = aa b20 0 :: aa b20 1 :: aa b20 2 :: aa b20 3 :: aa b20 4 :: aa b20 5 :: aa b20 6 :: aa b20 7 :: aa b20 8 :: aa b20 9 :: aa b20 10 :: aa b20 11 :: blB by rfl']
 have tl : Bx (DD w) (n + 1 + 1 + 1 + 1) (EC g t pl (ks.map kR) (ks.map kR) (cD b (t3 dd b)) (bC b)) (aa b20 4 :: aa b20 5 :: aa b20 6 :: aa b20 7 :: aa b20 8 :: aa b20 9 :: aa b20 10 :: aa b20 11 :: blB) (.next (EC g t (pl && bn (t3 dd b)) ((ks ++ [(b, t3 dd b)]).map kR) ((ks ++ [(b, t3 dd b)]).map kR) [] [])) :=
  .next zM (.next s5 (.next s6 (.next s7 (.next (zi hb h hk hn hl) (za h (.next (x8 h) (BS (xS.at h))))))))
 exact .next (zd hb).f (.next (zy hb hd).f (.next (Br h).f (.next s3 tl.f)))
end
end
section
noncomputable def pQ (A : Around) (env : Env) : Prop := A.frames = some [env] ∧ env.frame = some env.locals
section
variable {D : Std} {n : Nat} {ea e1 : ao} {st : Stmt} {b : List Stmt} {r : V} {P : Around → Env → Prop}
theorem Dp.fstep {Z : Env → Heap → Prop} (h : SF1 D n ea st (.next e1)) (q : Dp pQ Z D n e1 b r) : Dp pQ Z D n ea (st :: b) r := ⟨fun {M F W env s A E} hA hP R => B2' (au (h.h hA hP.1 hP.2 R) fun f s₁ g => by
 obtain ⟨rfl, hz, k, R₁⟩ := g
 refine au (q.h hA hP R₁) fun f s' g => ?_
 obtain ⟨u, rfl, kw, rv⟩ := g
 exact ⟨u, rfl, (k.sub fun b q => .inl q).trans (kw.sub fun b q => q.imp id (A1' hz)), rv⟩)⟩
theorem Dp.sub {Z : Env → Heap → Prop} (h : yQ e1 ea) (q : Dp P Z D n e1 b r) : Dp P Z D n ea b r := ⟨fun hA hP R => q.h hA hP (h.rel R)⟩
end
noncomputable def pW (env : Env) (h : Heap) : Prop := ∃ M, pS env M h
noncomputable def ksF (dd : P2 → Nat) (bs : List Nat) : List (Nat × T3) := bs.map fun b => (b, t3 dd b)
section
variable {w : World} {n : Nat} {g : G} {t : List Row} {dd : P2 → Nat}
theorem kQ (hd : fL t dd) : ∀ (bs : List Nat) (pl : Bool) (ks : List (Nat × T3)), (∀ b ∈ bs, Lo b ∧ t3 dd b ∈ tri) → bs.Nodup → (∀ b ∈ bs, b ∉ ks.map (·.1)) → sL ks → ks.length + bs.length ≤ 100 →
  pN (DD w) (aw (aa ap 20)) (fun ea o => BlF (DD w) (n + 1 + 1 + 1 + 1) ea b20 o) (EC g t pl (ks.map kR) (ks.map kR) [] []) (eT bs) (.next (EC g t (pl && bs.all fun b => bn (t3 dd b)) ((ks ++ ksF dd bs).map kR) ((ks ++ ksF dd bs).map kR) [] [])) := by
 intro v0'
 induction v0' with
 | nil =>
  exact fun pl ks z z z z z => by
   rw [show ksF dd [] = [] from rfl, List.append_nil, List.all_nil, Bool.and_true]
   exact .nil
 | cons b bs ih' =>
  exact fun pl ks h hn hk ho hl => by
   obtain ⟨hb, ht⟩ := h b (.head _)
   rw [List.nodup_cons] at hn
   rw [List.length_cons] at hl
   have ih := ih' (pl && bn (t3 dd b)) (ks ++ [(b, t3 dd b)]) (fun c hc => h c (.tail _ hc)) hn.2 (fun c hc q => by
    rw [List.map_append] at q
    rcases C3' q with q | q
    ·exact hk c (.tail _ hc) q
    ·have : c = b := C1' q
     exact hn.1 (this ▸ hc)) (fun k q => by
    rcases C3' q with q | q
    ·exact ho k q
    ·rw [C1' q]; exact ⟨hb, ht⟩) (by rw [List.length_append]; show _ + 1 + _ ≤ _; lia)
   rw [List.all_cons, ← Bool.and_assoc, show ks ++ ksF dd (b :: bs) = ks ++ [(b, t3 dd b)] ++ ksF dd bs by rw [List.append_assoc]; rfl]
   refine .next (e1 := EC g t pl (ks.map kR) (ks.map kR) [] (bC b)) (aI ⋯) ?_ ih
   exact (jW hb hd ht ho (hk b (.head _)) (by exact A1' (Nat.le_add_right ..) ‹_›)).h
theorem Bq (hd : fL t dd) (h : ∀ b ∈ abc, t3 dd b ∈ tri) : SF1 (DD w) (n + 1 + 1 + 1 + 1) (EC g t true [] [] [] []) (aa ap 20) (.next (EC g t (abc.all fun b => bn (t3 dd b)) ((ksF dd abc).map kR) ((ksF dd abc).map kR) [] [])) := by
 have l := kQ (w := w) (n := n) (g := g) hd abc true [] (fun b hb => ⟨bG b hb, h b hb⟩) (by decide) (fun b z q => nomatch q) (fun k q => nomatch q) (by decide)
 rw [Bool.true_and, List.nil_append] at l
 have ei : dP (DD w) (n + 1 + 1 + 1 + 1) (EC g t true [] [] [] []) (aw (aa ap 20)) (af (aa ap 20)) (eT abc) := fg (T := TB w _) (k := 5) ⋯
 rw [show aa ap 20 = .For (aw (aa ap 20)) (af (aa ap 20)) b20 [] (aa ap 20).pos by rfl']
 exact ⟨by exact vV ei l⟩
noncomputable def tbE (g : G) (t : List Row) (L : Lv) : ao := EZ g t L [] [("table", .hdr (ak (t.map aZ)))]
noncomputable def clE (g : G) (t : List Row) (L : Lv) : ao := EZ g t L [] [("colours", .hdr [])]
noncomputable def e8V : Lv := [("eighth", .flt 0x3FC0000000000000)]
theorem zT : Sx (DD w) (n + 1) (tbE g t []) (aa ap 16) (.next (tbE g t e8V)) := eO (T := TC w n) (X := FB w (n + 1)) (ke := 9) (k := 3) ⋯
theorem BI : Sx (DD w) n (clE g t e8V) (aa ap 18) (.next (clE g t [("eighth", .flt 0x3FC0000000000000), ("coded", .list [])])) := eO (T := TB w n) (X := FB w n) (ke := 9) (k := 3) ⋯
theorem zL : Sx (DD w) n (clE g t [("eighth", .flt 0x3FC0000000000000), ("coded", .list [])]) (aa ap 19) (.next (EC g t true [] [] [] [])) := eO (T := TB w n) (X := FB w n) (ke := 9) (k := 3) ⋯
theorem Ba {e8 cd : V} {pl : Bool} (hn : ∀ x, (ax g.ps x).length ≤ 1000) : ∃ o, Sx (DD w) n (FZ g t e8 cd pl none []) (aa ap 23) (.next (FZ g t e8 cd pl o ((rF g.ps).foldl (aH g.ps) []))) := by
 have hq : ∀ q ∈ rF g.ps, Los q := fun q hq => db q (List.mem_filter.mp hq).1
 have hl : (rF g.ps).length ≤ 25 := List.length_filter_le _ _
 obtain ⟨o', l⟩ := mQ (w := w) (n := n) (g := g) (t := t) (e8 := e8) (cd := cd) (pl := pl) hn (rF g.ps) none [] hq (by show 0 + _ ≤ _; lia)
 have i1 : Ev (DD w) n (FZ g t e8 cd pl none []) c23 (.list (((rF g.ps).map am).map .str)) := by
  rw [xL]
  exact pe ⋯ (dI (aD (v := bN g.ps) ⋯ ⋯ ⋯) ⋯) (by show 25 ≤ _; decide) (qQ rfl aG none db)
 refine ⟨o', ?_⟩
 rw [show aa ap 23 = .For (aw (aa ap 23)) c23 (an (aa ap 23)) [] (aa ap 23).pos by rfl']
 exact .loop (dI i1 rfl) l
end
section
variable {w : World} {n : Nat} {g : G} {t : List Row} {dd : P2 → Nat}
theorem w4 {a : Bool} : a6 (DD w).prog (DD w).w .Eq (.bool a) (.bool a) true := by
 have p : eP (DD w).prog (DD w).w 8 (.bool a) (.bool a) := ⟨rfl, A9' _, fun r => by cases r; exact ⟨_, .bool a⟩⟩
 have c : a6 (DD w).prog (DD w).w .Eq (.bool a) (.bool a) (PyData.eqv (.bool a) (.bool a)) := iV p p
 rw [SeqAt.eqv_refl _ p.1] at c
 intro M s A E va vb
 exact c
theorem BH {e8 cd : V} {pl : Bool} {o : Option P2} {ls : List P2} (hl : ∀ p ∈ ls, Los p) (h : pl = ls.isEmpty) : Sx (DD w) n (FZ g t e8 cd pl o ls) (aa ap 24) (.ret (FZ g t e8 cd pl o ls) (.bool true)) := by
 have pk : eP (DD w).prog (DD w).w 8 (.list ((ls.map am).map .str)) (.list ((ls.map am).map .str)) := by
  refine bQ (n := 7) (bP fun x hx => ?_)
  obtain ⟨p, hp, rfl⟩ := C5' hx
  exact aM (dA ⟨by have := (hl p hp).1.2; exact B4' ‹_› (by decide), by have := (hl p hp).2.2; exact B4' ‹_› (by decide)⟩)
 have c1 : a6 (DD w).prog (DD w).w .Eq (.list ((ls.map am).map .str)) (.list []) (PyData.eqv (.list ((ls.map am).map .str)) (.list [])) := iV pk Bu
 rw [ow, List.isEmpty_map] at c1
 have i1 : Ev (DD w) n (FZ g t e8 cd pl o ls) (aj 1 (af (aa ap 24))) (.bool ls.isEmpty) := by
  rw [show aj 1 (af (aa ap 24)) = .Compare (.Name "loose" (aj 0 (aj 1 (af (aa ap 24)))).pos) [.Eq] [.List [] (aj 1 (aj 1 (af (aa ap 24)))).pos] (aj 1 (af (aa ap 24))).pos by rfl']
  exact pT ⋯ ⋯ vd c1
 have i2 : Ev (DD w) n (FZ g t e8 cd pl o ls) (aj 0 (af (aa ap 24))) (.bool ls.isEmpty) := by
  rw [show aj 0 (af (aa ap 24)) = .Name "plain" (aj 0 (af (aa ap 24))).pos by rfl', ← h]
  exact ah ⋯ ⋯ ⋯
 rw [show aa ap 24 = .Return (some (.Compare (aj 0 (af (aa ap 24))) [.Eq] [aj 1 (af (aa ap 24))] (af (aa ap 24)).pos)) (aa ap 24).pos by rfl']
 exact .ret (bo i2 i1 w4)
theorem rW {ps : List P2} : ∀ (qs l : List P2), (∀ q ∈ qs, Los q) → (∀ q ∈ l, Los q) → ∀ q ∈ qs.foldl (aH ps) l, Los q := by
 intro v0'
 induction v0' with
 | nil =>
  exact fun z z hl => hl
 | cons q qs ih' =>
  exact fun l h hl => ih' (aH ps l q) (fun r hr => h r (.tail _ hr)) fun r hr => by
   unfold aH at hr
   split at hr
   ·rcases C3' hr with hr | hr
    ·exact hl r hr
    ·rw [C1' hr]; exact h q (.head _)
   ·exact hl r hr
theorem qm {L : Lv} (ht : fR g.ps) (hn : g.ps.length ≤ 13) (hd : fL t dd) (h3 : ∀ b ∈ abc, t3 dd b ∈ tri) (hp : ∀ x, (ax g.ps x).length ≤ 1000) (hl : abc.all (fun b => bn (t3 dd b)) = ((rF g.ps).foldl (aH g.ps) []).isEmpty) :
  Dp pQ pW (DD w) (n + 1 + 1 + 1 + 1) (E14 g L t) (ap.drop 16) (.bool true) := by
 have hq : ∀ q ∈ rF g.ps, Los q := fun q hq => db q (List.mem_filter.mp hq).1
 obtain ⟨o, s23⟩ := Ba (w := w) (n := n + 1 + 1 + 1 + 1) (g := g) (t := t) (e8 := .flt 0x3FC0000000000000) (cd := .list (ak ((ksF dd abc).map kR))) (pl := abc.all fun b => bn (t3 dd b)) hp
 have s24 := BH (w := w) (n := n + 1 + 1 + 1 + 1) (g := g) (t := t) (e8 := .flt 0x3FC0000000000000) (cd := .list (ak ((ksF dd abc).map kR))) (o := o) (rW _ [] hq fun q hq => nomatch hq) hl
 have d23 : Dp pQ pW (DD w) (n + 1 + 1 + 1 + 1) (FZ g t (.flt 0x3FC0000000000000) (.list (ak ((ksF dd abc).map kR))) (abc.all fun b => bn (t3 dd b)) none []) [aa ap 23, aa ap 24] (.bool true) := .step s23 (.lastZ (.ret s24) fun R => ⟨_, (R.tw rfl).2⟩)
 have s21 := BK (w := w) (n := n + 1 + 1 + 1) (g := g) (t := t) (e8 := .flt 0x3FC0000000000000) (cd := .list (ak ((ksF dd abc).map kR))) (pl := abc.all fun b => bn (t3 dd b)) (rs := ak ((ksF dd abc).map kR)) ht hn
 have d22 : Dp pQ pW (DD w) (n + 1 + 1 + 1 + 1) (EZ g t (LZ (.flt 0x3FC0000000000000) (.list (ak ((ksF dd abc).map kR))) (abc.all fun b => bn (t3 dd b))) [("parts", jk g.ps)] [("colours", .hdr (ak ((ksF dd abc).map kR)))]) (.Assign [.Name "loose" (aw (aa ap 22)).pos] (.List [] (af (aa ap 22)).pos) (aa ap 22).pos :: [aa ap 23, aa ap 24]) (.bool true) := by
  refine .lis ⋯ ⋯ ?_
  rw [show cF (EZ g t (LZ (.flt 0x3FC0000000000000) (.list (ak ((ksF dd abc).map kR))) (abc.all fun b => bn (t3 dd b))) [("parts", jk g.ps)] [("colours", .hdr (ak ((ksF dd abc).map kR)))]) "loose" (.lis []) = FZ g t (.flt 0x3FC0000000000000) (.list (ak ((ksF dd abc).map kR))) (abc.all fun b => bn (t3 dd b)) none [] by rfl']
  exact d23
 have d17 : Dp pQ pW (DD w) (n + 1 + 1 + 1 + 1) (tbE g t e8V) (.Assign [.Name "colours" (aw (aa ap 17)).pos] (.Call (.Name "Headers" (dZ (af (aa ap 17))).pos) [] [] (af (aa ap 17)).pos) (aa ap 17).pos :: aa ap 18 :: aa ap 19 :: aa ap 20 :: aa ap 21 :: .Assign [.Name "loose" (aw (aa ap 22)).pos] (.List [] (af (aa ap 22)).pos) (aa ap 22).pos :: [aa ap 23, aa ap 24]) (.bool true) := by
  refine .hdr (n := n + 1) ⋯ ⋯ ⋯ ⋯ ⋯ ?_
  rw [show cF (tbE g t e8V) "colours" (.hdr []) = clE g t e8V by rfl']
  exact .step BI (.step zL (.fstep (Bq hd h3) (.step s21 d22)))
 rw [show ap.drop 16 = aa ap 16 :: .Assign [.Name "colours" (aw (aa ap 17)).pos] (.Call (.Name "Headers" (dZ (af (aa ap 17))).pos) [] [] (af (aa ap 17)).pos) (aa ap 17).pos :: aa ap 18 :: aa ap 19 :: aa ap 20 :: aa ap 21 :: .Assign [.Name "loose" (aw (aa ap 22)).pos] (.List [] (af (aa ap 22)).pos) (aa ap 22).pos :: [aa ap 23, aa ap 24] by rfl']
 refine .sub (e1 := tbE g t []) ⟨rfl, rfl, rfl, rfl, .nil, ?_, ?_⟩ (.step zT d17)
 ·exact .cons ⋯ (.cons ⋯ (.cons ⋯ (.cons ⋯ .nil)))
 ·exact .cons ⋯ .nil
end
end
section
noncomputable def sI (ps : List P2) (p : P2) : Nat := (cu ps p).toNat
structure dl (ps : List P2) : Prop where
 ties : fR ps
 len : ps.length ≤ 13
 ne : ps ≠ []
 dst : ∀ p, Los p → ∃ m : Nat, cu ps p = m ∧ m < 10
 hnd : ∃ t, kD (cu ps) (adj ps) 4 1 fl0 (abc.map fh) (abc.map fh) = some (t, t) ∧ t.length = 25 ∧ (t.map fun r => r.2.1).Nodup ∧ (∀ r ∈ t, cu ps r.2.1 = (r.2.2 : Nat)) ∧ ∀ p, Los p → p ∈ t.map fun r => r.2.1
 tri : ∀ b ∈ abc, t3 (sI ps) b ∈ tri
 fin : abc.all (fun b => bn (t3 (sI ps) b)) = ((rF ps).foldl (aH ps) []).isEmpty
theorem oh {ps : List P2} {b : Nat} : ∀ (qs : List P2) (l : List (List Nat)), (qs.foldl (aU b) l).length ≤ l.length + qs.length := by
 intro v0'
 induction v0' with
 | nil =>
  exact fun l => A6' _
 | cons q qs ih' =>
  exact fun l => by
   refine A1' (ih' (aU b l q)) ?_
   have : (aU b l q).length ≤ l.length + 1 := by
    unfold aU
    split
    ·exact Nat.le_succ _
    ·rw [List.length_append]
     exact Nat.succ_le_succ (List.length_filter_le _ _)
   rw [List.length_cons]
   lia
theorem dl.parts {ps : List P2} (h : dl ps) (x : Nat) : (ax ps x).length ≤ 1000 := by
 refine A1' (oh (ps := ps) ps (eX x)) ?_
 have h1 : (eX x).length ≤ 5 := by
  unfold eX
  rw [List.length_map]
  exact List.length_filter_le _ _
 have := h.len
 lia
theorem pF {t : List Row} {d : P2 → Int} (hd : ∀ r ∈ t, d r.2.1 = (r.2.2 : Nat)) {p : P2} (hp : p ∈ t.map fun r => r.2.1) : cc (t.map kg) (am p) = some (.str (bp (d p).toNat)) := by
 induction t with
 | nil => exact nomatch hp
 | cons r t ih =>
  unfold cc
  rw [List.map_cons, List.find?_cons]
  by_cases q : r.2.1 = p
  ·have : decide ((kg r).1 = am p) = true := decide_eq_true (by show am r.2.1 = _; rw [q])
   rw [this]
   show some (V.str (bp r.2.2)) = _
   rw [← q, hd r (.head _), Int.toNat_natCast]
  ·have : decide ((kg r).1 = am p) = false := decide_eq_false fun e => q (cx e)
   rw [this]
   refine ih (fun r hr => hd r (.tail _ hr)) ?_
   rcases C2' hp with e | e
   ·exact absurd e.symm q
   ·exact e
section
variable {w : World} {n : Nat}
theorem vw {g : G} {j : Nat} (h : dl g.ps) (hj : (g.c1.fdiv 1024).fmod 3 = j) (hj3 : j < 3) {f : Nat → Bool} : Dp pQ pW (DD w) (n + 1 + 1 + 1 + 1) (E3 g.xs g.c0 g.c1 g.ps (some g.l) (some g.q) (aL f 0 g.ps)) (ap.drop 5) (.bool true) := by
 obtain ⟨t, h1, h2, h3, h4, h5⟩ := h.hnd
 have hr0 : bg (abc.map fh) := fun r hr => by
  obtain ⟨x, hx, rfl⟩ := C5' hr
  exact ⟨bG x hx, bG x hx⟩
 have hf0 : ∀ p ∈ fl0, Los p := fun p hp => by
  obtain ⟨x, hx, rfl⟩ := C5' hp
  exact ⟨bG x hx, bG x hx⟩
 obtain ⟨o', k', fl', s13, ro⟩ := Ao (w := w) (n := n) (g := g) (j := j) h.ties hj3 (fl := fl0) hf0 (by decide) hr0 h1
 have hd : fL t (sI g.ps) := fun p hp => by
  refine ⟨pF h4 (h5 p hp), ?_⟩
  obtain ⟨m, hm, hm2⟩ := h.dst p hp
  unfold sI
  rw [hm, Int.toNat_natCast]; exact A1' ‹_› (by decide)
 have tl := qm (w := w) (n := n) (g := g) (t := t) (dd := sI g.ps) (L := L14 j k' fl' t o') h.ties h.len hd h.tri h.parts h.fin
 have s15 := zD (w := w) (n := n + 1 + 1 + 1) (g := g) (j := j) (k := k') (fl := fl') (t := t) (o := o') ro h2 h.dst h4
 have s14 := zw (w := w) (n := n + 1 + 1 + 1) (g := g) (j := j) (k := k') (fl := fl') (ld := t) (t := t) (o := o') ro h3 (by lia)
 have d9 : Dp pQ pW (DD w) (n + 1 + 1 + 1 + 1) (EG g (L8 j) [("steps", bN g.ps)] [("net", .hdr (ak (aL f 0 g.ps)))]) (.Assign [.Name "table" (aw (aa ap 9)).pos] (.Call (.Name "Headers" (dZ (af (aa ap 9))).pos) [] [] (af (aa ap 9)).pos) (aa ap 9).pos :: aa ap 10 :: aa ap 11 :: aa ap 12 :: aa ap 13 :: aa ap 14 :: aa ap 15 :: ap.drop 16) (.bool true) := by
  refine .hdr (n := n + 1) ⋯ ⋯ ⋯ ⋯ ⋯ ?_
  rw [show cF (EG g (L8 j) [("steps", bN g.ps)] [("net", .hdr (ak (aL f 0 g.ps)))]) "table" (.hdr []) = EG g (L8 j) [("steps", bN g.ps)] [("table", .hdr [])] by rfl']
  exact .step Bj (.step BL (.step zJ (.step s13 (.step s14 (.step s15 tl)))))
 rw [show ap.drop 5 = aa ap 5 :: aa ap 6 :: aa ap 7 :: aa ap 8 :: .Assign [.Name "table" (aw (aa ap 9)).pos] (.Call (.Name "Headers" (dZ (af (aa ap 9))).pos) [] [] (af (aa ap 9)).pos) (aa ap 9).pos :: aa ap 10 :: aa ap 11 :: aa ap 12 :: aa ap 13 :: aa ap 14 :: aa ap 15 :: ap.drop 16 by rfl']
 exact .step (DP h.ties h.len) (.step (Dd h.ties h.len) (.step (CN hj hj3) (.step (DT h.ties) d9)))
theorem lX {a b : Int} (hb : 0 < b) : ∃ m : Nat, a.fmod b = m ∧ (m : Int) < b := by
 have h1 := Int.fmod_nonneg_of_pos a hb
 have h2 := Int.fmod_lt_of_pos a hb
 exact ⟨(a.fmod b).toNat, (Int.toNat_of_nonneg h1).symm, by rw [Int.toNat_of_nonneg h1]; exact h2⟩
theorem rM {xs : List Int} (hx : xs.length ≤ 63) (plain : ∀ (f : Nat → Bool) (i j k : Nat), i < 2 → j < 3 → k < 4 → dl (tie f 0 Q9 (T1 i j k))) : Dp pQ pW (DD w) (n + 1 + 1 + 1 + 1) (E0 xs) ap (.bool true) := by
 obtain ⟨c0, c1, s0⟩ := Dm (w := w) (n := n + 1 + 1 + 1 + 1) hx
 obtain ⟨i, i1, i2⟩ := lX (a := c0) (b := 2) (by decide)
 obtain ⟨j, j1, j2⟩ := lX (a := c0.fdiv 2) (b := 3) (by decide)
 obtain ⟨k, k1, k2⟩ := lX (a := c0.fdiv 6) (b := 4) (by decide)
 obtain ⟨m, m1, m2⟩ := lX (a := c1.fdiv 1024) (b := 3) (by decide)
 have i3 : i < 2 := by lia
 have j3 : j < 3 := by lia
 have k3 : k < 4 := by lia
 have m3 : m < 3 := by lia
 have s1 : Sx (DD w) (n + 1 + 1 + 1 + 1) (E1 xs c0 c1) (aa ap 1) (.next (E2 xs c0 c1 (T1 i j k) none)) := ⟨by exact Ek i1 j1 k1 i3 j3 k3⟩
 obtain ⟨l2, s2⟩ := DX (w := w) (n := n + 1 + 1 + 1 + 1) (xs := xs) (c0 := c0) (c1 := c1) i3 j3 k3
 have hp := plain (bit c0) i j k i3 j3 k3
 generalize tie (bit c0) 0 Q9 (T1 i j k) = ps at s2 hp
 have hl := hp.len
 obtain ⟨l4, q4, s4, _, h5⟩ := zS (w := w) (n := n + 1 + 1) (xs := xs) (c0 := c0) (c1 := c1) (ps := ps) ps 0 [] l2 none (by exact Nat.add_le_add_left ‹_› _) hp.ties (by show 0 + _ ≤ _; lia) (fun z => rfl)
 obtain ⟨h6, h7⟩ := h5 hp.ne
 obtain ⟨l4, rfl⟩ := Option.isSome_iff_exists.mp h6
 obtain ⟨q4, rfl⟩ := Option.isSome_iff_exists.mp h7
 rw [List.nil_append] at s4
 have i4 : dP (DD w) (n + 1 + 1 + 1 + 1) (E3 xs c0 c1 ps l2 none []) (aw (aa ap 4)) (af (aa ap 4)) (fq 0 ((ps.map am).map .str)) := by
  rw [show aw (aa ap 4) = .Tuple [gh 0 (aw (aa ap 4)), gh 1 (aw (aa ap 4))] (kOf (aw (aa ap 4))) (aw (aa ap 4)).pos by rfl']
  rw [show af (aa ap 4) = .Call (.Name "enumerate" (dZ (af (aa ap 4))).pos) [.Name "tied" (aj 0 (af (aa ap 4))).pos] [] (af (aa ap 4)).pos by rfl']
  exact pE ⋯ ⋯ ⋯ (aD (v := tV ps) ⋯ ⋯ ⋯)
 have s4' : Sx (DD w) (n + 1 + 1 + 1 + 1) (E3 xs c0 c1 ps l2 none []) (aa ap 4) (.next (E3 xs c0 c1 ps (some l4) (some q4) (aL (spl c1) 0 ps))) := by
  rw [show aa ap 4 = .For (aw (aa ap 4)) (af (aa ap 4)) b4 [] (aa ap 4).pos by rfl']
  exact .loop i4 s4
 have md := vw (w := w) (n := n) (g := ⟨xs, c0, c1, ps, l4, q4⟩) (f := spl c1) hp m1 m3
 have d3 : Dp pQ pW (DD w) (n + 1 + 1 + 1 + 1) (E2 xs c0 c1 ps l2) (.Assign [.Name "net" (aw (aa ap 3)).pos] (.Call (.Name "Headers" (dZ (af (aa ap 3))).pos) [] [] (af (aa ap 3)).pos) (aa ap 3).pos :: aa ap 4 :: ap.drop 5) (.bool true) := by
  refine .hdr (n := n + 1) ⋯ ⋯ ⋯ ⋯ ⋯ ?_
  rw [show cF (E2 xs c0 c1 ps l2) "net" (.hdr []) = E3 xs c0 c1 ps l2 none [] by cases l2 <;> rfl']
  exact .step s4' md
 rw [show ap = aa ap 0 :: aa ap 1 :: aa ap 2 :: .Assign [.Name "net" (aw (aa ap 3)).pos] (.Call (.Name "Headers" (dZ (af (aa ap 3))).pos) [] [] (af (aa ap 3)).pos) (aa ap 3).pos :: aa ap 4 :: ap.drop 5 by rfl']
 exact .step ⟨@s0⟩ (.step s1 (.step ⟨@s2⟩ d3))
end
end
section
open PySem.Challenge (pw_wv0036_01 rw_wv0036_01)
section
variable {w : World}
theorem iZ {P : Params} {h : Heap} {M : Ap} : ∀ {ns : List Int} {vs : List Value}, WellAll P h vs (ns.map .int) → VRs (DD w).prog (DD w).w M h vs (ns.map .int)
 | [], _, r => by cases r; exact .nil
 | n :: ns, _, r => by
  cases r with | cons r1 r2 =>
  cases r1
  exact .cons (.int _ _) (iZ r2)
theorem yM {h : Heap} {mg : Str → Option Value} (y : YP0 w h) (g : h.Ns mainGlobals mg) : mg "law" = some (.ref (nat_lit 270)) := by
 have k := ul w.params
 simp only [Bool.and_eq_true] at k
 have n1 : h.Ns mainGlobals ((H1 w.params).nsMap mainGlobals) := (Heap.Ns.of_isNs k.1.1).at' fun o e => y _ _ e
 rw [g.eq_nsMap, ← n1.eq_nsMap]
 rfl'
theorem yd : rw_wv0036_01.row.toRowW.pre = .and (.not (.lt (.lit (.int 63)) (.len (.arg 0)))) (.lit (.bool true)) := ⋯
theorem ui {ds : List WData} (h : rw_wv0036_01.row.toRowW.pre.holds rw_wv0036_01.row.toRowW.records { args := [.list ds] } = true) : ds.length ≤ 63 := by
 rw [yd] at h
 simp [WTm.holds, WTm.value] at h
 rw [show less? (WData.int 63) (WData.int ↑ds.length) = some (decide ((63 : Int) < ↑ds.length)) from rfl] at h
 cases q : decide ((63 : Int) < ↑ds.length) with
 | true => rw [q] at h; cases h
 | false =>
  have := of_decide_eq_false q
  omega
theorem tv {h h' : Heap} {env : Env} (y : YP0 w h) (z : pW env h') : asItWas h h' (nat_lit 267) (tabObj #[]) := by
 obtain ⟨M, _, z⟩ := z
 rcases z with z | ⟨a, _, z, _⟩
 ·exact .inl z
 ·exact .inr (.inl ⟨⟨nat_lit 269, we, mL we, y _ _ ⋯, by rfl', by rfl', by rfl'⟩, rfl, #[], #[rawInt fH.line, rawInt fH.col, .ref a], rfl, z⟩)
theorem walk (plain : ∀ (f : Nat → Bool) (i j k : Nat), i < 2 → j < 3 → k < 4 → dl (tie f 0 Q9 (T1 i j k))) : WalkO q0 jE (XL q0 []) YP0 rw_wv0036_01.row.toRowW mH.1 mH.2 fun f vs => PySem.call f vs := by
 intro w s₀ s₁ mg mb G y a o pm cd doc dV kV ho hdat hcd hdf hmg hgens args vals as hpre hlay rd wl low
 have hname : mH.1.name = "law" := ⋯
 rw [hname, yM y G.T.g] at hmg
 cases hmg
 obtain ⟨hs, hp⟩ := pre_splitW hpre
 obtain ⟨d, r, rfl, h1, h2⟩ := hasAllW_cons (show WShape.hasAll _ args [.list .int] = true from hs)
 have := hasAllW_nil h2
 subst this
 obtain ⟨ds, rfl, h3⟩ := hasW_list h1
 obtain ⟨ns, rfl⟩ := items_int h3
 have hlen : ns.length ≤ 63 := by
  have := ui hp
  rwa [List.length_map] at this
 cases wl with | cons w1 w2 =>
 cases w2
 cases w1 with | @list l vs _ hl hr =>
 have ht : s₁.heap.get? (nat_lit 267) = some (tabObj #[]) := y _ _ ⋯
 have hne : l ≠ nat_lit 267 := fun e => by
  rw [e, ht] at hl; cases hl
 have hsz : nat_lit 271 ≤ s₁.heap.objs.size := by
  have e : s₁.heap.get? (nat_lit 270) = some uN := y _ _ ⋯
  exact A5' e
 have hst : StD w s₁.heap := fun b o t e => y b o e
 have vr : VRs (DD w).prog (DD w).w (fun b => b = nat_lit 267) s₁.heap [.ref l] [.list (ns.map .int)] := by
  refine .cons (.list hne hl (iZ hr)) .nil
 refine wpAny_call (dt (n := 4) (M := fun b => b = nat_lit 267) (ag := ⟨[.ref l], []⟩) (ps := ["script"]) (xs := [.list (ns.map .int)]) xg ⟨by decide, by decide, rfl⟩ hst (fun b e => by rw [e]; exact A2' (by decide) hsz) (fun b e => .inr e) hsz (ea := { baseE nmL with cel := Al ns }) (fun E' => ?_) (aV ⋯) fun {M₂ F₂ W₂ env s₂ A₂} hA₂ R hM hz k₂ hF hW fr => ?_)
 ·rw [show bindArgs (ay uN) ⟨[.ref l], []⟩ = pure ((["script"] : List Str).zip [.ref l]) by rfl']
  exact Wq ⟨A6' _, Kp.refl' s₁, [.ref l], rfl, rfl, vr⟩
 ·obtain ⟨⟨fr1, fr2, fr3⟩, fr4⟩ := fr
  have ht₂ : s₂.heap.get? (nat_lit 267) = some (tabObj #[]) := k₂.get (fun q => A7' _ (A2' (A2' (by decide) hsz) q)) ht
  have R1 := R.widen (F' := fun b => F₂ b ∨ b = nat_lit 267) (W' := fun b => W₂ b ∨ b = nat_lit 267) (fun b q => .inl q) (fun b q => .inl q) (fun b q => q.imp (R.wf b) id) (fun b q => q.elim (R.fm b) fun e => (hM b e).1) (.inl rfl)
  have R2 : Rel (DD w) M₂ (fun b => F₂ b ∨ b = nat_lit 267) (fun b => W₂ b ∨ b = nat_lit 267) env (E0 ns) s₂ := { R1 with tw := fun t => ⟨.inr rfl, fr3.trans ⋯, .inl ht₂⟩ }
  refine wpAny_mono ((rM (w := w) (n := 0) hlen plain).h hA₂ ⟨fr1 [] rfl, fr2⟩ R2) (fun f s' g => ?_) fun t t x => x
  obtain ⟨u, rfl, kw, rv, z⟩ := g
  have hu : u = .bool true := by
   have := rv (fun t => False) fun b q => q.elim
   cases this
   rfl
  subst hu
  have kk : aq (fun b => s₁.heap.objs.size ≤ b ∨ b = nat_lit 267) s₁ s' := (k₂.sub fun b q => .inl q).trans (kw.sub fun b q => by
   rcases q with (q | q) | q
   ·exact .inl (hF _ (R.wf _ q))
   ·exact .inr q
   ·exact .inl (A1' hz q))
  obtain ⟨h', tk, rfl, kq⟩ := kk
  have old : OldK s₁.heap h' := by
   have key : ∀ b o, s₁.heap.get? b = some o → asItWas s₁.heap h' b o := fun b o e => by
    by_cases q : b = nat_lit 267
    ·rw [q, ht] at e; cases e
     rw [q]
     exact tv y z
    ·exact .inl (kq b o (fun r => r.elim (fun r => A7' _ (A2' (A5' e) r)) q) e)
   refine ⟨key, fun b o e => ?_⟩
   rcases key b o e with r | ⟨_, _, vs, more, _, r⟩ | ⟨_, _, ⟨o', _, _, r, _⟩, _⟩
   ·exact ⟨_, r⟩
   ·exact ⟨_, r⟩
   ·exact ⟨_, r⟩
  exact ⟨.inl ⟨.bool true, .bool true, [], rfl, fun cls => by rfl', .bool true, by rfl', fun t => ⟨.nil, fun a ha => nomatch ha⟩⟩, old, rfl, .of_eq hgens⟩
end
theorem holds_of (plain : ∀ (f : Nat → Bool) (i j k : Nat), i < 2 → j < 3 → k < 4 → dl (tie f 0 Q9 (T1 i j k))) : rw_wv0036_01.Holds := wR (walk plain)
end
section
noncomputable def swp (p : P2) : P2 := (p.2, p.1)
noncomputable def rwd (w : Nat) (d : P2 → Int) (q : P2) : Int := dk (d q) (d (q.1, w) + d (w, q.2))
structure Ae (d : P2 → Int) : Prop where
 sym : ∀ u v, Lo u → Lo v → d (u, v) = d (v, u)
 diag : ∀ u, Lo u → d (u, u) = 0
 pos : ∀ u v, Lo u → Lo v → 0 ≤ d (u, v)
theorem fP {a b : Int} (h : a ≤ b) : dk a b = a := by unfold dk; rw [if_neg (by lia)]
theorem pY {w : Nat} {d : P2 → Int} {p q : P2} : aQ w d p q = if q = p ∨ swp q = p then dk (d p) (d (p.1, w) + d (w, p.2)) else d q := by
 unfold aQ upd
 obtain ⟨a, b⟩ := p
 obtain ⟨c, e⟩ := q
 by_cases h1 : (c, e) = (b, a)
 ·rw [if_pos (beq_iff_eq.mpr h1), if_pos (.inr (by cases h1; rfl))]
 ·rw [if_neg (fun q => h1 (beq_iff_eq.mp q))]
  by_cases h2 : (c, e) = (a, b)
  ·rw [if_pos (beq_iff_eq.mpr h2), if_pos (.inl h2)]
  ·rw [if_neg (fun q => h2 (beq_iff_eq.mp q)), if_neg]
   rintro (q | q)
   ·exact h2 q
   ·cases q; exact h1 rfl
theorem pV {w : Nat} {d : P2 → Int} (hs : Ae d) (hw : Lo w) : ∀ (L D : List P2) (d' : P2 → Int), (∀ p ∈ L, Los p) → L.Nodup → (∀ p ∈ L, p ∉ D ∧ swp p ∉ D ∧ swp p ∉ L) → (∀ q, Los q → d' q = if q ∈ D ∨ swp q ∈ D then rwd w d q else d q) →
  ∀ q, Los q → L.foldl (aQ w) d' q = if q ∈ D ++ L ∨ swp q ∈ D ++ L then rwd w d q else d q := by
 intro v0'
 induction v0' with
 | nil =>
  exact fun D d' z z z h q hq => by rw [List.append_nil]; exact h q hq
 | cons p L ih' =>
  exact fun D d' hL hn hd h q hq => by
   have hp := hL p (.head _)
   obtain ⟨n1, n2, n3⟩ := hd p (.head _)
   rw [List.nodup_cons] at hn
   have wa : ∀ a, Lo a → d' (a, w) = d (a, w) := fun a ha => by
    rw [h (a, w) ⟨ha, hw⟩]
    split
    ·unfold rwd
     rw [hs.diag w hw]
     exact fP (by show d (a, w) ≤ d (a, w) + 0; lia)
    ·rfl
   have wb : ∀ a, Lo a → d' (w, a) = d (w, a) := fun a ha => by
    rw [h (w, a) ⟨hw, ha⟩]
    split
    ·unfold rwd
     rw [hs.diag w hw]
     exact fP (by show d (w, a) ≤ 0 + d (w, a); lia)
    ·rfl
   have hX : dk (d' p) (d' (p.1, w) + d' (w, p.2)) = rwd w d p := by
    rw [wa _ hp.1, wb _ hp.2, h p hp, if_neg (by rintro (q | q); exact n1 q; exact n2 q)]
    rfl
   have hY : rwd w d (swp p) = rwd w d p := by
    unfold rwd swp
    rw [hs.sym p.2 p.1 hp.2 hp.1, hs.sym p.2 w hp.2 hw, hs.sym w p.1 hw hp.1, Int.add_comm]
   rw [show D ++ p :: L = D ++ [p] ++ L by simp]
   refine ih' (D ++ [p]) (aQ w d' p) (fun r hr => hL r (.tail _ hr)) hn.2 (fun r hr => ?_) (fun r hr => ?_) q hq
   ·obtain ⟨m1, m2, m3⟩ := hd r (.tail _ hr)
    refine ⟨fun q => ?_, fun q => ?_, fun q => m3 (.tail _ q)⟩
    ·rcases C3' q with q | q
     ·exact m1 q
     ·exact hn.1 (C1' q ▸ hr)
    ·rcases C3' q with q | q
     ·exact m2 q
     ·exact m3 (by rw [C1' q]; exact .head _)
   ·rw [pY, hX]
    by_cases e : r = p ∨ swp r = p
    ·rw [if_pos e, if_pos (e.imp (fun e => by simp [e]) fun e => by simp [e])]
     rcases e with e | e
     ·rw [e]
     ·have : r = swp p := by rw [← e]; rfl
      rw [this, hY]
    ·rw [if_neg e, h r hr]
     have : (r ∈ D ++ [p] ∨ swp r ∈ D ++ [p]) ↔ (r ∈ D ∨ swp r ∈ D) := by
      rw [List.mem_append, List.mem_append, List.mem_singleton, List.mem_singleton]
      constructor
      ·rintro ((q | q) | (q | q))
       ·exact .inl q
       ·exact absurd (.inl q) e
       ·exact .inr q
       ·exact absurd (.inr q) e
      ·rintro (q | q)
       ·exact .inl (.inl q)
       ·exact .inr (.inl q)
     simp only [this]
theorem oW {p : P2} (h : p ∈ aG) : p.1 = p.2 ∨ p ∈ Q10 ∨ swp p ∈ Q10 := by
 have k : ∀ p ∈ aG, p.1 = p.2 ∨ p ∈ Q10 ∨ swp p ∈ Q10 := by decide
 exact k p h
set_option tactic.hygienic true in
theorem rq {w : Nat} {d : P2 → Int} (hs : Ae d) (hw : Lo w) {q : P2} (hq : Los q) : Q10.foldl (aQ w) d q = rwd w d q := by
 have h10 : ∀ p ∈ Q10, Los p := fun p hp => by
  have : ∀ p ∈ Q10, (97 ≤ p.1 ∧ p.1 ≤ 101) ∧ (97 ≤ p.2 ∧ p.2 ≤ 101) := by decide
  exact this p hp
 rw [pV hs hw Q10 [] d h10 (by decide) (fun p hp => ⟨List.not_mem_nil, List.not_mem_nil, by
  have : ∀ p ∈ Q10, swp p ∉ Q10 := by decide
  exact this p hp⟩) (fun q z => by simp) q hq, List.nil_append]
 split
 ·rfl
 ·rename_i h
  have e : q.1 = q.2 := (oW (List.mem_flatMap.mpr ⟨q.1, bU hq.1, List.mem_map.mpr ⟨q.2, bU hq.2, rfl⟩⟩)).resolve_right h
  obtain ⟨a, b⟩ := q
  cases e
  show d (a, a) = dk (d (a, a)) (d (a, w) + d (w, a))
  rw [hs.diag a hq.1, fP]
  have := hs.pos a w hq.1 hw
  have := hs.pos w a hw hq.1
  lia
end
section
theorem sQ : ∀ (l m : List P2), l.Nodup → (∀ p ∈ l, p ∈ m) → l.length ≤ m.length := by
 intro v0'
 induction v0' with
 | nil =>
  exact fun z z z => A9' _
 | cons p l ih' =>
  exact fun m hn hs => by
   rw [List.nodup_cons] at hn
   have h := ih' (m.erase p) hn.2 fun q hq => (List.mem_erase_of_ne (fun e : q = p => hn.1 (e ▸ hq))).mpr (hs q (.tail _ hq))
   have hm := hs p (.head _)
   rw [List.length_erase_of_mem hm] at h
   have := List.length_pos_of_mem hm
   rw [List.length_cons]; lia
theorem x6 {p : P2} (h : Los p) : p ∈ aG := List.mem_flatMap.mpr ⟨p.1, bU h.1, List.mem_map.mpr ⟨p.2, bU h.2, rfl⟩⟩
theorem kI {l : List P2} (hn : l.Nodup) (h : ∀ p ∈ l, Los p) : l.length ≤ 25 := sQ l aG hn fun p hp => x6 (h p hp)
structure Met (dst : P2 → Int) (near : Nat → List Nat) (d : P2 → Nat) : Prop where
 cast : ∀ p, Los p → dst p = (d p : Nat)
 zero : ∀ p, Los p → (d p = 0 ↔ p.1 = p.2)
 lo : ∀ v, Lo v → ∀ x ∈ near v, Lo x
 m1 : ∀ u v x, Lo u → Lo v → x ∈ near v → d (u, x) ≤ d (u, v) + 1
 m2 : ∀ u x, Lo u → Lo x → 1 ≤ d (u, x) → ∃ v, Lo v ∧ x ∈ near v ∧ d (u, v) + 1 = d (u, x)
 max : ∀ p, Los p → d p ≤ 4
noncomputable def kys (t : List Row) : List P2 := t.map fun r => r.2.1
noncomputable def ttR (k : Nat) (t : List Row) (fl : List P2) : List Row := t ++ fl.map fun p => (true, p, k)
theorem je {k : Nat} {t : List Row} {fl : List P2} : kys (ttR k t fl) = kys t ++ fl := by
 unfold kys ttR
 rw [List.map_append, List.map_map]
 congr 1
 exact List.map_id fl
structure T0 (d : P2 → Nat) (k : Nat) (t : List Row) : Prop where
 nd : (kys t).Nodup
 el : ∀ r ∈ t, Los r.2.1 ∧ r.2.2 = d r.2.1 ∧ d r.2.1 < k
 all : ∀ p, Los p → d p < k → p ∈ kys t
structure Inv (d : P2 → Nat) (k : Nat) (fl : List P2) : Prop where
 nd : fl.Nodup
 el : ∀ p ∈ fl, Los p ∧ d p = k
theorem nX {d : P2 → Nat} {p : P2} : ∀ {t : List Row}, (∀ r ∈ t, r.2.2 = d r.2.1) → p ∈ kys t → look t p = some (d p)
 | [], _, hp => nomatch hp
 | r :: t, h, hp => by
  show (match r.2.1 == p with | true => some r.2.2 | false => look t p) = _
  by_cases e : r.2.1 = p
  ·rw [beq_iff_eq.mpr e, h r (.head _), e]
  ·rw [beq_eq_false_iff_ne.mpr e]
   refine nX (fun r hr => h r (.tail _ hr)) ?_
   rcases C2' hp with q | q
   ·exact absurd q.symm e
   ·exact q
section
variable {dst : P2 → Int} {near : Nat → List Nat} {d : P2 → Nat} {k : Nat} {t : List Row}
theorem T0.next (h : T0 d k t) {fl : List P2} (i : Inv d k fl) (ha : ∀ p, Los p → d p = k → p ∈ fl) : T0 d (k + 1) (ttR k t fl) where
 nd := by
  rw [je]
  refine List.nodup_append.mpr ⟨h.nd, i.nd, fun a ha b hb e => ?_⟩
  subst e
  obtain ⟨r, hr, rfl⟩ := C5' ha
  have h1 := (h.el r hr).2.2
  have h2 := (i.el _ hb).2
  lia
 el := fun r hr => by
  rcases C3' hr with hr | hr
  ·obtain ⟨h1, h2, h3⟩ := h.el r hr
   exact ⟨h1, h2, by exact B1' ‹_›⟩
  ·obtain ⟨p, hp, rfl⟩ := C5' hr
   obtain ⟨h1, h2⟩ := i.el p hp
   exact ⟨h1, h2.symm, by show d p < k + 1; lia⟩
 all := fun p hp hk => by
  rw [je]
  by_cases e : d p = k
  ·exact List.mem_append.mpr (.inr (ha p hp e))
  ·exact List.mem_append.mpr (.inl (h.all p hp (by lia)))
theorem si (h : T0 d k t) {fl : List P2} (i : Inv d k fl) : (ttR k t fl).length ≤ 50 ∧ fl.length ≤ 25 := by
 have h1 : t.length ≤ 25 := by
  have := kI h.nd fun p hp => by
   obtain ⟨r, hr, rfl⟩ := C5' hp
   exact (h.el r hr).1
  rwa [kys, List.length_map] at this
 have h2 := kI i.nd fun p hp => (i.el p hp).1
 refine ⟨?_, h2⟩
 unfold ttR
 rw [List.length_append, List.length_map]; lia
theorem p8 (m : Met dst near d) (h : T0 d k t) (hk : k < 10) {u v : Nat} (hu : Lo u) (hv : Lo v) (hd : d (u, v) + 1 = k) : ∀ (xs : List Nat) (fl : List P2), (∀ x ∈ xs, x ∈ near v) → Inv d k fl →
  ∃ fl', cU dst k u xs (ttR k t fl) fl = some (ttR k t fl', fl') ∧ Inv d k fl' ∧ (∀ p ∈ fl, p ∈ fl') ∧ ∀ x ∈ xs, d (u, x) = k → (u, x) ∈ fl' := by
 intro v0'
 induction v0' with
 | nil =>
  exact fun fl z i => ⟨fl, rfl, i, fun z hp => hp, fun z hx => nomatch hx⟩
 | cons x xs ih' =>
  exact fun fl hx i => by
   have hxn := hx x (.head _)
   have hxl := m.lo v hv x hxn
   have hp : Los (u, x) := ⟨hu, hxl⟩
   have hle := m.m1 u v x hu hv hxn
   obtain ⟨z1, z2⟩ := si h i
   have hel : ∀ r ∈ ttR k t fl, r.2.2 = d r.2.1 := fun r hr => by
    rcases C3' hr with hr | hr
    ·exact (h.el r hr).2.1
    ·obtain ⟨p, hp, rfl⟩ := C5' hr
     exact (i.el p hp).2.symm
   have out : (∃ e : (u, x) ∈ kys (ttR k t fl), True) ∨ ((u, x) ∉ kys (ttR k t fl) ∧ d (u, x) = k) := by
    by_cases e : (u, x) ∈ kys (ttR k t fl)
    ·exact .inl ⟨e, trivial⟩
    ·refine .inr ⟨e, ?_⟩
     rw [je] at e
     have : ¬ d (u, x) < k := fun q => e (List.mem_append.mpr (.inl (h.all _ hp q)))
     lia
   have key : ∃ fl1, iW (ttR k t fl) (u, x) k = d (u, x) ∧ cA (ttR k t fl) (u, x) k = ttR k t fl1 ∧ jT (ttR k t fl) fl k (u, x) = fl1 ∧ Inv d k fl1 ∧ (∀ p ∈ fl, p ∈ fl1) ∧ (d (u, x) = k → (u, x) ∈ fl1) := by
    rcases out with ⟨e, _⟩ | ⟨e, hdk⟩
    ·have l := nX hel e
     have t1 : iW (ttR k t fl) (u, x) k = d (u, x) := by unfold iW; rw [l]; rfl
     have hin : d (u, x) = k → (u, x) ∈ fl := fun q => by
      rw [je] at e
      rcases C3' e with e | e
      ·obtain ⟨r, hr, e⟩ := C5' e
       have := (h.el r hr).2.2
       rw [e] at this; lia
      ·exact e
     refine ⟨fl, t1, by unfold cA; rw [l], ?_, i, fun z hp => hp, hin⟩
     unfold jT
     rw [t1, if_neg]
     intro q
     obtain ⟨q1, q2⟩ := C4' q
     have := hin (beq_iff_eq.mp q1)
     rw [List.contains_iff_mem.mpr this] at q2
     cases q2
    ·have l : look (ttR k t fl) (u, x) = none := jy fun r hr q => e (by rw [← q]; exact List.mem_map_of_mem hr)
     have t1 : iW (ttR k t fl) (u, x) k = k := by unfold iW; rw [l]; rfl
     have nf : (u, x) ∉ fl := fun q => e (by rw [je]; exact List.mem_append.mpr (.inr q))
     refine ⟨fl ++ [(u, x)], t1.trans hdk.symm, ?_, ?_, ⟨?_, fun p hp' => ?_⟩, fun p hp => List.mem_append.mpr (.inl hp), fun z => List.mem_append.mpr (.inr (.head _))⟩
     ·unfold cA
      rw [l]
      unfold ttR
      rw [List.map_append, List.append_assoc]; rfl
     ·unfold jT
      rw [t1, if_pos]
      rw [beq_self_eq_true, Bool.true_and]
      cases q : fl.contains (u, x) with
      | false => rfl
      | true => exact absurd (List.contains_iff_mem.mp q) nf
     ·refine List.nodup_append.mpr ⟨i.nd, List.nodup_cons.mpr ⟨List.not_mem_nil, List.nodup_nil⟩, fun a ha b hb e => ?_⟩
      rw [C1' hb] at e
      exact nf (e ▸ ha)
     ·rcases C3' hp' with q | q
      ·exact i.el p q
      ·rw [C1' q]; exact ⟨hp, hdk⟩
   obtain ⟨fl1, k1, k2, k3, k4, k5, k6⟩ := key
   obtain ⟨fl', s1, s2, s3, s4⟩ := ih' fl1 (fun y hy => hx y (.tail _ hy)) k4
   refine ⟨fl', ?_, s2, fun p hp => s3 p (k5 p hp), fun y hy q => ?_⟩
   ·unfold cU
    rw [if_pos ⟨by rw [k1]; exact m.cast _ hp, by rw [k1]; lia, by exact A1' ‹_› (by decide), by exact A1' ‹_› (by decide)⟩, k2, k3]
    exact s1
   ·rcases C2' hy with e | hy
    ·subst e; exact s3 _ (k6 q)
    ·exact s4 y hy q
theorem oj (m : Met dst near d) (h : T0 d k t) (hk : k < 10) : ∀ (ps : List P2) (fl : List P2), (∀ p ∈ ps, Los p ∧ d p + 1 = k) → Inv d k fl →
  ∃ fl', fE dst near k ps (ttR k t fl) fl = some (ttR k t fl', fl') ∧ Inv d k fl' ∧ (∀ p ∈ fl, p ∈ fl') ∧ ∀ p ∈ ps, ∀ x ∈ near p.2, d (p.1, x) = k → (p.1, x) ∈ fl' := by
 intro v0'
 induction v0' with
 | nil =>
  exact fun fl z i => ⟨fl, rfl, i, fun z hp => hp, fun z hx => nomatch hx⟩
 | cons p ps ih' =>
  exact fun fl hp i => by
   obtain ⟨h1, h2⟩ := hp p (.head _)
   obtain ⟨fl1, s1, s2, s3, s4⟩ := p8 m h hk (u := p.1) (v := p.2) h1.1 h1.2 h2 (near p.2) fl (fun z hx => hx) i
   obtain ⟨fl', r1, r2, r3, r4⟩ := ih' fl1 (fun q hq => hp q (.tail _ hq)) s2
   refine ⟨fl', ?_, r2, fun q hq => r3 q (s3 q hq), fun q hq x hx e => ?_⟩
   ·unfold fE
    rw [s1]
    exact r1
   ·rcases C2' hq with e' | hq
    ·subst e'; exact r3 _ (s4 x hx e)
    ·exact r4 q hq x hx e
theorem rj (m : Met dst near d) : ∀ (n k : Nat) (fl : List P2) (t : List Row), 1 ≤ k → k + n < 10 → T0 d k t → (∀ p ∈ fl, Los p ∧ d p + 1 = k) → (∀ p, Los p → d p + 1 = k → p ∈ fl) → ∃ t', kD dst near n k fl t t = some (t', t') ∧ T0 d (k + n) t' := by
 intro v0'
 induction v0' with
 | zero =>
  exact fun k fl t z z h z z => ⟨t, rfl, h⟩
 | succ n ih' =>
  exact fun k fl t h1 hk h hf ha => by
   obtain ⟨fl', r1, r2, _, r4⟩ := oj m h (by exact B4' (Nat.le_add_right ..) ‹_›) fl [] hf ⟨List.nodup_nil, fun z hp => nomatch hp⟩
   rw [show ttR k t [] = t from List.append_nil t] at r1
   obtain ⟨z1, z2⟩ := si h r2
   have all : ∀ p, Los p → d p = k → p ∈ fl' := fun p hp e => by
    obtain ⟨v, hv, hx, hd⟩ := m.m2 p.1 p.2 hp.1 hp.2 (by show 1 ≤ d p; lia)
    exact r4 (p.1, v) (ha _ ⟨hp.1, hv⟩ (by rw [hd]; exact e)) p.2 hx e
   obtain ⟨t', e1, e2⟩ := ih' (k + 1) fl' (ttR k t fl') (by exact B1' ‹_›) (by lia) (h.next r2 all) (fun p hp => ⟨(r2.el p hp).1, by rw [(r2.el p hp).2]⟩) (fun p hp q => all p hp (by exact Nat.succ.inj ‹_›))
   refine ⟨t', ?_, by rw [show k + (n + 1) = k + 1 + n by lia]; exact e2⟩
   unfold kD
   rw [r1]
   have zt : t.length ≤ 1000 := by
    have : t.length ≤ (ttR k t fl').length := by unfold ttR; rw [List.length_append]; exact Nat.le_add_right ..
    lia
   show (if fl'.length ≤ 100 ∧ t.length ≤ 1000 then _ else _) = _
   rw [if_pos ⟨by exact A1' ‹_› (by decide), zt⟩]
   exact e1
end
end
section
structure T10 where
 (ab ac ad ae bc bd be cd ce de : Nat)
noncomputable def wi (a b c d e : Nat) : Nat → Nat
 | 0 => a
 | 1 => b
 | 2 => c
 | 3 => d
 | _ => e
noncomputable def T10.get (v : T10) (x y : Nat) : Nat := wi (wi 0 v.ab v.ac v.ad v.ae (Nat.sub y 97)) (wi v.ab 0 v.bc v.bd v.be (Nat.sub y 97)) (wi v.ac v.bc 0 v.cd v.ce (Nat.sub y 97)) (wi v.ad v.bd v.cd 0 v.de (Nat.sub y 97)) (wi v.ae v.be v.ce v.de 0 (Nat.sub y 97)) (Nat.sub x 97)
noncomputable def mn (a b : Nat) : Nat := bif Nat.ble a b then a else b
noncomputable def mnd (v : T10) (w x y : Nat) : Nat := mn (v.get x y) (Nat.add (v.get x w) (v.get w y))
noncomputable def rnd (v : T10) (w : Nat) : T10 := ⟨mnd v w 97 98, mnd v w 97 99, mnd v w 97 100, mnd v w 97 101, mnd v w 98 99, mnd v w 98 100, mnd v w 98 101, mnd v w 99 100, mnd v w 99 101, mnd v w 100 101⟩
noncomputable def raa (v : T10) : T10 := ⟨mn v.ab (Nat.add 0 v.ab), mn v.ac (Nat.add 0 v.ac), mn v.ad (Nat.add 0 v.ad), mn v.ae (Nat.add 0 v.ae), mn v.bc (Nat.add v.ab v.ac), mn v.bd (Nat.add v.ab v.ad), mn v.be (Nat.add v.ab v.ae), mn v.cd (Nat.add v.ac v.ad), mn v.ce (Nat.add v.ac v.ae), mn v.de (Nat.add v.ad v.ae)⟩
noncomputable def rbb (v : T10) : T10 := ⟨mn v.ab (Nat.add v.ab 0), mn v.ac (Nat.add v.ab v.bc), mn v.ad (Nat.add v.ab v.bd), mn v.ae (Nat.add v.ab v.be), mn v.bc (Nat.add 0 v.bc), mn v.bd (Nat.add 0 v.bd), mn v.be (Nat.add 0 v.be), mn v.cd (Nat.add v.bc v.bd), mn v.ce (Nat.add v.bc v.be), mn v.de (Nat.add v.bd v.be)⟩
noncomputable def rcc (v : T10) : T10 := ⟨mn v.ab (Nat.add v.ac v.bc), mn v.ac (Nat.add v.ac 0), mn v.ad (Nat.add v.ac v.cd), mn v.ae (Nat.add v.ac v.ce), mn v.bc (Nat.add v.bc 0), mn v.bd (Nat.add v.bc v.cd), mn v.be (Nat.add v.bc v.ce), mn v.cd (Nat.add 0 v.cd), mn v.ce (Nat.add 0 v.ce), mn v.de (Nat.add v.cd v.ce)⟩
noncomputable def rdd (v : T10) : T10 := ⟨mn v.ab (Nat.add v.ad v.bd), mn v.ac (Nat.add v.ad v.cd), mn v.ad (Nat.add v.ad 0), mn v.ae (Nat.add v.ad v.de), mn v.bc (Nat.add v.bd v.cd), mn v.bd (Nat.add v.bd 0), mn v.be (Nat.add v.bd v.de), mn v.cd (Nat.add v.cd 0), mn v.ce (Nat.add v.cd v.de), mn v.de (Nat.add 0 v.de)⟩
noncomputable def ree (v : T10) : T10 := ⟨mn v.ab (Nat.add v.ae v.be), mn v.ac (Nat.add v.ae v.ce), mn v.ad (Nat.add v.ae v.de), mn v.ae (Nat.add v.ae 0), mn v.bc (Nat.add v.be v.ce), mn v.bd (Nat.add v.be v.de), mn v.be (Nat.add v.be 0), mn v.cd (Nat.add v.ce v.de), mn v.ce (Nat.add v.ce 0), mn v.de (Nat.add v.de 0)⟩
noncomputable def fr {α : Type} (n : Nat) (k : Nat → α) : α := Nat.rec (k 0) (fun m z => k (Nat.succ m)) n
theorem ze {α : Type} (n : Nat) (k : Nat → α) : fr n k = k n := by cases n <;> rfl
noncomputable def pP {α : Type} (v : T10) (k : T10 → α) : α := fr v.ab fun ab => fr v.ac fun ac => fr v.ad fun ad => fr v.ae fun ae => fr v.bc fun bc => fr v.bd fun bd => fr v.be fun be => fr v.cd fun cd => fr v.ce fun ce => fr v.de fun de => k ⟨ab, ac, ad, ae, bc, bd, be, cd, ce, de⟩
theorem kj {α : Type} (v : T10) (k : T10 → α) : pP v k = k v := by
 unfold pP
 simp only [ze]
noncomputable def rr {α : Type} (v : T10) (k : T10 → α) : α := pP (raa v) fun v => pP (rbb v) fun v => pP (rcc v) fun v => pP (rdd v) fun v => pP (ree v) k
noncomputable def r5 (v : T10) : T10 := abc.foldl rnd v
theorem zO {α : Type} (v : T10) (k : T10 → α) : rr v k = k (r5 v) := by
 unfold rr
 simp only [kj]
 rfl
noncomputable def ta {α β : Type} (f : α → β → Bool) (l : List α) : List β → Bool := List.rec (fun z => true) (fun a z ih m => List.rec true (fun b m z => bif f a b then ih m else false) m) l
noncomputable def y6 {α β : Type} (f : α → β → Bool) (l : List α) : List β → Bool := List.rec (fun z => false) (fun a z ih m => List.rec false (fun b m z => bif f a b then true else ih m) m) l
noncomputable def tU {α : Type} (f : α → Bool) (l : List α) : Bool := List.rec true (fun a z ih => bif f a then ih else false) l
noncomputable def wn {α : Type} (f : α → Bool) (l : List α) : Bool := List.rec false (fun a z ih => bif f a then true else ih) l
noncomputable def xP {α : Type} (f : α → Bool) (l : List α) : List α := List.rec [] (fun a z ih => bif f a then a :: ih else ih) l
noncomputable def t4 {α : Type} (l m : List α) : List α := List.rec m (fun a z ih => a :: ih) l
noncomputable def ti {α : Type} (l : List (List α)) : List α := List.rec [] (fun a z ih => t4 a ih) l
theorem f8 {α : Type} (f : α → Bool) : ∀ l, tU f l = l.all f := by
 intro v0'
 induction v0' with
 | nil =>
  exact  rfl
 | cons a l ih' =>
  exact  by
   show (bif f a then tU f l else false) = _
   rw [ih', List.all_cons]; cases f a <;> rfl
theorem kJ {α : Type} (f : α → Bool) : ∀ l, wn f l = l.any f := by
 intro v0'
 induction v0' with
 | nil =>
  exact  rfl
 | cons a l ih' =>
  exact  by
   show (bif f a then true else wn f l) = _
   rw [ih', List.any_cons]; cases f a <;> rfl
theorem ot {α : Type} (f : α → Bool) : ∀ l, xP f l = l.filter f := by
 intro v0'
 induction v0' with
 | nil =>
  exact  rfl
 | cons a l ih' =>
  exact  by
   show (bif f a then a :: xP f l else xP f l) = _
   rw [ih', List.filter_cons]; cases f a <;> rfl
theorem kY {α : Type} (m : List α) : ∀ l, t4 l m = l ++ m := by
 intro v0'
 induction v0' with
 | nil =>
  exact  rfl
 | cons a l ih' =>
  exact  by show a :: t4 l m = _; rw [ih']; rfl
theorem qF {α : Type} : ∀ l : List (List α), ti l = l.flatten := by
 intro v0'
 induction v0' with
 | nil =>
  exact  rfl
 | cons a l ih' =>
  exact  by show t4 a (ti l) = _; rw [kY, ih']; rfl
theorem iz {α β γ : Type} (f : α → β → Bool) (g : γ → α) (h : γ → β) : ∀ l : List γ, ta f (l.map g) (l.map h) = l.all fun x => f (g x) (h x) := by
 intro v0'
 induction v0' with
 | nil =>
  exact  rfl
 | cons a l ih' =>
  exact  by
   show (bif f (g a) (h a) then ta f (l.map g) (l.map h) else false) = _
   rw [ih', List.all_cons]; cases f (g a) (h a) <;> rfl
theorem vX {α β γ : Type} (f : α → β → Bool) (g : γ → α) (h : γ → β) : ∀ l : List γ, y6 f (l.map g) (l.map h) = l.any fun x => f (g x) (h x) := by
 intro v0'
 induction v0' with
 | nil =>
  exact  rfl
 | cons a l ih' =>
  exact  by
   show (bif f (g a) (h a) then true else y6 f (l.map g) (l.map h)) = _
   rw [ih', List.any_cons]; cases f (g a) (h a) <;> rfl
noncomputable def rows (v : T10) : List (List Nat) := [[0, v.ab, v.ac, v.ad, v.ae], [v.ab, 0, v.bc, v.bd, v.be], [v.ac, v.bc, 0, v.cd, v.ce], [v.ad, v.bd, v.cd, 0, v.de], [v.ae, v.be, v.ce, v.de, 0]]
theorem ia (v : T10) : rows v = abc.map fun x => abc.map fun y => v.get x y := rfl
noncomputable def Cl (t r : List (List Nat)) : Bool := ta (fun ry ty => ta (fun rx i => bif Nat.beq i 1 then ta (fun a b => Nat.ble a (Nat.succ b)) rx ry else true) r ty) r t
noncomputable def CJ (t r : List (List Nat)) : Bool := tU (fun ru => ta (fun d tx => bif Nat.beq d 0 then true else y6 (fun i dy => bif Nat.beq i 1 then Nat.beq (Nat.succ dy) d else false) tx ru) ru t) r
noncomputable def rng (v : T10) : Bool := tU (fun c => bif Nat.ble 1 c then Nat.ble c 4 else false) [v.ab, v.ac, v.ad, v.ae, v.bc, v.bd, v.be, v.cd, v.ce, v.de]
noncomputable def Bz (v : T10) : List T3 := [(v.bc + v.de, v.bd + v.ce, v.be + v.cd), (v.ac + v.de, v.ad + v.ce, v.ae + v.cd), (v.ab + v.de, v.ad + v.be, v.ae + v.bd), (v.ab + v.ce, v.ac + v.be, v.ae + v.bc), (v.ab + v.cd, v.ac + v.bd, v.ad + v.bc)]
theorem o7 (v : T10) : Bz v = abc.map (t3 fun p => v.get p.1 p.2) := ⋯
end
section
noncomputable def wP (f : Nat → Nat → Nat) : T10 := ⟨f 97 98, f 97 99, f 97 100, f 97 101, f 98 99, f 98 100, f 98 101, f 99 100, f 99 101, f 100 101⟩
theorem cV (v : T10) {x y : Nat} (hx : Lo x) (hy : Lo y) : v.get x y = v.get y x :=
 lo1 hy (lo1 hx (by rfl' : (abc.map fun x => abc.map (v.get x)) = mp (fun x => mp (fun y => v.get y x) abc) abc))
theorem b8 (v : T10) {x : Nat} (hx : Lo x) : v.get x x = 0 :=
 lo1 hx (by rfl' : (abc.map fun x => v.get x x) = mp (fun z => 0) abc)
theorem sD {f : Nat → Nat → Nat} {x y : Nat} (hx : Lo x) (hy : Lo y) (h : x < y) : (wP f).get x y = f x y := by
 have k := lo1 hy (lo1 hx (by rfl' : (abc.map fun x => abc.map fun y => cond (x.blt y) ((wP f).get x y) 0) = mp (fun x => mp (fun y => cond (x.blt y) (f x y) 0) abc) abc))
 rwa [Nat.blt_eq.mpr h] at k
theorem sM {f g : Nat → Nat → Nat} (hf : ∀ x y, Lo x → Lo y → x < y → f x y = g x y) (hs : ∀ x y, Lo x → Lo y → g x y = g y x) (hd : ∀ x, Lo x → g x x = 0) {x y : Nat} (hx : Lo x) (hy : Lo y) : (wP f).get x y = g x y := by
 rcases Nat.lt_trichotomy x y with h | h | h
 ·rw [sD hx hy h, hf x y hx hy h]
 ·subst h; rw [b8 _ hx, hd x hx]
 ·rw [cV _ hx hy, sD hy hx h, hf y x hy hx h, hs y x hy hx]
theorem vT {z : Nat} : mn 0 z = 0 := by unfold mn; rw [Nat.ble_eq.mpr (A9' z)]; rfl
theorem vP (v : T10) {w x y : Nat} (hw : Lo w) (hx : Lo x) (hy : Lo y) : (rnd v w).get x y = mnd v w x y :=
 sM (f := mnd v w) (g := mnd v w) (fun z z z z z => rfl) (fun x y hx hy => by
  unfold mnd
  rw [cV v hx hy, cV v hx hw, cV v hw hy]
  show mn _ (_ + _) = mn _ (_ + _)
  rw [Nat.add_comm]) (fun x hx => by unfold mnd; rw [b8 v hx, vT]) hx hy
noncomputable def Rep (v : T10) (d : P2 → Int) : Prop := ∀ x y, Lo x → Lo y → d (x, y) = (v.get x y : Nat)
theorem Rep.symD {v : T10} {d : P2 → Int} (h : Rep v d) : Ae d := ⟨fun u w hu hw => by rw [h u w hu hw, h w u hw hu, cV v hu hw], fun u hu => by rw [h u u hu hu, b8 v hu]; rfl, fun u w hu hw => by rw [h u w hu hw]; exact Int.natCast_nonneg _⟩
theorem jR (a b : Nat) : dk a b = ((mn a b : Nat) : Int) := by
 unfold dk mn
 cases h : Nat.ble a b with
 | true => have := Nat.ble_eq.mp h; rw [if_neg (by lia)]; rfl
 | false =>
  have : ¬ a ≤ b := fun q => by rw [Nat.ble_eq.mpr q] at h; cases h
  rw [if_pos (by lia)]; rfl
theorem Rep.round {v : T10} {d : P2 → Int} (h : Rep v d) {w : Nat} (hw : Lo w) : Rep (rnd v w) (Q10.foldl (aQ w) d) := fun x y hx hy => by
 rw [rq h.symD hw ⟨hx, hy⟩, vP v hw hx hy]
 unfold rwd mnd
 rw [h x y hx hy, h x w hx hw, h w y hw hy]
 exact jR _ _
theorem Rep.rounds : ∀ (l : List Nat) {v : T10} {d : P2 → Int}, (∀ w ∈ l, Lo w) → Rep v d → Rep (l.foldl rnd v) (l.foldl (fun d w => Q10.foldl (aQ w) d) d)
 | [], _, _, _, h => h
 | w :: l, _, _, hl, h => Rep.rounds l (fun x hx => hl x (.tail _ hx)) (h.round (hl w (.head _)))
noncomputable def isq (p : P2) (x y : Nat) : Bool := (Nat.beq p.1 x && Nat.beq p.2 y) || (Nat.beq p.1 y && Nat.beq p.2 x)
noncomputable def tieN (ps : List P2) (x y : Nat) : Nat := bif ps.any (fun p => isq p x y) then 1 else 9
noncomputable def init (ps : List P2) : T10 := wP (tieN ps)
theorem kL {p : P2} {x y : Nat} : isq p x y = true ↔ p = (x, y) ∨ p = (y, x) := by
 obtain ⟨a, b⟩ := p
 unfold isq
 rw [Bool.or_eq_true, Bool.and_eq_true, Bool.and_eq_true, Nat.beq_eq, Nat.beq_eq, Nat.beq_eq, Nat.beq_eq, Prod.mk.injEq, Prod.mk.injEq]
theorem gT {ps : List P2} {x y : Nat} : ps.any (fun p => isq p x y) = (ps.contains (x, y) || ps.contains (y, x)) := by
 rw [Bool.eq_iff_iff, List.any_eq_true, Bool.or_eq_true, List.contains_iff_mem, List.contains_iff_mem]
 constructor
 ·rintro ⟨p, hp, h⟩
  rcases kL.mp h with e | e
  ·exact .inl (e ▸ hp)
  ·exact .inr (e ▸ hp)
 ·rintro (h | h)
  ·exact ⟨_, h, kL.mpr (.inl rfl)⟩
  ·exact ⟨_, h, kL.mpr (.inr rfl)⟩
theorem z7 {ps : List P2} {x y : Nat} (h : x ≠ y) : d0 ps (x, y) = (tieN ps x y : Nat) := by
 unfold d0 tieN
 rw [gT, if_neg (fun q => h (beq_iff_eq.mp q))]
 cases ps.contains (x, y) || ps.contains (y, x) <;> rfl
theorem qq {ps : List P2} {x y : Nat} : tieN ps x y = tieN ps y x := by
 unfold tieN
 rw [gT, gT, Bool.or_comm]
noncomputable def ut (ps : List P2) (x y : Nat) : Nat := if x = y then 0 else tieN ps x y
theorem mh {ps : List P2} {x y : Nat} (hx : Lo x) (hy : Lo y) : (init ps).get x y = ut ps x y :=
 sM (f := tieN ps) (g := ut ps) (fun x y z z h => by unfold ut; rw [if_neg (by exact A8' ‹_›)]) (fun x y z z => by
  unfold ut
  by_cases e : x = y
  ·rw [if_pos e, if_pos e.symm]
  ·rw [if_neg e, if_neg (fun q => e q.symm), qq]) (fun x z => by unfold ut; rw [if_pos rfl]) hx hy
theorem Rep.init {ps : List P2} : Rep (init ps) (d0 ps) := fun x y hx hy => by
 rw [mh hx hy]
 unfold ut
 by_cases e : x = y
 ·subst e
  rw [if_pos rfl]
  unfold d0
  rw [if_pos (beq_self_eq_true _)]; rfl
 ·rw [if_neg e, z7 e]
theorem uP {ps : List P2} : Rep (r5 (Mine.init ps)) (cu ps) := Rep.rounds abc bG .init
theorem jP {ps : List P2} (h : fR ps) {v x : Nat} : x ∈ adj ps v ↔ ((v, x) ∈ ps ∨ (x, v) ∈ ps) := by
 induction ps with
 | nil => exact ⟨(fun q => nomatch q), fun q => q.elim (fun q => nomatch q) (fun q => nomatch q)⟩
 | cons p ps ih =>
  have ih := ih fun q hq => h q (.tail _ hq)
  obtain ⟨a, b⟩ := p
  have hab : a ≠ b := (h _ (.head _)).2
  show x ∈ (match a == v with | true => b :: adj ps v | false => match b == v with | true => a :: adj ps v | false => adj ps v) ↔ _
  rw [List.mem_cons, List.mem_cons, Prod.mk.injEq, Prod.mk.injEq]
  by_cases h1 : a = v
  ·rw [beq_iff_eq.mpr h1]
   subst h1
   show x ∈ b :: adj ps a ↔ _
   rw [List.mem_cons, ih]
   constructor
   ·rintro (q | q | q)
    ·exact .inl (.inl ⟨rfl, q⟩)
    ·exact .inl (.inr q)
    ·exact .inr (.inr q)
   ·rintro ((q | q) | (q | q))
    ·exact .inl q.2
    ·exact .inr (.inl q)
    ·exact absurd q.2 hab
    ·exact .inr (.inr q)
  ·rw [beq_eq_false_iff_ne.mpr h1]
   by_cases h2 : b = v
   ·rw [beq_iff_eq.mpr h2]
    subst h2
    show x ∈ a :: adj ps b ↔ _
    rw [List.mem_cons, ih]
    constructor
    ·rintro (q | q | q)
     ·exact .inr (.inl ⟨q, rfl⟩)
     ·exact .inl (.inr q)
     ·exact .inr (.inr q)
    ·rintro ((q | q) | (q | q))
     ·exact absurd q.1.symm hab
     ·exact .inr (.inl q)
     ·exact .inl q.1
     ·exact .inr (.inr q)
   ·rw [beq_eq_false_iff_ne.mpr h2]
    show x ∈ adj ps v ↔ _
    rw [ih]
    constructor
    ·rintro (q | q)
     ·exact .inl (.inr q)
     ·exact .inr (.inr q)
    ·rintro ((q | q) | (q | q))
     ·exact absurd q.1.symm h1
     ·exact .inl q
     ·exact absurd q.2.symm h2
     ·exact .inr q
theorem oK {ps : List P2} (h : fR ps) {v x : Nat} (hv : Lo v) (hx : Lo x) : (init ps).get v x = 1 ↔ x ∈ adj ps v := by
 rw [mh hv hx, jP h]
 unfold ut
 by_cases e : v = x
 ·rw [if_pos e]
  subst e
  exact ⟨(fun q => nomatch q), fun q => q.elim (fun q => absurd rfl (h _ q).2) fun q => absurd rfl (h _ q).2⟩
 ·rw [if_neg e]
  unfold tieN
  rw [gT, ← List.contains_iff_mem (as := ps), ← List.contains_iff_mem (as := ps), ← Bool.or_eq_true]
  cases ps.contains (v, x) || ps.contains (x, v)
  ·exact ⟨(fun q => nomatch q), (fun q => nomatch q)⟩
  ·exact ⟨fun z => rfl, fun z => rfl⟩
end
section
noncomputable def wg (c : Nat) (l : List Nat) : Bool := wn (fun a => Nat.beq c a) l
noncomputable def qS (p : P2) (l : List Nat) : Bool := bif wg p.1 l then wg p.2 l else false
noncomputable def y8 (p : P2) (l : List Nat) : Bool := bif wg p.1 l then true else wg p.2 l
noncomputable def m9 (b : Nat) (l : List (List Nat)) (p : P2) : List (List Nat) := bif (bif Nat.beq p.1 b then true else Nat.beq p.2 b) then l else t4 (xP (fun x => bif y8 p x then false else true) l) [ti (xP (y8 p) l)]
noncomputable def sU (P : List (Nat × List (List Nat))) (p : P2) : Bool := wn (fun x : Nat × List (List Nat) => bif (bif Nat.beq p.1 x.1 then true else Nat.beq p.2 x.1) then false else (bif wn (qS p) x.2 then false else true)) P
noncomputable def Co (v : T10) : List (P2 × Nat) := [((97, 98), v.ab), ((97, 99), v.ac), ((97, 100), v.ad), ((97, 101), v.ae), ((98, 99), v.bc), ((98, 100), v.bd), ((98, 101), v.be), ((99, 100), v.cd), ((99, 101), v.ce), ((100, 101), v.de)]
noncomputable def zg (v : T10) (P : List (Nat × List (List Nat))) : Bool := tU (fun p : P2 × Nat => bif Nat.ble p.2 1 then true else sU P p.1) (Co v)
noncomputable def eqB (a b : Bool) : Bool := match a with
 | true => b
 | false => match b with
  | true => false
  | false => true
noncomputable def yY : Nat := tri.foldl (fun m x => Nat.lor m (Nat.shiftLeft 1 (x.1 * 49 + x.2.1 * 7 + x.2.2))) 0
noncomputable def qh (N : Nat) (x : T3) : Bool := bif Nat.ble x.1 6 then (bif Nat.ble x.2.1 6 then (bif Nat.ble x.2.2 6 then Nat.beq (Nat.land (Nat.shiftRight N (Nat.add (Nat.mul x.1 49) (Nat.add (Nat.mul x.2.1 7) x.2.2))) 1) 1 else false) else false) else false
noncomputable def nJ (N : Nat) (v0 : T10) (P : List (Nat × List (List Nat))) : Bool := rr v0 fun v => bif rng v then (bif Cl (rows v0) (rows v) then (bif CJ (rows v0) (rows v) then (bif tU (qh N) (Bz v) then eqB (tU bn (Bz v)) (zg v P) else false) else false) else false) else false
noncomputable def P5 (ps : List P2) : List (Nat × List (List Nat)) := abc.map fun b => (b, ax ps b)
theorem dq {a b : Bool} : (bif a then b else false) = (a && b) := by cases a <;> rfl
theorem nF {a b : Bool} : (bif a then true else b) = (a || b) := by cases a <;> rfl
theorem pC {a : Bool} : (bif a then false else true) = !a := by cases a <;> rfl
theorem w5 (a b : Nat) : Nat.beq a b = (a == b) := by rw [Bool.eq_iff_iff, Nat.beq_eq, beq_iff_eq]
theorem iy {c : Nat} {l : List Nat} : wg c l = l.contains c := by
 unfold wg
 rw [kJ, List.contains_eq_any_beq]
 simp only [w5]
theorem qt {p : P2} : qS p = bH p := by
 funext l
 unfold qS bH
 rw [dq, iy, iy]
theorem vU {p : P2} : y8 p = bD p := by
 funext l
 unfold y8 bD
 rw [nF, iy, iy]
theorem p7 {b : Nat} {l : List (List Nat)} {p : P2} : m9 b l p = aU b l p := by
 unfold m9 aU
 rw [kY, ot, ot, qF, vU, nF]
 simp only [pC, w5]
 cases p.1 == b || p.2 == b <;> rfl
theorem tW {ps : List P2} {q : P2} : P5 (ps ++ [q]) = (P5 ps).map fun e => (e.1, m9 e.1 e.2 q) := by
 unfold P5
 rw [List.map_map]
 refine List.map_congr_left fun b z => ?_
 show (b, ax (ps ++ [q]) b) = (b, m9 b (ax ps b) q)
 unfold ax
 rw [List.foldl_append, p7]; rfl
theorem nV {ps : List P2} {p : P2} : sU (P5 ps) p = abc.any (ci ps p) := by
 unfold sU P5
 rw [kJ, List.any_map]
 refine congrArg (abc.any ·) (funext fun x => ?_)
 show (bif (bif Nat.beq p.1 x then true else Nat.beq p.2 x) then false else (bif wn (qS p) (ax ps x) then false else true)) = ci ps p x
 unfold ci
 rw [nF, pC, kJ, qt, w5, w5]
 have e : ((ax ps x).filter (bH p)).isEmpty = !(ax ps x).any (bH p) := by
  induction ax ps x with
  | nil => rfl
  | cons a l ih =>
   rw [List.filter_cons, List.any_cons]
   cases bH p a
   ·exact ih
   ·rfl
 rw [e]
 cases p.1 == x || p.2 == x <;> rfl
theorem nn {ps : List P2} {p : P2} {x : Nat} : ci ps (swp p) x = ci ps p x := by
 unfold ci
 have : bH (swp p) = bH p := funext fun l => by unfold bH swp; rw [Bool.and_comm]
 rw [this]
 show (!(p.2 == x || p.1 == x) && _) = _
 rw [Bool.or_comm]
theorem mX {ps : List P2} : ∀ (qs l : List P2), (qs.foldl (aH ps) l).isEmpty = (l.isEmpty && qs.all fun p => abc.any (ci ps p)) := by
 intro v0'
 induction v0' with
 | nil =>
  exact fun l => by rw [List.all_nil, Bool.and_true]; rfl
 | cons q qs ih' =>
  exact fun l => by
   show (qs.foldl (aH ps) (aH ps l q)).isEmpty = _
   rw [ih', List.all_cons, ← Bool.and_assoc]
   congr 1
   have e : (abc.filter (ci ps q)).isEmpty = !abc.any (ci ps q) := by
    induction abc with
    | nil => rfl
    | cons a l ih =>
     rw [List.filter_cons, List.any_cons]
     cases ci ps q a
     ·exact ih
     ·rfl
   unfold aH
   rw [e]
   cases abc.any (ci ps q) with
   | true => rw [Bool.and_true]; rfl
   | false =>
    rw [if_pos (show (!false) = true from rfl), Bool.and_false]
    cases l <;> rfl
theorem vL : ((List.range 7).all fun a => (List.range 7).all fun b => (List.range 7).all fun c => !qh yY (a, b, c) || tri.contains (a, b, c)) = true := ⋯
theorem nK {x : T3} (h : qh yY x = true) : x ∈ tri := by
 obtain ⟨a, b, c⟩ := x
 have h0 := h
 unfold qh at h0
 rw [dq, dq, dq, Bool.and_eq_true, Bool.and_eq_true, Bool.and_eq_true] at h0
 obtain ⟨h1, h2, h3, _⟩ := h0
 have h1 := Nat.ble_eq.mp h1
 have h2 := Nat.ble_eq.mp h2
 have h3 := Nat.ble_eq.mp h3
 have k := List.all_eq_true.mp (List.all_eq_true.mp (List.all_eq_true.mp vL a (List.mem_range.mpr (Nat.lt_succ_of_le h1))) b (List.mem_range.mpr (Nat.lt_succ_of_le h2))) c (List.mem_range.mpr (Nat.lt_succ_of_le h3))
 rw [h] at k
 exact List.contains_iff_mem.mp k
end
section
theorem vm {a b : Bool} (h : eqB a b = true) : a = b := by cases a <;> cases b <;> first | rfl | cases h
theorem t6 (v : T10) : Co v = Q10.map fun p => (p, v.get p.1 p.2) := rfl
theorem jM {p : P2} (h : p ∈ Q10) : p ∈ aG ∧ swp p ∈ aG := by
 have k : ∀ p ∈ Q10, p ∈ aG ∧ swp p ∈ aG := by decide
 exact k p h
theorem qJ (v : T10) : (Q10.map fun p => v.get p.1 p.2) = [v.ab, v.ac, v.ad, v.ae, v.bc, v.bd, v.be, v.cd, v.ce, v.de] := rfl
theorem xJ {x y : Nat} (hx : Lo x) (hy : Lo y) (h : x < y) : (x, y) ∈ Q10 := by
 rcases oW (x6 (p := (x, y)) ⟨hx, hy⟩) with e | e | e
 ·exact absurd (show x = y from e) (A8' h)
 ·exact e
 ·have k : ∀ p ∈ Q10, p.1 < p.2 := by decide
  exact absurd (show y < x from k _ e) (Nat.lt_asymm h)
theorem lT (v : T10) {x y : Nat} (hx : Lo x) (hy : Lo y) (h : x < y) : v.get x y ∈ [v.ab, v.ac, v.ad, v.ae, v.bc, v.bd, v.be, v.cd, v.ce, v.de] :=
 qJ v ▸ List.mem_map.mpr ⟨(x, y), xJ hx hy h, rfl⟩
theorem wA {v : T10} (h : rng v = true) {x y : Nat} (hx : Lo x) (hy : Lo y) (hne : x ≠ y) : 1 ≤ v.get x y ∧ v.get x y ≤ 4 := by
 unfold rng at h
 rw [f8, List.all_eq_true] at h
 have c : ∀ c ∈ [v.ab, v.ac, v.ad, v.ae, v.bc, v.bd, v.be, v.cd, v.ce, v.de], 1 ≤ c ∧ c ≤ 4 := fun c hc => by
  have := h c hc
  rw [dq, Bool.and_eq_true, Nat.ble_eq, Nat.ble_eq] at this
  exact this
 rcases Nat.lt_or_gt_of_ne hne with h | h
 ·exact c _ (lT v hx hy h)
 ·rw [cV v hx hy]; exact c _ (lT v hy hx h)
theorem xa {ps : List P2} {v : T10} (hr : Rep v (cu ps)) : zg v (P5 ps) = ((rF ps).foldl (aH ps) []).isEmpty := by
 rw [mX, List.isEmpty_nil, Bool.true_and]
 unfold zg
 rw [f8, t6, List.all_map, Bool.eq_iff_iff, List.all_eq_true, List.all_eq_true]
 have key : ∀ p, Los p → (gi (cu ps) p = false ↔ Nat.ble (v.get p.1 p.2) 1 = true) := fun p hp => by
  unfold gi
  rw [show cu ps p = (v.get p.1 p.2 : Nat) from hr p.1 p.2 hp.1 hp.2, decide_eq_false_iff_not, Nat.ble_eq]
  lia
 constructor
 ·intro h p hp
  obtain ⟨h1, h2⟩ := List.mem_filter.mp hp
  have hl := db p h1
  have main : ∀ q, q ∈ Q10 → gi (cu ps) q = true → abc.any (ci ps q) = true := fun q hq hf => by
   have := h q hq
   rw [show ((fun p : P2 × Nat => bif Nat.ble p.2 1 then true else sU (P5 ps) p.1) ∘ fun p : P2 => (p, v.get p.1 p.2)) q = (bif Nat.ble (v.get q.1 q.2) 1 then true else sU (P5 ps) q) from rfl] at this
   cases e : Nat.ble (v.get q.1 q.2) 1 with
   | true => rw [(key q (db q (jM hq).1)).mpr e] at hf; cases hf
   | false => rw [e] at this; rw [← nV]; exact this
  rcases oW h1 with e | e | e
  ·have : Nat.ble (v.get p.1 p.2) 1 = true := by rw [e, b8 v hl.2]; rfl
   rw [(key p hl).mpr this] at h2; cases h2
  ·exact main p e h2
  ·have hf : gi (cu ps) (swp p) = true := by
    unfold gi at h2 ⊢
    rwa [show cu ps (swp p) = cu ps p from hr.symD.sym p.2 p.1 hl.2 hl.1]
   have := main (swp p) e hf
   rwa [show ci ps (swp p) = ci ps p from funext fun x => nn] at this
 ·intro h q hq
  show (bif Nat.ble (v.get q.1 q.2) 1 then true else sU (P5 ps) q) = true
  cases e : Nat.ble (v.get q.1 q.2) 1 with
  | true => rfl
  | false =>
   show sU (P5 ps) q = true
   rw [nV]
   refine h q (List.mem_filter.mpr ⟨(jM hq).1, ?_⟩)
   cases f : gi (cu ps) q with
   | true => rfl
   | false => rw [(key q (db q (jM hq).1)).mp f] at e; cases e
theorem s9 {ps : List P2} (ht : fR ps) (hl : ps.length ≤ 13) (hn : ps ≠ []) (h : nJ yY (init ps) (P5 ps) = true) : dl ps := by
 unfold nJ at h
 rw [zO] at h
 simp only [dq, Bool.and_eq_true] at h
 obtain ⟨h1, h2, h3, h4, h5⟩ := h
 have hr : Rep (r5 (init ps)) (cu ps) := uP
 generalize r5 (init ps) = v at h1 h2 h3 h4 h5 hr
 have rg : ∀ x y, Lo x → Lo y → x ≠ y → 1 ≤ v.get x y ∧ v.get x y ≤ 4 := fun x y hx hy e => wA h1 hx hy e
 have dg : ∀ p, Los p → cu ps p = (v.get p.1 p.2 : Nat) := fun p hp => hr p.1 p.2 hp.1 hp.2
 have le4 : ∀ p, Los p → v.get p.1 p.2 ≤ 4 := fun p hp => by
  by_cases e : p.1 = p.2
  ·rw [e, b8 v hp.2]; exact Nat.le_add_left ..
  ·exact (rg _ _ hp.1 hp.2 e).2
 have m1 : ∀ y x u, Lo y → Lo x → Lo u → (init ps).get y x = 1 → v.get x u ≤ v.get y u + 1 := fun y x u hy hx hu e => by
  unfold Cl at h2
  rw [ia, ia, iz, List.all_eq_true] at h2
  have := h2 y (bU hy)
  rw [iz, List.all_eq_true] at this
  have := this x (bU hx)
  rw [e, iz] at this
  have := List.all_eq_true.mp this u (bU hu)
  exact Nat.ble_eq.mp this
 have m2 : ∀ u x, Lo u → Lo x → 1 ≤ v.get u x → ∃ y, Lo y ∧ (init ps).get x y = 1 ∧ v.get u y + 1 = v.get u x := fun u x hu hx e => by
  unfold CJ at h3
  rw [ia, ia, f8, List.all_map, List.all_eq_true] at h3
  have := h3 u (bU hu)
  have this : ta (fun d tx => bif Nat.beq d 0 then true else y6 (fun i dy => bif Nat.beq i 1 then Nat.beq (Nat.succ dy) d else false) tx (abc.map fun y => v.get u y)) (abc.map fun y => v.get u y) (abc.map fun x => abc.map fun y => (init ps).get x y) = true := this
  rw [iz, List.all_eq_true] at this
  have := this x (bU hx)
  rw [show Nat.beq (v.get u x) 0 = false from by rw [w5]; exact beq_eq_false_iff_ne.mpr (by exact Nat.ne_of_gt ‹_›)] at this
  rw [show ∀ z : Bool, (bif false then true else z) = z from fun w => rfl, vX, List.any_eq_true] at this
  obtain ⟨y, hy, q⟩ := this
  rw [dq, Bool.and_eq_true, Nat.beq_eq, Nat.beq_eq] at q
  exact ⟨y, bG y hy, q⟩
 have met : Met (cu ps) (adj ps) fun p => v.get p.1 p.2 := {
  cast := dg
  zero := fun p hp => by
   by_cases e : p.1 = p.2
   ·exact ⟨fun w => e, fun w => by rw [e, b8 v hp.2]⟩
   ·refine ⟨fun q => ?_, fun q => absurd q e⟩
    have := (rg _ _ hp.1 hp.2 e).1
    lia
  lo := fun y hy x hx => by
   rcases (jP ht).mp hx with q | q
   ·exact (ht _ q).1.2
   ·exact (ht _ q).1.1
  m1 := fun u y x hu hy hx => by
   have lx : Lo x := by
    rcases (jP ht).mp hx with q | q
    ·exact (ht _ q).1.2
    ·exact (ht _ q).1.1
   have := m1 y x u hy lx hu ((oK ht hy lx).mpr hx)
   show v.get u x ≤ v.get u y + 1
   rw [cV v hu lx, cV v hu hy]; exact this
  m2 := fun u x hu hx e => by
   obtain ⟨y, hy, q1, q2⟩ := m2 u x hu hx e
   refine ⟨y, hy, ?_, q2⟩
   rw [← oK ht hy hx, cV _ hy hx]; exact q1
  max := le4 }
 have t3e : ∀ b ∈ abc, t3 (sI ps) b = t3 (fun p => v.get p.1 p.2) b := fun b hb => by
  have hb := bG b hb
  have e : ∀ i j, i < 4 → j < 4 → sI ps (oth b i, oth b j) = v.get (oth b i) (oth b j) := fun i j hi hj => by
   unfold sI
   rw [dg (oth b i, oth b j) ⟨gz hb hi, gz hb hj⟩, Int.toNat_natCast]
  unfold t3 sA sB sC
  rw [e 0 1 (by decide) (by decide), e 2 3 (by decide) (by decide), e 0 2 (by decide) (by decide), e 1 3 (by decide) (by decide), e 0 3 (by decide) (by decide), e 1 2 (by decide) (by decide)]
 refine ⟨ht, hl, hn, fun p hp => ⟨_, dg p hp, by have := le4 p hp; exact B4' ‹_› (by decide)⟩, ?_, fun b hb => ?_, ?_⟩
 ·have diag : ∀ r ∈ abc.map fh, ∃ x, Lo x ∧ r = (false, (x, x), 0) := fun r hr => by
   obtain ⟨x, hx, rfl⟩ := C5' hr
   exact ⟨x, bG x hx, rfl⟩
  have t0 : T0 (fun p => v.get p.1 p.2) 1 (abc.map fh) := {
   nd := by unfold kys; decide
   el := fun r hr => by
    obtain ⟨x, hx, rfl⟩ := diag r hr
    refine ⟨⟨hx, hx⟩, ?_, ?_⟩
    ·show 0 = v.get x x
     rw [b8 v hx]
    ·show v.get x x < 1
     rw [b8 v hx]; decide
   all := fun p hp e => by
    have e1 := (met.zero p hp).mp (by lia)
    obtain ⟨a, b⟩ := p
    cases e1
    exact List.mem_map.mpr ⟨fh a, List.mem_map_of_mem (f := fh) (bU hp.1), rfl⟩ }
  obtain ⟨t, e1, e2⟩ := rj met 4 1 fl0 (abc.map fh) (by decide) (by decide) t0 (fun p hp => by
   obtain ⟨x, hx, rfl⟩ := C5' hp
   have := bG x hx
   refine ⟨⟨this, this⟩, ?_⟩
   show v.get x x + 1 = 1
   rw [b8 v this]) (fun p hp e => by
   have e1 := (met.zero p hp).mp (by exact Nat.succ.inj ‹_›)
   obtain ⟨a, b⟩ := p
   cases e1
   exact List.mem_map_of_mem (f := fun x : Nat => (x, x)) (bU hp.1))
  have all : ∀ p, Los p → p ∈ kys t := fun p hp => e2.all p hp (by have := le4 p hp; show v.get p.1 p.2 < 1 + 4; exact Nat.lt_succ_of_le ‹_›)
  have l1 := kI e2.nd fun p hp => by
   obtain ⟨r, hr, rfl⟩ := C5' hp
   exact (e2.el r hr).1
  have l2 := sQ aG (kys t) (by decide) fun p hp => all p (db p hp)
  rw [show aG.length = 25 from rfl] at l2
  unfold kys at l1 l2
  rw [List.length_map] at l1 l2
  exact ⟨t, e1, by exact Nat.le_antisymm ‹_› ‹_›, e2.nd, fun r hr => by rw [dg _ (e2.el r hr).1, ← (e2.el r hr).2.1], all⟩
 ·rw [t3e b hb]
  rw [f8, List.all_eq_true] at h4
  refine nK (h4 _ ?_)
  rw [o7]
  exact List.mem_map_of_mem hb
 ·rw [← xa hr, ← vm h5, f8, o7, List.all_map, Bool.eq_iff_iff, List.all_eq_true, List.all_eq_true]
  constructor
  ·intro h b hb
   have := h b hb
   rw [t3e b hb] at this
   exact this
  ·intro h b hb
   rw [t3e b hb]
   exact h b hb
end
section
noncomputable def trN : Nat := nat_lit 559936218919248512220379801023080064595853090084938731652960891042390372595445345261828155234251177984
theorem vI : yY = trN := ⋯
noncomputable def y4 (v : T10) (q : P2) : T10 := ⟨bif isq q 97 98 then 1 else v.ab, bif isq q 97 99 then 1 else v.ac, bif isq q 97 100 then 1 else v.ad, bif isq q 97 101 then 1 else v.ae, bif isq q 98 99 then 1 else v.bc, bif isq q 98 100 then 1 else v.bd, bif isq q 98 101 then 1 else v.be, bif isq q 99 100 then 1 else v.cd, bif isq q 99 101 then 1 else v.ce, bif isq q 100 101 then 1 else v.de⟩
theorem pZ {ps : List P2} {q : P2} {x y : Nat} : tieN (ps ++ [q]) x y = bif isq q x y then 1 else tieN ps x y := by
 unfold tieN
 rw [List.any_append, List.any_cons, List.any_nil, Bool.or_false]
 cases isq q x y <;> cases ps.any fun p => isq p x y <;> rfl
theorem n4 {ps : List P2} {q : P2} : init (ps ++ [q]) = y4 (init ps) q := by
 unfold init wP y4
 simp only [pZ]
noncomputable def goT (N : Nat) (qs : List P2) : List P2 → T10 → List (Nat × List (List Nat)) → Bool := List.rec (fun z v P => nJ N v P) (fun q z ih ps v P => bif ps.contains q then ih ps v P else (bif ih ps v P then pP (y4 v q) fun u => ih (t4 ps [q]) u (P.map fun e => (e.1, m9 e.1 e.2 q)) else false)) qs
theorem zF {N : Nat} : ∀ (qs ps : List P2), goT N qs ps (init ps) (P5 ps) = true → ∀ (f : Nat → Bool) (k : Nat), nJ N (init (tie f k qs ps)) (P5 (tie f k qs ps)) = true := by
 intro v0'
 induction v0' with
 | nil =>
  exact fun ps h z z => h
 | cons q qs ih' =>
  exact fun ps h f k => by
   have h : (bif ps.contains q then goT N qs ps (init ps) (P5 ps) else (bif goT N qs ps (init ps) (P5 ps) then pP (y4 (init ps) q) fun u => goT N qs (t4 ps [q]) u ((P5 ps).map fun e => (e.1, m9 e.1 e.2 q)) else false)) = true := h
   rw [kj, kY, ← n4, ← tW] at h
   show nJ N (init (tie f (k + 1) qs (grow (f k) q ps))) (P5 (tie f (k + 1) qs (grow (f k) q ps))) = true
   unfold grow
   cases e : ps.contains q with
   | true =>
    rw [e] at h
    rw [Bool.not_true, Bool.and_false, if_neg (by decide)]
    exact ih' ps h f (k + 1)
   | false =>
    rw [e] at h
    have h : (bif goT N qs ps (init ps) (P5 ps) then goT N qs (ps ++ [q]) (init (ps ++ [q])) (P5 (ps ++ [q])) else false) = true := h
    rw [dq, Bool.and_eq_true] at h
    cases f k with
    | true => exact ih' (ps ++ [q]) h.2 f (k + 1)
    | false => exact ih' ps h.1 f (k + 1)
noncomputable def chk (N i j k : Nat) : Bool := pP (init (T1 i j k)) fun v => goT N Q9 (T1 i j k) v (P5 (T1 i j k))
theorem tN : chk trN 0 0 0 = true := ⋯
theorem u6 : chk trN 0 0 1 = true := ⋯
theorem uh : chk trN 0 0 2 = true := ⋯
theorem ud : chk trN 0 0 3 = true := ⋯
theorem uq : chk trN 0 1 0 = true := ⋯
theorem s8 : chk trN 0 1 1 = true := ⋯
theorem uM : chk trN 0 1 2 = true := ⋯
theorem sS : chk trN 0 1 3 = true := ⋯
theorem ur : chk trN 0 2 0 = true := ⋯
theorem sT : chk trN 0 2 1 = true := ⋯
theorem vz : chk trN 0 2 2 = true := ⋯
theorem tM : chk trN 0 2 3 = true := ⋯
theorem tJ : chk trN 1 0 0 = true := ⋯
theorem tQ : chk trN 1 0 1 = true := ⋯
theorem uJ : chk trN 1 0 2 = true := ⋯
theorem vG : chk trN 1 0 3 = true := ⋯
theorem tY : chk trN 1 1 0 = true := ⋯
theorem uH : chk trN 1 1 1 = true := ⋯
theorem te : chk trN 1 1 2 = true := ⋯
theorem uE : chk trN 1 1 3 = true := ⋯
theorem uc : chk trN 1 2 0 = true := ⋯
theorem u8 : chk trN 1 2 1 = true := ⋯
theorem tS : chk trN 1 2 2 = true := ⋯
theorem tZ : chk trN 1 2 3 = true := ⋯
theorem tz {i j k : Nat} (hi : i < 2) (hj : j < 3) (hk : k < 4) : chk trN i j k = true := by
 have a : i = 0 ∨ i = 1 := by lia
 have b : j = 0 ∨ j = 1 ∨ j = 2 := by lia
 have c : k = 0 ∨ k = 1 ∨ k = 2 ∨ k = 3 := by lia
 rcases a with rfl | rfl <;> rcases b with rfl | rfl | rfl <;> rcases c with rfl | rfl | rfl | rfl
 exact tN
 exact u6
 exact uh
 exact ud
 exact uq
 exact s8
 exact uM
 exact sS
 exact ur
 exact sT
 exact vz
 exact tM
 exact tJ
 exact tQ
 exact uJ
 exact vG
 exact tY
 exact uH
 exact te
 exact uE
 exact uc
 exact u8
 exact tS
 exact tZ
theorem u4 {f : Nat → Bool} : ∀ (qs ps : List P2) (k : Nat), ∀ q ∈ tie f k qs ps, q ∈ ps ∨ q ∈ qs := by
 intro v0'
 induction v0' with
 | nil =>
  exact fun ps z q hq => .inl hq
 | cons r qs ih' =>
  exact fun ps k q hq => by
   rcases ih' (grow (f k) r ps) (k + 1) q hq with h | h
   ·unfold grow at h
    split at h
    ·rcases C3' h with h | h
     ·exact .inl h
     ·rw [C1' h]; exact .inr (.head _)
    ·exact .inl h
   ·exact .inr (.tail _ h)
theorem ug {f : Nat → Bool} : ∀ (qs ps : List P2) (k : Nat), ps.length ≤ (tie f k qs ps).length ∧ (tie f k qs ps).length ≤ ps.length + qs.length := by
 intro v0'
 induction v0' with
 | nil =>
  exact fun ps z => ⟨A6' _, A6' _⟩
 | cons r qs ih' =>
  exact fun ps k => by
   obtain ⟨h1, h2⟩ := ih' (grow (f k) r ps) (k + 1)
   have : ps.length ≤ (grow (f k) r ps).length ∧ (grow (f k) r ps).length ≤ ps.length + 1 := by
    unfold grow
    split
    ·rw [List.length_append]; exact ⟨Nat.le_add_right _ _, A6' _⟩
    ·exact ⟨A6' _, Nat.le_succ _⟩
   rw [List.length_cons]
   show ps.length ≤ (tie f (k + 1) qs (grow (f k) r ps)).length ∧ (tie f (k + 1) qs (grow (f k) r ps)).length ≤ _
   lia
theorem plain (f : Nat → Bool) (i j k : Nat) (hi : i < 2) (hj : j < 3) (hk : k < 4) : dl (tie f 0 Q9 (T1 i j k)) := by
 obtain ⟨h1, h2⟩ := ug (f := f) Q9 (T1 i j k) 0
 have t1 : (T1 i j k).length = 4 := rfl
 have q9 : Q9.length = 9 := rfl
 have hl : ∀ q ∈ T1 i j k, Tie q ∧ q.1 ≠ q.2 := fun q hq => by
  unfold Tie Lo
  simp only [T1, List.mem_cons, List.not_mem_nil, or_false] at hq
  rcases hq with rfl | rfl | rfl | rfl <;> simp <;> lia
 have hq9 : ∀ q ∈ Q9, Tie q ∧ q.1 ≠ q.2 := fun q hq => by
  have k : ∀ q ∈ Q9, ((97 ≤ q.1 ∧ q.1 ≤ 101) ∧ (97 ≤ q.2 ∧ q.2 ≤ 101)) ∧ q.1 ≠ q.2 := by decide
  exact k q hq
 have hc := tz hi hj hk
 unfold chk at hc
 rw [kj] at hc
 refine s9 (fun q hq => (u4 Q9 (T1 i j k) 0 q hq).elim (hl q) (hq9 q)) (by assumption) (fun e => ?_) ?_
 ·rw [e] at h1
  rw [t1] at h1
  exact absurd h1 (by decide)
 ·rw [vI]
  exact zF Q9 (T1 i j k) hc f 0
end
end Mine
theorem PySem.Challenge.cw_wv0036_01_holds : PySem.Challenge.rw_wv0036_01.Holds :=
  Mine.holds_of Mine.plain
