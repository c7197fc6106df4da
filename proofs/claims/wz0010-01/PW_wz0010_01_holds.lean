import PyProof.Rows.All
import Wide.All
import OpenK.KLine
import KE.KCellOne
import KE.KTreeB
import KE.KxFormat
import KE.KIsAll
import PySem.Challenge.RW_wz0010_01
open PySem PySem.W PyProof.Rows
set_option Elab.async false
set_option linter.all false
set_option compiler.extract_closed false
set_option maxRecDepth 100000
set_option maxHeartbeats 8000000
namespace Mine
/-- the looks at the text, one by one -/
theorem well : OpenLaw.wellSaid PySem.Challenge.rw_wz0010_01 = true := by
  delta OpenLaw.wellSaid OpenRow.wellSaid OpenRow.partSaid looksOpen
  repeat' (with_reducible refine look_both ?_ ?_)
  all_goals decide +kernel
/-- the text, those of its statements that the law comes to -/
noncomputable def vw : Program := { PySem.Challenge.pw_wz0010_01 with main := { PySem.Challenge.pw_wz0010_01.main with body := [1, 2, 3, 4, 6, 7, 9, 11, 12, 13, 18, 19, 20].filterMap fun i => PySem.Challenge.pw_wz0010_01.main.body[i]? } }
noncomputable def lvs : List (Str × WData) := [(Str.ofString "hexdigits", WData.str ⟨#[48, 49, 50, 51, 52, 53, 54, 55, 56, 57, 97, 98, 99, 100, 101, 102, 65, 66, 67, 68, 69, 70]⟩)]
/- the head, its top checked at once and not in pieces: the pieces' road lays 16 MB of twins -/
theorem lay_law : True := by
  k_with "o_law" => (refine holds_law well fun said => ?_)
  exact True.intro
local macro_rules | `(tactic| o_law) => `(tactic| k_extra "o_law")
theorem lay_head : True := by
  k_with "o_head" => (refine holds_open (q := vw) (loose := [Str.ofString "_max_append", Str.ofString "hexdigits", Str.ofString "decode", Str.ofString "capwords"]) (Xt := fun s => xlAt vw lvs s && recOk (RowW.records (OpenRow.toRowW (OpenLaw.row PySem.Challenge.rw_wz0010_01))) s) (XP := XL vw lvs) (Yf := Hook.obs (kHook hd.heap_1 [2, 3, 6, 15, 17, 18, 20, 21, 22, 24, 25, 27, 28, 29, 31, 32, 34, 35, 36, 38, 39, 41, 42, 43, 45, 46, 48, 49, 50, 52, 53, 55, 56, 57, 58, 60, 61, 63, 64, 65, 67, 68, 70, 71, 72, 73, 75, 76, 78, 79, 80, 81, 83, 84, 86, 87, 88, 91, 92, 93, 96, 97, 98, 101, 102] (fun _ => by kernel_rfl))) (Ya := Hook.val (kHook hd.heap_1 [2, 3, 6, 15, 17, 18, 20, 21, 22, 24, 25, 27, 28, 29, 31, 32, 34, 35, 36, 38, 39, 41, 42, 43, 45, 46, 48, 49, 50, 52, 53, 55, 56, 57, 58, 60, 61, 63, 64, 65, 67, 68, 70, 71, 72, 73, 75, 76, 78, 79, 80, 81, 83, 84, 86, 87, 88, 91, 92, 93, 96, 97, 98, 101, 102] (fun _ => by kernel_rfl))) (YP := Hook.says (kHook hd.heap_1 [2, 3, 6, 15, 17, 18, 20, 21, 22, 24, 25, 27, 28, 29, 31, 32, 34, 35, 36, 38, 39, 41, 42, 43, 45, 46, 48, 49, 50, 52, 53, 55, 56, 57, 58, 60, 61, 63, 64, 65, 67, 68, 70, 71, 72, 73, 75, 76, 78, 79, 80, 81, 83, 84, 86, 87, 88, 91, 92, 93, 96, 97, 98, 101, 102] (fun _ => by kernel_rfl))) (N := 1140) ?hl (Hook.of (kHook hd.heap_1 [2, 3, 6, 15, 17, 18, 20, 21, 22, 24, 25, 27, 28, 29, 31, 32, 34, 35, 36, 38, 39, 41, 42, 43, 45, 46, 48, 49, 50, 52, 53, 55, 56, 57, 58, 60, 61, 63, 64, 65, 67, 68, 70, 71, 72, 73, 75, 76, 78, 79, 80, 81, 83, 84, 86, 87, 88, 91, 92, 93, 96, 97, 98, 101, 102] (fun _ => by kernel_rfl))) (Hook.keeps (kHook hd.heap_1 [2, 3, 6, 15, 17, 18, 20, 21, 22, 24, 25, 27, 28, 29, 31, 32, 34, 35, 36, 38, 39, 41, 42, 43, 45, 46, 48, 49, 50, 52, 53, 55, 56, 57, 58, 60, 61, 63, 64, 65, 67, 68, 70, 71, 72, 73, 75, 76, 78, 79, 80, 81, 83, 84, 86, 87, 88, 91, 92, 93, 96, 97, 98, 101, 102] (fun _ => by kernel_rfl))) (fun s e => xl_of s (Bool.and_eq_true_iff.mp e).1) XL.keeps (by rfl) (by rfl) (by rfl) (fun s e => recFacts_of (Bool.and_eq_true_iff.mp e).2) (by rfl) (by first | assumption | decide +kernel) (by decide +kernel) ⟨rfl, rfl, rfl, rfl, rfl, by decide +kernel⟩ ?hw ?hc; (case hl => intro w; kernel_rfl))
  exact True.intro
local macro_rules | `(tactic| o_head $_) => `(tactic| k_extra "o_head")
open_top hd for PySem.Challenge.rw_wz0010_01
open PySem PySem.W PySem.Calls PyProof.Rows
/-! ### C1 -/
section
noncomputable abbrev MM (w : World) : Model := model Challenge.rw_wz0010_01.row.prog w

/-- what stands at every heap of the call -/
structure GG (w : World) (mg mb : Str → Option Value) (h : Heap) : Prop where
  k : (hd.heap_1 w.params).In h
  g : h.Ns mainGlobals mg
  b : h.Ns builtinsNs mb
  nolimit : h.NoLimit
  bb : ∀ x : Str, x ≠ "__name__" → mb x = bootBuiltins x

theorem GG.keeps {w : World} {mg mb : Str → Option Value} {h h' : Heap} (G : GG w mg mb h) (hk : ∀ b o, h.get? b = some o → h'.get? b = some o) : GG w mg mb h' :=
  ⟨G.k.keeps hk, G.g.keeps hk, G.b.keeps hk, G.nolimit.keeps hk, G.bb⟩

/-- the room that a call has -/
structure AOk (A : Around) (n : Nat) : Prop where
  h : A.handled = none
  d : A.depth + n ≤ 400
  u : A.units + 8 * n ≤ 1000
theorem AOk.in1 {A : Around} {n : Nat} (x : AOk A (n + 1)) : AOk A.in1 n := ⟨x.h, by have := x.d; show A.depth + n ≤ 400; omega, by have := x.u; show A.units + 1 + 8 * n ≤ 1000; omega⟩
theorem AOk.deeper {A : Around} {n : Nat} (x : AOk A (n + 1)) (env : Env) : AOk (A.deeper env) n := ⟨x.h, by have := x.d; show A.depth + 1 + n ≤ 400; omega, by have := x.u; show A.units + 3 + 8 * n ≤ 1000; omega⟩
theorem AOk.room {A : Around} {n : Nat} (x : AOk A n) : A.depth < recursionLimit := by have := x.d; unfold recursionLimit; omega
theorem AOk.units {A : Around} {n : Nat} (x : AOk A n) : A.units < cLine := by have := x.u; unfold cLine; omega
theorem AOk.le {A : Around} {n k : Nat} (x : AOk A n) (h : k ≤ n) : AOk A k := ⟨x.h, by have := x.d; omega, by have := x.u; omega⟩

/-! ### the ledger: made objects and what is known of each -/
noncomputable abbrev Cell := Obj → Prop
noncomputable abbrev Led := List (Addr × Cell)
noncomputable abbrev Loc := List (Str × Value)
noncomputable abbrev GL := List (Nat × GenState)
noncomputable def Has (h : Heap) (p : Addr × Cell) : Prop := ∃ o, h.get? p.1 = some o ∧ p.2 o
noncomputable def nsC (l : Loc) : Cell := fun o => ∃ es ep, o.data = .dict es ep ∧ StrKeys es ∧ ∀ x v, l.lookup x = some v → nsFind es x = some v
noncomputable def lstC (vs : List Value) : Cell := fun o => ∃ n, o = { cls := .type "list", data := .seq vs.toArray n }
noncomputable def tupC (vs : List Value) : Cell := fun o => o.cls = .type "tuple" ∧ ∃ n, o.data = .seq vs.toArray n
noncomputable def celC (v : Option Value) : Cell := fun o => o.data = .cell v
noncomputable def eqC (o : Obj) : Cell := fun o' => o' = o

theorem Has.ns {h : Heap} {a : Addr} {l : Loc} (x : Has h (a, nsC l)) : ∃ m, h.Ns a m ∧ ∀ x v, l.lookup x = some v → m x = some v := let ⟨o, ho, es, ep, r1, r2, r3⟩ := x; ⟨nsFind es, ⟨o, es, ep, ho, r1, r2, fun _ => rfl⟩, r3⟩
theorem Has.of_ns {h : Heap} {a : Addr} {l : Loc} {m : Str → Option Value} (x : h.Ns a m) (e : ∀ y v, l.lookup y = some v → m y = some v) : Has h (a, nsC l) := let ⟨o, es, ep, ho, r1, r2, r3⟩ := x; ⟨o, ho, es, ep, r1, r2, fun y v q => (r3 y).trans (e y v q)⟩
theorem Has.pln {h : Heap} {a : Addr} {l : List Value} (x : Has h (a, lstC l)) : h.PlainList a l.toArray := let ⟨o, ho, n, e⟩ := x; ⟨n, e ▸ ho⟩
theorem Has.lst {h : Heap} {a : Addr} {l : List Value} (x : Has h (a, lstC l)) : h.IsList a l.toArray := x.pln.isList
theorem Has.of_lst {h : Heap} {a : Addr} {l : List Value} (x : h.PlainList a l.toArray) : Has h (a, lstC l) := let ⟨n, e⟩ := x; ⟨_, e, n, rfl⟩
theorem Has.tup {h : Heap} {a : Addr} {l : List Value} (x : Has h (a, tupC l)) : h.IsTuple a l.toArray := x
theorem Has.of_tup {h : Heap} {a : Addr} {l : List Value} (x : h.IsTuple a l.toArray) : Has h (a, tupC l) := x
theorem Has.cell {h : Heap} {a : Addr} {v : Option Value} (x : Has h (a, celC v)) : h.IsCell a v := x
theorem Has.eq {h : Heap} {a : Addr} {o : Obj} (x : Has h (a, eqC o)) : h.get? a = some o := let ⟨_, h1, h2⟩ := x; h2 ▸ h1
theorem Has.keeps {h h' : Heap} {p : Addr × Cell} (x : Has h p) (k : ∀ o, h.get? p.1 = some o → h'.get? p.1 = some o) : Has h' p := let ⟨o, ho, r⟩ := x; ⟨o, k o ho, r⟩

structure Inn (s₀ : Shared) (led : Led) (gs : GL) (s : Shared) : Prop where
  keep : ∀ b o, s₀.heap.get? b = some o → s.heap.get? b = some o
  ld : ∀ p ∈ led, Has s.heap p ∧ s₀.heap.get? p.1 = none
  nd : (led.map Prod.fst).Nodup
  os : s.os = s₀.os
  bare : AllBare s.gens
  gl : ∀ p ∈ gs, s.gens[p.1]? = some p.2

inductive Upd (a : Addr) (c c' : Cell) : Led → Led → Prop
  | head {r : Led} : Upd a c c' ((a, c) :: r) ((a, c') :: r)
  | tail {p : Addr × Cell} {r r' : Led} : Upd a c c' r r' → Upd a c c' (p :: r) (p :: r')
theorem Upd.mem {a : Addr} {c c' : Cell} {r r' : Led} (u : Upd a c c' r r') : (a, c) ∈ r := by
  induction u with
  | head => exact List.mem_cons_self
  | tail _ ih => exact List.mem_cons_of_mem _ ih
theorem Upd.fst {a : Addr} {c c' : Cell} {r r' : Led} (u : Upd a c c' r r') : r'.map Prod.fst = r.map Prod.fst := by
  induction u with
  | head => rfl
  | tail _ ih => rw [List.map_cons, List.map_cons, ih]
theorem Upd.of_mem {a : Addr} {c c' : Cell} {r r' : Led} (u : Upd a c c' r r') (nd : (r.map Prod.fst).Nodup) : ∀ p ∈ r', p = (a, c') ∨ (p ∈ r ∧ p.1 ≠ a) := by
  induction u with
  | head =>
    intro p hp
    rw [List.map_cons, List.nodup_cons] at nd
    rcases List.mem_cons.mp hp with rfl | hp
    · exact .inl rfl
    · exact .inr ⟨List.mem_cons_of_mem _ hp, fun e => nd.1 (List.mem_map.mpr ⟨p, hp, e⟩)⟩
  | tail u ih =>
    intro p hp
    rw [List.map_cons, List.nodup_cons] at nd
    rcases List.mem_cons.mp hp with rfl | hp
    · exact .inr ⟨List.mem_cons_self, fun e => nd.1 (List.mem_map.mpr ⟨_, u.mem, e.symm⟩)⟩
    · rcases ih nd.2 p hp with e | ⟨h1, h2⟩
      · exact .inl e
      · exact .inr ⟨List.mem_cons_of_mem _ h1, h2⟩

/-- a row of the ledger -/
inductive Row (a : Addr) (c : Cell) : Led → Prop
  | head {r : Led} : Row a c ((a, c) :: r)
  | tail {p : Addr × Cell} {r : Led} : Row a c r → Row a c (p :: r)
theorem Row.mem {a : Addr} {c : Cell} {r : Led} (u : Row a c r) : (a, c) ∈ r := by
  induction u with
  | head => exact List.mem_cons_self
  | tail _ ih => exact List.mem_cons_of_mem _ ih
/-- take one row out of the ledger -/
inductive Pull (a : Addr) (c : Cell) : Led → Led → Prop
  | head {r : Led} : Pull a c ((a, c) :: r) r
  | tail {p : Addr × Cell} {r r' : Led} : Pull a c r r' → Pull a c (p :: r) (p :: r')
theorem Pull.perm {a : Addr} {c : Cell} {r r' : Led} (u : Pull a c r r') : r.Perm ((a, c) :: r') := by
  induction u with
  | head => exact .refl _
  | tail _ ih => exact (ih.cons _).trans (.swap _ _ _)
/-- choose rows out of the ledger, in another order -/
inductive Pick : Led → Led → Prop
  | nil {r : Led} : Pick [] r
  | all {r : Led} : Pick r r
  | cons {a : Addr} {c c' : Cell} {r r' l : Led} : Pull a c r r' → c = c' → Pick l r' → Pick ((a, c') :: l) r
  | skip {p : Addr × Cell} {l r : Led} : Pick l r → Pick l (p :: r)
theorem Pick.sub {l r : Led} (u : Pick l r) : ∃ l', l'.Perm r ∧ l.Sublist l' := by
  induction u with
  | nil => exact ⟨_, .refl _, List.nil_sublist _⟩
  | all => exact ⟨_, .refl _, .refl _⟩
  | cons p e _ ih =>
    obtain ⟨l', h1, h2⟩ := ih
    subst e
    exact ⟨_, (h1.cons _).trans p.perm.symm, h2.cons_cons _⟩
  | skip _ ih =>
    obtain ⟨l', h1, h2⟩ := ih
    exact ⟨_, h1.cons _, h2.cons _⟩

theorem get?_none_of_size {h : Heap} {a : Addr} (ha : h.objs.size ≤ a) : h.get? a = none := by
  cases e : h.get? a with
  | none => rfl
  | some o => exact absurd (Heap.lt_size e) (Nat.not_lt.mpr ha)

section
variable {s₀ s s' : Shared} {led led' : Led} {gs : GL}
theorem Inn.start {s : Shared} (h : AllBare s.gens) : Inn s [] [] s := ⟨fun _ _ e => e, fun _ h => (nomatch h), List.nodup_nil, rfl, h, fun _ h => (nomatch h)⟩
theorem Inn.keeps (H : Inn s₀ led gs s) (k : ∀ b o, s.heap.get? b = some o → s'.heap.get? b = some o) (ho : s'.os = s.os := by rfl) (hg : s'.gens = s.gens := by rfl) : Inn s₀ led gs s' :=
  ⟨fun b o e => k b o (H.keep b o e), fun p hp => ⟨(H.ld p hp).1.keeps (k _), (H.ld p hp).2⟩, H.nd, ho.trans H.os, hg ▸ H.bare, hg ▸ H.gl⟩
theorem Inn.tok (H : Inn s₀ led gs s) (t : Nat) : Inn s₀ led gs { s with toks := t } := H.keeps fun _ _ e => e
theorem Inn.has (H : Inn s₀ led gs s) {a : Addr} {c : Cell} (hm : (a, c) ∈ led) : Has s.heap (a, c) := (H.ld _ hm).1
theorem Inn.fresh (H : Inn s₀ led gs s) {a : Addr} {c : Cell} (hm : (a, c) ∈ led) : s₀.heap.get? a = none := (H.ld _ hm).2
theorem Inn.add (H : Inn s₀ led gs s) {D : Addr} {c : Cell} (k : ∀ b o, s.heap.get? b = some o → s'.heap.get? b = some o) (hD : s.heap.get? D = none) (hD' : Has s'.heap (D, c)) (ho : s'.os = s.os := by rfl) (hg : s'.gens = s.gens := by rfl) :
    Inn s₀ ((D, c) :: led) gs s' := by
  have H' := H.keeps k ho hg
  refine ⟨H'.keep, fun p hp => ?_, ?_, H'.os, H'.bare, H'.gl⟩
  · rcases List.mem_cons.mp hp with rfl | hp
    · refine ⟨hD', ?_⟩
      show s₀.heap.get? D = none
      cases q : s₀.heap.get? D with
      | none => rfl
      | some o' => rw [H.keep _ _ q] at hD; cases hD
    · exact H'.ld p hp
  · rw [List.map_cons, List.nodup_cons]
    refine ⟨fun hm => ?_, H.nd⟩
    obtain ⟨p, hp, e⟩ := List.mem_map.mp hm
    obtain ⟨o, ho, _⟩ := (H.ld p hp).1
    rw [show p.1 = D from e, hD] at ho; cases ho
theorem Inn.push (H : Inn s₀ led gs s) {o : Obj} {c : Cell} (hc : c o) (t : Nat) (hf : o.isFreed = false := by rfl) : Inn s₀ ((s.heap.objs.size, c) :: led) gs { s with heap := s.heap.push o, toks := t } :=
  H.add (fun _ _ e => Heap.get?_push_of_some _ e) (get?_none_of_size (Nat.le_refl _)) ⟨o, Heap.get?_push_size _ hf, hc⟩
theorem Inn.upd (H : Inn s₀ led gs s) {a : Addr} {c c' : Cell} (u : Upd a c c' led led') (hs : ∀ b o, b ≠ a → s.heap.get? b = some o → s'.heap.get? b = some o) (he : Has s'.heap (a, c')) (ho : s'.os = s.os := by rfl) (hg : s'.gens = s.gens := by rfl) :
    Inn s₀ led' gs s' := by
  have ha := H.ld _ u.mem
  refine ⟨fun b ob e => hs b ob (fun q => ?_) (H.keep b ob e), fun p hp => ?_, u.fst ▸ H.nd, ho.trans H.os, hg ▸ H.bare, hg ▸ H.gl⟩
  · rw [q, ha.2] at e; cases e
  · rcases u.of_mem H.nd p hp with rfl | ⟨h1, h2⟩
    · exact ⟨he, ha.2⟩
    · exact ⟨(H.ld p h1).1.keeps fun o e => hs _ o h2 e, (H.ld p h1).2⟩
theorem Inn.pick (H : Inn s₀ led gs s) (u : Pick led' led) : Inn s₀ led' gs s := by
  obtain ⟨l, h1, h2⟩ := u.sub
  exact ⟨H.keep, fun p hp => H.ld p (h1.subset (h2.subset hp)), ((h1.map Prod.fst).nodup_iff.mpr H.nd).sublist (h2.map _), H.os, H.bare, H.gl⟩
/-- say less of a row -/
theorem Inn.weak (H : Inn s₀ led gs s) {a : Addr} {c c' : Cell} (u : Upd a c c' led led') (h : ∀ o, c o → c' o) : Inn s₀ led' gs s :=
  H.upd u (fun _ _ _ e => e) (let ⟨o, ho, x⟩ := (H.has u.mem); ⟨o, ho, h o x⟩)
theorem Inn.noGens (H : Inn s₀ led gs s) : Inn s₀ led [] s := ⟨H.keep, H.ld, H.nd, H.os, H.bare, fun _ h => (nomatch h)⟩
theorem Inn.gg {w : World} {mg mb : Str → Option Value} (H : Inn s₀ led gs s) (G : GG w mg mb s₀.heap) : GG w mg mb s.heap := G.keeps H.keep
/-- two known rows lie apart -/
theorem Inn.ne (H : Inn s₀ ledp gs s) {a b : Addr} {c d : Cell} {r : Led} (u : Pull a c ledp r) (hb : Row b d r) : a ≠ b := by
  have := (u.perm.map Prod.fst).nodup_iff.mp H.nd
  rw [List.map_cons, List.nodup_cons] at this
  exact fun e => this.1 (List.mem_map.mpr ⟨_, hb.mem, e.symm⟩)
end

/-! ### leaves -/
theorem loc_call {fd : FuncData} {L a : Addr} : (callEnv fd L a).locals = L := rfl
theorem loc_callC {fd : FuncData} {L a : Addr} : (callEnvC fd L a).locals = L := rfl
theorem loc_comp {scope : Scope} {cl : List (Str × Addr)} {C : Addr} {env : Env} : (compEnvC scope cl C env).locals = C := rfl
theorem look_head {x : Str} {v : Value} {l : Loc} : List.lookup x ((x, v) :: l) = some v := by rw [List.lookup_cons]; simp
theorem look_tail {x k : Str} {v u : Value} {l : Loc} (h : (x == k) = false) (r : List.lookup x l = some v) : List.lookup x ((k, u) :: l) = some v := by rw [List.lookup_cons, h]; exact r

section
variable {w : World} {A : Around} {E : Value → Shared → Prop} {s₀ s : Shared} {L : Addr} {l : Loc} {led led' : Led} {gs : GL} {env : Env} {mg mb : Str → Option Value} {pos : Pos} {kk : Nat}

theorem n_int {i : Int} {Q : Value → Shared → Prop} (H : Inn s₀ led gs s) (k : ∀ t s', Inn s₀ led gs s' → Q (.int i t) s') : wpAny (MM w) A (eval (.Constant (.int i) kk pos) env) Q E s :=
  wpAny_Constant_int (k _ _ (H.tok _))
theorem n_str {x : Str} {Q : Value → Shared → Prop} (H : Inn s₀ led gs s) (k : ∀ t s', Inn s₀ led gs s' → Q (.str x t) s') : wpAny (MM w) A (eval (.Constant (.str x) kk pos) env) Q E s :=
  Calls.Constant_str (k _ _ (H.tok _))
theorem n_float {x : UInt64} {Q : Value → Shared → Prop} (H : Inn s₀ led gs s) (k : ∀ t s', Inn s₀ led gs s' → Q (.float x t) s') : wpAny (MM w) A (eval (.Constant (.float x) kk pos) env) Q E s :=
  fun _ _ _ => k _ _ (H.tok _)
theorem n_none {Q : Value → Shared → Prop} (k : Q .none s) : wpAny (MM w) A (eval (.Constant .none kk pos) env) Q E s := fun _ _ _ => k
theorem n_bool {b : Bool} {Q : Value → Shared → Prop} (k : Q (.bool b) s) : wpAny (MM w) A (eval (.Constant (.bool b) kk pos) env) Q E s := fun _ _ _ => k

theorem nm_local {x : Str} {v : Value} {Q : Value → Shared → Prop} (H : Inn s₀ led gs s) (k : Q v s) (hm : Row L (nsC l) led) (hv : l.lookup x = some v) (hL : env.locals = L) (hk : env.scope.kind = .function) (hx : env.kindOf x = some .local)
    (hd : (x == ("__debug__" : Str)) = false) : wpAny (MM w) A (eval (.Name x pos) env) Q E s := by
  subst hL
  obtain ⟨m, hm1, hm2⟩ := (H.has hm.mem).ns
  exact wpAny_Name (wpAny_loadName_local hk hx hm1 (hm2 _ _ hv) k) hd
theorem nm_cell {x : Str} {c : Addr} {v : Value} {Q : Value → Shared → Prop} (H : Inn s₀ led gs s) (k : Q v s) (hc : env.cells.lookup x = some c) (hm : Row c (celC (some v)) led) (hk : env.scope.kind = .function) (hx : env.kindOf x = some .cell)
    (hd : (x == ("__debug__" : Str)) = false) : wpAny (MM w) A (eval (.Name x pos) env) Q E s := wpAny_Name (wpAny_loadName_cell hk hx hc (H.has hm.mem).cell k) hd
theorem nm_glob {x : Str} {v : Value} {Q : Value → Shared → Prop} (H : Inn s₀ led gs s) (G : GG w mg mb s₀.heap) (k : Q v s) (e : nsIn (hd.heap_1 w.params) mainGlobals x = some (some v)) (hg : env.globals = mainGlobals)
    (hk : env.scope.kind = .function) (hx : env.kindOf x = some .globalImplicit) (hd : (x == ("__debug__" : Str)) = false) : wpAny (MM w) A (eval (.Name x pos) env) Q E s :=
  Name_function_global hk hx (loadGlobal_global (by rw [hg]; exact G.g.keeps H.keep) (mg_of G.k G.g e) k) hd
theorem nm_built {x : Str} {v : Value} {Q : Value → Shared → Prop} (H : Inn s₀ led gs s) (G : GG w mg mb s₀.heap) (k : Q v s) (e : nsIn (hd.heap_1 w.params) mainGlobals x = some none) (hv : bootBuiltins x = some v) (hn : x ≠ "__name__")
    (hg : env.globals = mainGlobals) (hb : env.builtins = builtinsNs) (hk : env.scope.kind = .function) (hx : env.kindOf x = some .globalImplicit) (hd : (x == ("__debug__" : Str)) = false) : wpAny (MM w) A (eval (.Name x pos) env) Q E s :=
  Name_function_global hk hx (loadGlobal_builtin (by rw [hg]; exact G.g.keeps H.keep) (mg_none_of G.k G.g e) (by rw [hb]; exact G.b.keeps H.keep) ((G.bb x hn).trans hv) k) hd

theorem st_local {x : Str} {v : Value} {Q : Unit → Shared → Prop} (H : Inn s₀ led gs s) (k : ∀ s', Inn s₀ led' gs s' → Q () s') (u : Upd L (nsC l) (nsC ((x, v) :: l)) led led') (hL : env.locals = L) (hk : env.scope.kind = .function) (hx : env.kindOf x = some .local) :
    wpAny (MM w) A (storeName env x v) Q E s := by
  subst hL
  obtain ⟨m, hm1, hm2⟩ := (H.has u.mem).ns
  refine wpAny_storeName_local hx hm1 (fun h' hn hs => k _ (H.upd u (fun b o hb e => (hs.2 b hb).trans e) (.of_ns hn fun y v' q => ?_))) (by rw [hk]; rfl)
  rw [List.lookup_cons] at q
  by_cases h : y = x
  · rw [beq_iff_eq.mpr h] at q; rw [if_pos h]; exact q
  · rw [beq_eq_false_iff_ne.mpr h] at q; rw [if_neg h]; exact hm2 _ _ q
theorem st_cell {x : Str} {c : Addr} {v : Value} {v₀ : Option Value} {Q : Unit → Shared → Prop} (H : Inn s₀ led gs s) (k : ∀ s', Inn s₀ led' gs s' → Q () s') (hc : env.cells.lookup x = some c) (u : Upd c (celC v₀) (celC (some v)) led led')
    (hk : env.scope.kind = .function) (hx : env.kindOf x = some .cell) : wpAny (MM w) A (storeName env x v) Q E s :=
  wpAny_storeName_cell hk hx hc (H.has u.mem).cell fun h' hc' hs' => k _ (H.upd u (fun b o hb e => (hs'.2 b hb).trans e) hc')

theorem n_tuple {vs : List Value} {Q : Value → Shared → Prop} (H : Inn s₀ led gs s) (k : ∀ D s', Inn s₀ ((D, tupC vs) :: led) gs s' → Q (.ref D) s') (hz : vs.length ≤ sizeLine) : wpAny (MM w) A (newTuple vs) Q E s :=
  wpAny_newObj_type (k _ _ (H.push (show tupC vs _ from ⟨rfl, 0, rfl⟩) _)) (by show vs.toArray.size ≤ sizeLine; rw [List.size_toArray]; exact hz)
theorem n_list {vs : List Value} {Q : Value → Shared → Prop} (H : Inn s₀ led gs s) (k : ∀ D s', Inn s₀ ((D, lstC vs) :: led) gs s' → Q (.ref D) s') (hz : vs.length ≤ sizeLine) : wpAny (MM w) A (newList vs) Q E s :=
  wpAny_newObj_type (k _ _ (H.push (show lstC vs _ from ⟨0, rfl⟩) _)) (by show vs.toArray.size ≤ sizeLine; rw [List.size_toArray]; exact hz)
end

/-- names forgotten -/
inductive SubL (l : Loc) : Loc → Prop
  | nil : SubL l []
  | cons {x : Str} {v : Value} {r : Loc} (h : l.lookup x = some v) (t : SubL l r) : SubL l ((x, v) :: r)
theorem SubL.look {l r : Loc} (u : SubL l r) : ∀ x v, r.lookup x = some v → l.lookup x = some v := by
  induction u with
  | nil => intro x v h; cases h
  | @cons y u r h t ih =>
    intro x v q
    rw [List.lookup_cons] at q
    cases e : x == y with
    | true => rw [e] at q; cases q; rw [beq_iff_eq.mp e]; exact h
    | false => rw [e] at q; exact ih x v q
theorem Inn.prune {s₀ s : Shared} {led led' : Led} {gs : GL} {L : Addr} {l l' : Loc} (H : Inn s₀ led gs s) (u : Upd L (nsC l) (nsC l') led led') (h : SubL l l') : Inn s₀ led' gs s :=
  H.weak u fun _ ⟨es, ep, r1, r2, r3⟩ => ⟨es, ep, r1, r2, fun x v q => r3 x v (h.look x v q)⟩

/-! ### a def of the text -/
noncomputable def P0 : Params := { strHash := fun _ => 0, shareClass := fun _ => 0, mergeTok := id, idOf := fun _ => 0, idOfShared := fun _ _ => 0, followText := fun _ => false, idOfImm := fun _ => 0 }
noncomputable def pickFd {a : Addr} {c : Value} {d : Option Addr} {sl : Array (Option Value)} (fd : FuncData) (_ : (hd.heap_1 P0).lookup a = some ⟨c, d, .func fd, sl⟩) : FuncData := fd

theorem bare_False {α : Type} {M : Model} {A : Around} {s : Shared} {t : Sem α} {Q : α → Shared → Prop} {E : Value → Shared → Prop} (h : wpAny M A t Q (fun _ _ => False) s) : wpAny M A t Q E s := wpAny_noRaise h

theorem enter {w : World} {A : Around} {E : Value → Shared → Prop} {s₀ s : Shared} {led : Led} {gs : GL} {mg mb : Str → Option Value} {Q : Value → Shared → Prop} {fa : Addr} {o : Obj} {fd : FuncData} {body : List Stmt} {vals : List Value} {kw : List (Str × Value)} (rb : Loc) {n : Nat}
    (G : GG w mg mb s₀.heap) (hA : AOk A (n + 1)) (H : Inn s₀ led gs s) (ho : (hd.heap_1 w.params).lookup fa = some o) (hdat : o.data = .func fd) (hcd : codeIn (hd.heap_1 w.params) fd.code fd.qualname = true) (hbody : fd.body = .stmts body)
    (hbind : BindsTo s fd ⟨vals, kw⟩ rb.reverse) (hcell : ∀ x ∈ fd.scope.names, x.2 ≠ .cell) (hloc : (rb.reverse.all fun x => decide (fd.scope.names.lookup x.1 = some .local)) = true)
    (h : ∀ L s', AOk (A.deeper (callEnv fd L fa)) n → Inn s₀ ((L, nsC rb) :: led) gs s' → wpAny (MM w) (A.deeper (callEnv fd L fa)) (execs body (callEnv fd L fa)) (fun fl s'' => Q (match fl with | .ret v => v | _ => .none) s'') (fun _ _ => False) s')
    (hco : fd.scope.isCoroutine = false) (hgen : fd.scope.isGenerator = false) (hk : fd.scope.kind = .function) :
    wpAny (MM w) A (call (.ref fa) vals kw) Q E s := by
  have G' := H.gg G
  refine wpAny_call ?_
  refine codeAny_call_def (fd := fd) (body := body) (binds := rb.reverse) hA.room (G'.k _ _ ho) hdat G'.nolimit (codeRec_of G'.k hcd) hbody hbind hcell (locs hloc) (fun h₁ hns hkp => ?_) hco hgen hk
  rw [List.reverse_reverse] at hns
  refine wpAny_mono (h s.heap.objs.size _ (hA.deeper _) (H.add hkp (get?_none_of_size (Nat.le_refl _)) (.of_ns hns fun _ _ q => q))) (fun fl s' hq => ?_) fun _ _ f => f.elim
  cases fl <;> exact hq
end
/-! ### C2 -/
/-- a body's end, behind a letter: its walk does not carry it along -/
structure Opq (Q R : Flow → Shared → Prop) : Prop where
  go : ∀ f s, Q f s → R f s
theorem execs_consO {M : Model} {A : Around} {E : Value → Shared → Prop} {s : Shared} {st : Stmt} {rest : List Stmt} {env : Env} {Q : Flow → Shared → Prop} (h : ∀ R : Flow → Shared → Prop, Opq (fun f s' => match f with | .next => wpAny M A (execs rest env) Q E s' | f => Q f s') R → wpAny M A (exec st env) R E s) : wpAny M A (execs (st :: rest) env) Q E s :=
  wpAny_execs_cons (h _ ⟨fun _ _ h => h⟩)
theorem opq_go {Q R : Flow → Shared → Prop} {f : Flow} {s : Shared} (h : Opq Q R) (k : Q f s) : R f s := h.go f s k


/-- side goals: a name's value, a row of the ledger, a row changed, taken out, rows chosen -/
theorem lay_C2_1 : True := by
  k_with "tb_rel.C2.1" => (first
  | with_reducible exact Row.head | with_reducible exact look_head | with_reducible exact Upd.head | with_reducible exact Pull.head | with_reducible exact Pick.all | with_reducible exact Pick.nil
  | with_reducible assumption | with_reducible exact SubL.nil | (focus ((with_reducible apply SubL.cons); tb_rel; tb_rel))
  | ((with_reducible refine Row.tail ?_); tb_rel) | (focus ((with_reducible apply look_tail); (decide +kernel); tb_rel)) | ((with_reducible apply Upd.tail); tb_rel) | ((with_reducible apply Pull.tail); tb_rel)
  | (focus ((with_reducible apply Pick.cons); tb_rel; (exact rfl); tb_rel)) | ((with_reducible refine Pick.skip ?_); tb_rel)
  | fail "-")
  exact True.intro
local macro_rules | `(tactic| tb_rel) => `(tactic| k_extra "tb_rel.C2.1")

/-- structural steps -/
theorem lay_C2_2 : True := by
  k_with "cell_call.C2.2" => (first
  | ((with_reducible show wpAny _ _ (PySem.eval _ _) _ _ _); first
    | (with_reducible refine UnaryOp_ ?_)
    | (with_reducible refine IfExp_ ?_)
    | (with_reducible refine BoolOp_one ?_)
    | (with_reducible refine BoolOp_and ?_)
    | (with_reducible refine BoolOp_or ?_)
    | (with_reducible refine Subscript_ ?_)
    | ((with_reducible refine' MethodCall_ ?_ ?kqhe); (case kqhe => rfl))
    | ((with_reducible refine' Call_ ?_ ?kqhe); (case kqhe => rfl))
    | (with_reducible refine Tuple_ ?_)
    | (with_reducible refine List_ ?_))
  | ((with_reducible show wpAny _ _ (PySem.exec _ _) _ _ _); first
    | (with_reducible refine wpAny_Return_some ?_)
    | (with_reducible refine wpAny_If ?_)
    | ((with_reducible refine' wpAny_Assign_Name ?_ ?kqhs); (case kqhs => rfl))
    | ((with_reducible refine' wpAny_Expr_any ?_ ?kqhi ?kqhs); (case kqhi => rfl); (case kqhs => rfl)))
  | (with_reducible refine wpAny_truthy_bool ?_)
  | ((with_reducible show wpAny _ _ (PySem.isTrue _ _ _) _ _ _); first
    | ((with_reducible refine' wpAny_isTrue_Compare1 ?_ ?kqhm); (case kqhm => with_unfolding_all rfl))
    | (with_reducible refine isTrue_not ?_)
    | (with_reducible refine isTrue_and_nil ?_)
    | (with_reducible refine isTrue_and ?_)
    | ((with_reducible refine' isTrue_plain ?_ ?kqhe); (case kqhe => rfl)))
  | ((with_reducible show wpAny _ _ (PySem.callWith _ _ _ _ _) _ _ _); first
    | ((with_reducible refine' callWith_builtin1 ?_ ?kqhe ?kqhp); (case kqhe => rfl); (case kqhp => rfl))
    | (with_reducible refine callWith_method0 ?_)
    | ((with_reducible refine' callWith_method1 ?_ ?kqhe ?kqhp); (case kqhe => rfl); (case kqhp => rfl)))
  | (with_reducible refine wpAny_execs_cons ?_)
  | (with_reducible refine wpAny_execs_nil ?_)
  | (with_reducible refine PySem.wpAny_BinOp ?_)
  | ((with_reducible refine' PySem.wpAny_Compare1 ?_ ?kqhm); (case kqhm => with_unfolding_all rfl))
  | (with_reducible refine spliced_none ?_)
  | ((with_reducible refine' spliced_more ?_ ?kqhe); (case kqhe => rfl))
  | (with_reducible refine wpAny_assign_Name ?_)
  | (with_reducible refine bindName_ ?_)
  | ((with_reducible refine' opq_go ?kqlfA1 ?_); (case kqlfA1 => with_reducible assumption))
  | fail "-")
  exact True.intro
local macro_rules | `(tactic| cell_call) => `(tactic| k_extra "cell_call.C2.2")

/- leaves; H is the state's fact, hA the room's, G the base's -/
theorem lay_C2_3 : True := by
  k_with "fold_depth.C2.3" => ((clear H; intro t s H))
  exact True.intro
local macro_rules | `(tactic| fold_depth) => `(tactic| k_extra "fold_depth.C2.3")
theorem lay_C2_4 : True := by
  k_with "f_fact.C2.4" => ((clear H; intro D s H))
  exact True.intro
local macro_rules | `(tactic| f_fact) => `(tactic| k_extra "f_fact.C2.4")
theorem lay_C2_5 : True := by
  k_with "fold_lay.C2.5" => ((clear H; intro s H))
  exact True.intro
local macro_rules | `(tactic| fold_lay) => `(tactic| k_extra "fold_lay.C2.5")
theorem lay_C2_6 : True := by
  k_with "cell_call.C2.6" => (first
  | ((with_reducible show wpAny _ _ (PySem.eval _ _) _ _ _); first
    | ((with_reducible refine' n_int ?kqlfA1 ?_); (case kqlfA1 => with_reducible assumption); fold_depth)
    | ((with_reducible refine' n_str ?kqlfA1 ?_); (case kqlfA1 => with_reducible assumption); fold_depth)
    | ((with_reducible refine' n_float ?kqlfA1 ?_); (case kqlfA1 => with_reducible assumption); fold_depth)
    | (with_reducible refine n_none ?_)
    | (with_reducible refine n_bool ?_)
    | ((with_reducible refine' nm_local ?kqlfA1 ?_ ?kqlfm ?kqlfv ?kqlfL ?kqlfo ?kqlfx ?kqlfd); (case kqlfA1 => with_reducible assumption); (case kqlfx => kernel_rfl!); (case kqlfL => first | with_reducible exact loc_call | with_reducible exact loc_comp | with_reducible exact loc_callC); (case kqlfo => rfl); (case kqlfd => decide +kernel); (case kqlfm => tb_rel); (case kqlfv => tb_rel))
    | ((with_reducible refine' nm_glob ?kqlfA1 ?kqlfA2 ?_ ?kqlfe ?kqlfg ?kqlfo ?kqlfx ?kqlfd); (case kqlfA1 => with_reducible assumption); (case kqlfA2 => with_reducible assumption); (case kqlfx => kernel_rfl!); (case kqlfg => rfl); (case kqlfo => rfl); (case kqlfd => decide +kernel); (case kqlfe => rfl))
    | ((with_reducible refine' nm_built ?kqlfA1 ?kqlfA2 ?_ ?kqlfe ?kqlfv ?kqlfn ?kqlfg ?kqlfb ?kqlfo ?kqlfx ?kqlfd); (case kqlfA1 => with_reducible assumption); (case kqlfA2 => with_reducible assumption); (case kqlfx => kernel_rfl!); (case kqlfe => kernel_rfl!); (case kqlfg => rfl); (case kqlfb => rfl); (case kqlfo => rfl); (case kqlfd => decide +kernel); (case kqlfn => decide +kernel); (case kqlfv => boot_by_name)))
  | ((with_reducible refine' st_local ?kqlfA1 ?_ ?kqlfu ?kqlfL ?kqlfo ?kqlfx); (case kqlfA1 => with_reducible assumption); (case kqlfx => kernel_rfl!); (case kqlfL => first | with_reducible exact loc_call | with_reducible exact loc_comp | with_reducible exact loc_callC); (case kqlfo => rfl); (case kqlfu => tb_rel); fold_lay)
  | ((with_reducible refine' n_tuple ?kqlfA1 ?_ ?kqlfz); (case kqlfA1 => with_reducible assumption); (case kqlfz => exact Nat.le_of_ble_eq_true (by kernel_rfl!)); f_fact)
  | ((with_reducible refine' n_list ?kqlfA1 ?_ ?kqlfz); (case kqlfA1 => with_reducible assumption); (case kqlfz => exact Nat.le_of_ble_eq_true (by kernel_rfl!)); f_fact)
  | fail "-")
  exact True.intro
local macro_rules | `(tactic| cell_call) => `(tactic| k_extra "cell_call.C2.6")

section
variable {w : World} {A : Around} {E : Value → Shared → Prop} {s₀ s : Shared} {led : Led} {gs : GL} {n : Nat} {t u : Tok}

/-! ### floats -/
theorem f_add {a b : UInt64} {Q : Value → Shared → Prop} (H : Inn s₀ led gs s) (k : ∀ t s', Inn s₀ led gs s' → Q (.float (Float64.add a b) t) s') : wpAny (MM w) A (binaryOp .Add (.float a t) (.float b u)) Q E s := add_float (k _ _ (H.tok _))
theorem f_sub {a b : UInt64} {Q : Value → Shared → Prop} (H : Inn s₀ led gs s) (k : ∀ t s', Inn s₀ led gs s' → Q (.float (Float64.sub a b) t) s') : wpAny (MM w) A (binaryOp .Sub (.float a t) (.float b u)) Q E s := sub_float (k _ _ (H.tok _))
theorem f_mul {a b : UInt64} {Q : Value → Shared → Prop} (H : Inn s₀ led gs s) (k : ∀ t s', Inn s₀ led gs s' → Q (.float (Float64.mul a b) t) s') : wpAny (MM w) A (binaryOp .Mult (.float a t) (.float b u)) Q E s := mul_float (k _ _ (H.tok _))
theorem f_div {a b : UInt64} {Q : Value → Shared → Prop} (H : Inn s₀ led gs s) (hA : AOk A n) (k : ∀ t s', Inn s₀ led gs s' → Q (.float (Float64.div a b) t) s') (hz : Float64.isZero b = false) : wpAny (MM w) A (binaryOp .Div (.float a t) (.float b u)) Q E s :=
  truediv_float_or hA.h (fun h => by rw [hz] at h; cases h) fun _ => k _ _ (H.tok _)
theorem f_mod {a b : UInt64} {Q : Value → Shared → Prop} (H : Inn s₀ led gs s) (hA : AOk A n) (k : ∀ t s', Inn s₀ led gs s' → Q (.float (Float64.divmod a b).2 t) s') (hz : Float64.isZero b = false) : wpAny (MM w) A (binaryOp .Mod (.float a t) (.float b u)) Q E s :=
  PySem.Flt.mod_ff hA.h (fun h => by rw [hz] at h; cases h) fun _ => k _ _ (H.tok _)
theorem f_eq {a b : UInt64} {Q : Value → Shared → Prop} (k : Q (.bool (Float64.cmp a b == some Ordering.eq)) s) : wpAny (MM w) A (compareOp .Eq (.float a t) (.float b u)) Q E s := AutoFloatOps.eq_0 k
theorem f_le {a b : UInt64} {Q : Value → Shared → Prop} (k : Q (.bool (Float64.cmp a b == some Ordering.lt || Float64.cmp a b == some Ordering.eq)) s) : wpAny (MM w) A (compareOp .LtE (.float a t) (.float b u)) Q E s := AutoFloatOps.le_0 k
noncomputable def fmax (a b : UInt64) : UInt64 := if (Float64.cmp a b == some .lt) = true then b else a
noncomputable def fmin (a b : UInt64) : UInt64 := if (Float64.cmp b a == some .lt) = true then b else a

theorem ltV_ff {a b : UInt64} {t u : Tok} : PySem.Flt.ltV (.float a t) (.float b u) = (Float64.cmp a b == some .lt) := rfl
theorem f_max3 {a b c : UInt64} {x : Tok} {Q : Value → Shared → Prop} (H : Inn s₀ led gs s) (hA : AOk A n) (k : ∀ t s', Inn s₀ led gs s' → Q (.float (fmax (fmax a b) c) t) s') : wpAny (MM w) A (call (.builtin "max") [.float a t, .float b u, .float c x]) Q E s := by
  have hT : (s.heap.push { cls := .type "tuple", data := .seq #[.float a t, .float b u, .float c x] }).IsTuple s.heap.objs.size #[.float a t, .float b u, .float c x] := ⟨_, Heap.get?_push_size _ rfl, rfl, 0, rfl⟩
  refine call_max_three (wpAny_pyIter_tuple hT ?_)
  have hsz : (s.heap.push { cls := .type "tuple", data := .seq #[.float a t, .float b u, .float c x] }).objs.size = s.heap.objs.size + 1 := Heap.size_push ..
  refine ⟨_, [_, s.heap.objs.size], [_], _, _, _, _, rfl, Walks.tuple (A := A.in1) hA.h _ s.heap.objs.size (by rw [hsz]; exact Nat.ne_of_lt (Nat.lt_succ_self _)) #[.float a t, .float b u, .float c x],
    ⟨⟨_, Heap.get?_push_size _ rfl, rfl, rfl⟩, hT.push _⟩, fun c hc => ?_, by simp, PySem.Flt.cmpOf_gt #[.float a t, .float b u, .float c x] (by intro v hv; simp at hv; rcases hv with rfl | rfl | rfl <;> exact .float _ _), fun v h' tk hP hk => ?_⟩
  · show c < ((s.heap.push _).push _).objs.size
    rw [Heap.size_push, hsz]
    rcases List.mem_cons.mp hc with rfl | hc
    · rw [hsz]; exact Nat.lt_succ_self _
    · rcases List.mem_cons.mp hc with rfl | hc
      · exact Nat.lt_succ_of_lt (Nat.lt_succ_self _)
      · cases hc
  · have hold : ∀ c o, s.heap.get? c = some o → h'.get? c = some o := fun c o e => by
      refine hk c o (fun hm => ?_) (Heap.get?_push_of_some _ (Heap.get?_push_of_some _ e))
      rcases List.mem_cons.mp hm with e1 | hm
      · have := Heap.lt_size e; rw [e1, hsz] at this; exact Nat.lt_irrefl _ (Nat.lt_of_succ_lt this)
      · cases hm
    have hv : ∃ t', v = .float (fmax (fmax a b) c) t' := by
      unfold fmax
      cases h1 : (Float64.cmp a b == some .lt) <;> simp only [Bool.false_eq_true, if_true, if_false]
      · cases h2 : (Float64.cmp a c == some .lt) <;> simp [argBest, ltV_ff, h1, h2] at hP <;> exact ⟨_, hP.symm⟩
      · cases h2 : (Float64.cmp b c == some .lt) <;> simp [argBest, ltV_ff, h1, h2] at hP <;> exact ⟨_, hP.symm⟩
    obtain ⟨t', rfl⟩ := hv
    exact k t' _ (H.keeps hold)
theorem f_min3 {a b c : UInt64} {x : Tok} {Q : Value → Shared → Prop} (H : Inn s₀ led gs s) (hA : AOk A n) (k : ∀ t s', Inn s₀ led gs s' → Q (.float (fmin (fmin a b) c) t) s') : wpAny (MM w) A (call (.builtin "min") [.float a t, .float b u, .float c x]) Q E s := by
  have hT : (s.heap.push { cls := .type "tuple", data := .seq #[.float a t, .float b u, .float c x] }).IsTuple s.heap.objs.size #[.float a t, .float b u, .float c x] := ⟨_, Heap.get?_push_size _ rfl, rfl, 0, rfl⟩
  refine call_min_three (wpAny_pyIter_tuple hT ?_)
  have hsz : (s.heap.push { cls := .type "tuple", data := .seq #[.float a t, .float b u, .float c x] }).objs.size = s.heap.objs.size + 1 := Heap.size_push ..
  refine ⟨_, [_, s.heap.objs.size], [_], _, _, _, _, rfl, Walks.tuple (A := A.in1) hA.h _ s.heap.objs.size (by rw [hsz]; exact Nat.ne_of_lt (Nat.lt_succ_self _)) #[.float a t, .float b u, .float c x],
    ⟨⟨_, Heap.get?_push_size _ rfl, rfl, rfl⟩, hT.push _⟩, fun c hc => ?_, by simp, PySem.Flt.cmpOf_lt #[.float a t, .float b u, .float c x] (by intro v hv; simp at hv; rcases hv with rfl | rfl | rfl <;> exact .float _ _), fun v h' tk hP hk => ?_⟩
  · show c < ((s.heap.push _).push _).objs.size
    rw [Heap.size_push, hsz]
    rcases List.mem_cons.mp hc with rfl | hc
    · rw [hsz]; exact Nat.lt_succ_self _
    · rcases List.mem_cons.mp hc with rfl | hc
      · exact Nat.lt_succ_of_lt (Nat.lt_succ_self _)
      · cases hc
  · have hold : ∀ c o, s.heap.get? c = some o → h'.get? c = some o := fun c o e => by
      refine hk c o (fun hm => ?_) (Heap.get?_push_of_some _ (Heap.get?_push_of_some _ e))
      rcases List.mem_cons.mp hm with e1 | hm
      · have := Heap.lt_size e; rw [e1, hsz] at this; exact Nat.lt_irrefl _ (Nat.lt_of_succ_lt this)
      · cases hm
    have hv : ∃ t', v = .float (fmin (fmin a b) c) t' := by
      unfold fmin
      cases h1 : (Float64.cmp b a == some .lt) <;> simp only [Bool.false_eq_true, if_true, if_false]
      · cases h2 : (Float64.cmp c a == some .lt) <;> simp [argBest, ltV_ff, h1, h2] at hP <;> exact ⟨_, hP.symm⟩
      · cases h2 : (Float64.cmp c b == some .lt) <;> simp [argBest, ltV_ff, h1, h2] at hP <;> exact ⟨_, hP.symm⟩
    obtain ⟨t', rfl⟩ := hv
    exact k t' _ (H.keeps hold)
end
theorem lay_C2_7 : True := by
  k_with "cell_call.C2.7" => (first
  | ((with_reducible show wpAny _ _ (PySem.call _ _) _ _ _); first
    | ((with_reducible refine' f_max3 ?kqlfA1 ?kqlfA2 ?_); (case kqlfA1 => with_reducible assumption); (case kqlfA2 => with_reducible assumption); fold_depth)
    | ((with_reducible refine' f_min3 ?kqlfA1 ?kqlfA2 ?_); (case kqlfA1 => with_reducible assumption); (case kqlfA2 => with_reducible assumption); fold_depth))
  | ((with_reducible show wpAny _ _ (PySem.binaryOp _ _ _) _ _ _); first
    | ((with_reducible refine' f_add ?kqlfA1 ?_); (case kqlfA1 => with_reducible assumption); fold_depth)
    | ((with_reducible refine' f_sub ?kqlfA1 ?_); (case kqlfA1 => with_reducible assumption); fold_depth)
    | ((with_reducible refine' f_mul ?kqlfA1 ?_); (case kqlfA1 => with_reducible assumption); fold_depth)
    | ((with_reducible refine' f_div ?kqlfA1 ?kqlfA2 ?_ ?kqflz); (case kqlfA1 => with_reducible assumption); (case kqlfA2 => with_reducible assumption); (case kqflz => first | with_reducible assumption | decide +kernel); fold_depth)
    | ((with_reducible refine' f_mod ?kqlfA1 ?kqlfA2 ?_ ?kqflz); (case kqlfA1 => with_reducible assumption); (case kqlfA2 => with_reducible assumption); (case kqflz => first | with_reducible assumption | decide +kernel); fold_depth))
  | ((with_reducible show wpAny _ _ (PySem.compareOp _ _ _) _ _ _); first
    | (with_reducible refine f_eq ?_)
    | (with_reducible refine f_le ?_))
  | fail "-")
  exact True.intro
local macro_rules | `(tactic| cell_call) => `(tactic| k_extra "cell_call.C2.7")
/-! ### C3 -/
noncomputable section
noncomputable def fdIter : FuncData := pickFd (a := 21) _ rfl
noncomputable def fdStrip : FuncData := pickFd (a := 28) _ rfl
noncomputable def fdCheck : FuncData := pickFd (a := 35) _ rfl
noncomputable def fdPre : FuncData := pickFd (a := 42) _ rfl
noncomputable def fdHls : FuncData := pickFd (a := 49) _ rfl
noncomputable def fdHsv : FuncData := pickFd (a := 56) _ rfl
noncomputable def fdMax : FuncData := pickFd (a := 64) _ rfl
noncomputable def fdDec : FuncData := pickFd (a := 79) _ rfl
noncomputable def fdCap : FuncData := pickFd (a := 87) _ rfl
noncomputable def fdParts : FuncData := pickFd (a := 92) _ rfl
noncomputable def fdTaken : FuncData := pickFd (a := 97) _ rfl
noncomputable def fdLaw : FuncData := pickFd (a := 102) _ rfl
end

/-- enter a def without cells: `refine enter .. ` and its side goals -/
theorem lay_C3_1 : True := by
  k_with "kfm_turns.C3.1" => ((
  (case ho => rfl); (case hdat => rfl); (case hcd => kernel_rfl!); (case hbody => rfl); (case hbind => exact BindsTo.of_eq (by kernel_rfl!)); (case hcell => decide +kernel); (case hloc => kernel_rfl!); (case hco => rfl); (case hgen => rfl); (case hk => rfl)))
  exact True.intro
local macro_rules | `(tactic| kfm_turns) => `(tactic| k_extra "kfm_turns.C3.1")
/-! ### C4 -/
section
/-! ### several rows changed at once -/
noncomputable def Upds : List (Addr × Cell × Cell) → Led → Led → Prop
  | [], l, l' => l = l'
  | (a, c, c') :: r, l, l' => ∃ l₁, Upd a c c' l l₁ ∧ Upds r l₁ l'
theorem Upds.fst : ∀ {ws : List (Addr × Cell × Cell)} {l l' : Led}, Upds ws l l' → l'.map Prod.fst = l.map Prod.fst
  | [], _, _, h => by cases h; rfl
  | _ :: _, _, _, ⟨_, u, h⟩ => (Upds.fst h).trans u.fst
theorem Upds.of_mem : ∀ {ws : List (Addr × Cell × Cell)} {l l' : Led}, Upds ws l l' → (l.map Prod.fst).Nodup → ∀ p ∈ l', (∃ x ∈ ws, p = (x.1, x.2.2)) ∨ (p ∈ l ∧ ∀ x ∈ ws, p.1 ≠ x.1)
  | [], _, _, h, _, p, hp => by cases h; exact .inr ⟨hp, fun _ h => (nomatch h)⟩
  | (a, c, c') :: r, l, l', ⟨l₁, u, h⟩, nd, p, hp => by
    rcases Upds.of_mem h (u.fst ▸ nd) p hp with ⟨x, hx, e⟩ | ⟨h1, h2⟩
    · exact .inl ⟨x, List.mem_cons_of_mem _ hx, e⟩
    · rcases u.of_mem nd p h1 with rfl | ⟨h3, h4⟩
      · exact .inl ⟨_, List.mem_cons_self, rfl⟩
      · exact .inr ⟨h3, fun x hx => by
          rcases List.mem_cons.mp hx with rfl | hx
          · exact h4
          · exact h2 x hx⟩
theorem Upds.mem : ∀ {ws : List (Addr × Cell × Cell)} {l l' : Led}, Upds ws l l' → ∀ x ∈ ws, ∃ p ∈ l, p.1 = x.1
  | [], _, _, _, _, hx => nomatch hx
  | (a, c, c') :: r, l, l', ⟨l₁, u, h⟩, x, hx => by
    rcases List.mem_cons.mp hx with rfl | hx
    · exact ⟨_, u.mem, rfl⟩
    · obtain ⟨p, hp, e⟩ := Upds.mem h x hx
      have : p.1 ∈ l₁.map Prod.fst := List.mem_map.mpr ⟨p, hp, rfl⟩
      rw [u.fst] at this
      obtain ⟨q, hq, e'⟩ := List.mem_map.mp this
      exact ⟨q, hq, e'.trans e⟩
theorem Inn.upds {s₀ s s' : Shared} {led led' : Led} {gs : GL} {ws : List (Addr × Cell × Cell)} (H : Inn s₀ led gs s) (u : Upds ws led led') (hs : ∀ b o, (∀ x ∈ ws, b ≠ x.1) → s.heap.get? b = some o → s'.heap.get? b = some o)
    (he : ∀ x ∈ ws, Has s'.heap (x.1, x.2.2)) (ho : s'.os = s.os := by rfl) (hg : s'.gens = s.gens := by rfl) : Inn s₀ led' gs s' := by
  refine ⟨fun b ob e => hs b ob (fun x hx q => ?_) (H.keep b ob e), fun p hp => ?_, u.fst ▸ H.nd, ho.trans H.os, hg ▸ H.bare, hg ▸ H.gl⟩
  · obtain ⟨p, hp, e'⟩ := u.mem x hx
    rw [q, ← e', (H.ld p hp).2] at e; cases e
  · rcases u.of_mem H.nd p hp with ⟨x, hx, rfl⟩ | ⟨h1, h2⟩
    · refine ⟨he x hx, ?_⟩
      obtain ⟨p, hp, e'⟩ := u.mem x hx
      rw [← e']; exact (H.ld p hp).2
    · exact ⟨(H.ld p h1).1.keeps fun o e => hs _ o h2 e, (H.ld p h1).2⟩
/-- a row goes -/
theorem Inn.drop {s₀ s s' : Shared} {led led' : Led} {gs : GL} {a : Addr} {c : Cell} (H : Inn s₀ led gs s) (u : Pull a c led led') (hs : ∀ b o, b ≠ a → s.heap.get? b = some o → s'.heap.get? b = some o) (ho : s'.os = s.os := by rfl) (hg : s'.gens = s.gens := by rfl) : Inn s₀ led' gs s' := by
  have nd := (u.perm.map Prod.fst).nodup_iff.mp H.nd
  rw [List.map_cons, List.nodup_cons] at nd
  have hsub : ∀ p ∈ led', p ∈ led := fun p hp => u.perm.symm.subset (List.mem_cons_of_mem _ hp)
  have hz : s₀.heap.get? a = none := (H.ld _ (u.perm.symm.subset List.mem_cons_self)).2
  refine ⟨fun b ob e => hs b ob (fun q => ?_) (H.keep b ob e), fun p hp => ⟨(H.ld p (hsub p hp)).1.keeps fun o e => hs _ o (fun q => ?_) e, (H.ld p (hsub p hp)).2⟩, nd.2, ho.trans H.os, hg ▸ H.bare, hg ▸ H.gl⟩
  · rw [q, hz] at e; cases e
  · exact nd.1 (List.mem_map.mpr ⟨p, hp, q⟩)

/-! ### iterators -/
noncomputable def liC (l : Addr) (i : Nat) : Cell := fun o => o.cls = .type "list_iterator" ∧ o.data = .fields #[.ref l, .int i 0]
noncomputable def tiC (l : Addr) (i : Nat) : Cell := fun o => o.cls = .type "tuple_iterator" ∧ o.data = .fields #[.ref l, .int i 0]
noncomputable def rgC (n : Int) : Cell := fun o => ∃ t u v, o = { cls := .type "range", dict := none, data := .fields #[.int 0 t, .int n u, .int 1 v], slots := #[] }
noncomputable def riC (i n : Int) : Cell := fun o => o = { cls := .type "range_iterator", dict := none, data := .fields #[rawInt i, rawInt (n - i), rawInt 1], slots := #[] }
noncomputable def enC (it : Addr) (i : Nat) : Cell := fun o => ∃ old, o = { cls := .type "enumerate", dict := none, data := .fields #[.none, .bool false, .ref it, rawInt i, .none, old], slots := #[] }
noncomputable def ziC (a b : Addr) : Cell := fun o => o = { cls := .type "zip", dict := none, data := .fields #[.none, .bool false, .bool false, .ref a, .ref b], slots := #[] }
noncomputable def prC (a b : Value) : Cell := fun o => o = { cls := .type "tuple", data := .seq #[a, b] }
noncomputable def toC : Cell := fun o => ∃ a b, o = { cls := .type "tuple", data := .seq #[a, b] }

section
variable {w : World} {A : Around} {E : Value → Shared → Prop} {s₀ s : Shared} {L : Addr} {l : Loc} {led led' led'' : Led} {gs : GL} {env : Env} {mg mb : Str → Option Value} {n : Nat}

theorem it_list {l : Addr} {vs : List Value} {Q : Value → Shared → Prop} (H : Inn s₀ led gs s) (k : ∀ D s', Inn s₀ ((D, liC l 0) :: led) gs s' → Q (.ref D) s') (r : Row l (lstC vs) led) : wpAny (MM w) A (pyIter (.ref l)) Q E s :=
  wpAny_pyIter_list (H.has r.mem).lst (k _ _ (H.push (show liC l 0 _ from ⟨rfl, rfl⟩) _))
theorem nx_list {I l : Addr} {i : Nat} {vs : List Value} {x : Value} {Q : Option Value → Shared → Prop} (H : Inn s₀ led gs s) (k : ∀ s', Inn s₀ led' gs s' → Q (some x) s') (u : Upd I (liC l i) (liC l (i + 1)) led led') (r : Row l (lstC vs) led) (hx : vs[i]? = some x) :
    wpAny (MM w) A (pyNext (.ref I)) Q E s :=
  wpAny_pyNext_list_item (H.has u.mem) (H.has r.mem).lst (by simpa using hx) fun h' h1 h2 => k _ (H.upd u (fun b o hb e => h2.extBut b o hb e) h1)
theorem nx_list_end {I l : Addr} {i : Nat} {vs : List Value} {Q : Option Value → Shared → Prop} (H : Inn s₀ led gs s) (hA : AOk A n) (k : ∀ s', Inn s₀ led' gs s' → Q none s') (u : Pull I (liC l i) led led') (r : Row l (lstC vs) led) (hx : vs.length ≤ i) :
    wpAny (MM w) A (pyNext (.ref I)) Q E s :=
  wpAny_pyNext_list_end hA.h (H.has (u.perm.symm.subset List.mem_cons_self)) (H.has r.mem).lst (by simpa using hx) fun h' h1 => k _ (H.drop u fun b o hb e => h1 b o hb e)
theorem it_tuple {l : Addr} {vs : List Value} {Q : Value → Shared → Prop} (H : Inn s₀ led gs s) (k : ∀ D s', Inn s₀ ((D, tiC l 0) :: led) gs s' → Q (.ref D) s') (r : Row l (tupC vs) led) : wpAny (MM w) A (pyIter (.ref l)) Q E s :=
  wpAny_pyIter_tuple (H.has r.mem).tup (k _ _ (H.push (show tiC l 0 _ from ⟨rfl, rfl⟩) _))
theorem nx_tuple {I l : Addr} {i : Nat} {vs : List Value} {x : Value} {Q : Option Value → Shared → Prop} (H : Inn s₀ led gs s) (k : ∀ s', Inn s₀ led' gs s' → Q (some x) s') (u : Upd I (tiC l i) (tiC l (i + 1)) led led') (r : Row l (tupC vs) led) (hx : vs[i]? = some x) :
    wpAny (MM w) A (pyNext (.ref I)) Q E s :=
  wpAny_pyNext_tuple_item (H.has u.mem) (H.has r.mem).tup (by simpa using hx) fun h' h1 h2 => k _ (H.upd u (fun b o hb e => h2.extBut b o hb e) h1)
theorem nx_tuple_end {I l : Addr} {i : Nat} {vs : List Value} {Q : Option Value → Shared → Prop} (H : Inn s₀ led gs s) (hA : AOk A n) (k : ∀ s', Inn s₀ led' gs s' → Q none s') (u : Pull I (tiC l i) led led') (r : Row l (tupC vs) led) (hx : vs.length ≤ i) :
    wpAny (MM w) A (pyNext (.ref I)) Q E s :=
  wpAny_pyNext_tuple_end hA.h (H.has (u.perm.symm.subset List.mem_cons_self)) (H.has r.mem).tup (by simpa using hx) fun h' h1 => k _ (H.drop u fun b o hb e => h1 b o hb e)

theorem mk_range {i : Int} {t : Tok} {Q : Value → Shared → Prop} (H : Inn s₀ led gs s) (k : ∀ D s', Inn s₀ ((D, rgC i) :: led) gs s' → Q (.ref D) s') : wpAny (MM w) A (call (.type "range") [.int i t]) Q E s :=
  call_range_1 (k _ _ (H.push (show rgC i _ from ⟨_, _, _, rfl⟩) _))
theorem it_range {R : Addr} {i : Int} {Q : Value → Shared → Prop} (H : Inn s₀ led gs s) (k : ∀ D s', Inn s₀ ((D, riC 0 i) :: led) gs s' → Q (.ref D) s') (r : Row R (rgC i) led) (h0 : 0 ≤ i) (h1 : i < 2 ^ 62) : wpAny (MM w) A (pyIter (.ref R)) Q E s := by
  obtain ⟨o, ho, t, u, v, rfl⟩ := H.has r.mem
  refine wpAny_pyIter_range (r := R) (a := 0) (b := i) (c := 1) ho (small_one (by decide) (by decide) (by omega) h1) (k _ _ (H.push (show riC 0 i _ from ?_) _))
  unfold riC
  rw [rangeSize_one]
  split
  · rfl
  · rw [show i = 0 by omega]; rfl
theorem nx_range {I : Addr} {i n : Int} {Q : Option Value → Shared → Prop} (H : Inn s₀ led gs s) (k : ∀ t s', Inn s₀ led' gs s' → Q (some (.int i t)) s') (u : Upd I (riC i n) (riC (i + 1) n) led led') (hx : i < n) :
    wpAny (MM w) A (pyNext (.ref I)) Q E s := by
  obtain ⟨o, ho, rfl⟩ := H.has u.mem
  refine wpAny_pyNext_range_item (x := i) (left := n - i) (step := 1) ho (by omega) fun h' h1 h2 => k _ _ (H.upd u (fun b o hb e => h2.extBut b o hb e) ⟨_, h1, ?_⟩)
  show riC (i + 1) n _
  unfold riC
  rw [show n - i - 1 = n - (i + 1) by omega]
theorem nx_range_end {I : Addr} {i n : Int} {m : Nat} {Q : Option Value → Shared → Prop} (H : Inn s₀ led gs s) (hA : AOk A m) (k : ∀ s', Inn s₀ led' gs s' → Q none s') (u : Pull I (riC i n) led led') (hx : n ≤ i) :
    wpAny (MM w) A (pyNext (.ref I)) Q E s := by
  obtain ⟨o, ho, rfl⟩ := H.has (u.perm.symm.subset List.mem_cons_self)
  exact wpAny_pyNext_range_end hA.h (x := i) (left := n - i) (step := 1) ho (by omega) fun h' h1 => k _ (H.drop u fun b o hb e => h1 b o hb e)

theorem mk_enum {l : Addr} {vs : List Value} {Q : Value → Shared → Prop} (H : Inn s₀ led gs s) (k : ∀ D I s', Inn s₀ ((D, enC I 0) :: (I, liC l 0) :: led) gs s' → Q (.ref D) s') (r : Row l (lstC vs) led) : wpAny (MM w) A (call (.type "enumerate") [.ref l]) Q E s :=
  call_enumerate_list (H.has r.mem).lst fun h' h1 h2 h3 h4 => k _ _ _ (by
    have g1 := (Inn.add (s' := { s with heap := h' }) H h4 (get?_none_of_size (Nat.le_refl _)) (show Has h' (s.heap.objs.size, liC l 0) from h2))
    refine ⟨g1.keep, fun p hp => ?_, ?_, g1.os, g1.bare, g1.gl⟩
    · rcases List.mem_cons.mp hp with rfl | hp
      · refine ⟨⟨_, h1, _, rfl⟩, ?_⟩
        cases q : s₀.heap.get? (s.heap.objs.size + 1) with
        | none => rfl
        | some o => exact absurd (Heap.lt_size (H.keep _ _ q)) (Nat.not_lt.mpr (Nat.le_succ _))
      · exact g1.ld p hp
    · rw [List.map_cons, List.nodup_cons]
      refine ⟨fun hm => ?_, g1.nd⟩
      rcases List.mem_cons.mp hm with e | hm
      · exact absurd e (Nat.succ_ne_self _)
      · obtain ⟨p, hp, e⟩ := List.mem_map.mp hm
        obtain ⟨o, ho, _⟩ := (H.ld p hp).1
        have := Heap.lt_size ho
        rw [show p.1 = s.heap.objs.size + 1 from e] at this; exact absurd this (Nat.not_lt.mpr (Nat.le_succ _)))
theorem it_enum {D I : Addr} {i : Nat} {Q : Value → Shared → Prop} (H : Inn s₀ led gs s) (k : Q (.ref D) s) (r : Row D (enC I i) led) : wpAny (MM w) A (pyIter (.ref D)) Q E s := by
  obtain ⟨o, ho, old, rfl⟩ := H.has r.mem
  exact wpAny_pyIter_enum ho k
/-- what enumerate hands out while a loop has not unpacked it -/
noncomputable def enO (it : Addr) (i : Nat) (T : Addr) : Cell := fun o => ∃ x, o = { cls := .type "enumerate", dict := none, data := .fields #[rawInt T, .bool false, .ref it, rawInt i, .none, x], slots := #[] }
theorem nx_enum {D I l : Addr} {i : Nat} {vs : List Value} {x : Value} {r₁ : Led} {Q : Option Value → Shared → Prop} (H : Inn s₀ led gs s) (k : ∀ T t s', Inn s₀ ((T, tupC [.int i t, x]) :: (D, enO I (i + 1) T) :: (I, liC l (i + 1)) :: r₁) gs s' → Q (some (.ref T)) s') (u : Pick ((D, enC I i) :: (I, liC l i) :: r₁) led)
    (r : Row l (lstC vs) r₁) (hx : vs[i]? = some x) : wpAny (MM w) A (pyNext (.ref D)) Q E s := by
  have H := H.pick u
  obtain ⟨o, ho, old, rfl⟩ := H.has List.mem_cons_self
  have hne : D ≠ I := H.ne .head .head
  refine wpAny_pyNext_enum_item ho (H.has (List.mem_cons_of_mem _ List.mem_cons_self)) (H.has (List.mem_cons_of_mem _ (List.mem_cons_of_mem _ r.mem))).lst (by simpa using hx) hne fun h' h1 h2 h3 h4 h5 => ?_
  refine k _ s.toks _ ?_
  have hT : s.heap.get? s.heap.objs.size = none := get?_none_of_size (Nat.le_refl _)
  have g : Inn s₀ ((D, enO I (i + 1) s.heap.objs.size) :: (I, liC l (i + 1)) :: r₁) gs { s with heap := h', toks := s.toks + 1 } :=
    H.upds (ws := [(D, enC I i, enO I (i + 1) s.heap.objs.size), (I, liC l i, liC l (i + 1))]) ⟨_, .head, _, .tail .head, rfl⟩
      (fun b o hb e => h5 b o (hb _ List.mem_cons_self) (hb _ (List.mem_cons_of_mem _ List.mem_cons_self)) e) (fun x hx => by
        rcases List.mem_cons.mp hx with rfl | hx
        · exact ⟨_, h1, _, rfl⟩
        · rcases List.mem_cons.mp hx with rfl | hx
          · exact h2
          · cases hx)
  refine ⟨g.keep, fun p hp => ?_, ?_, g.os, g.bare, g.gl⟩
  · rcases List.mem_cons.mp hp with rfl | hp
    · refine ⟨⟨_, h3, rfl, _, rfl⟩, ?_⟩
      cases q : s₀.heap.get? s.heap.objs.size with
      | none => rfl
      | some o => rw [H.keep _ _ q] at hT; cases hT
    · exact g.ld p hp
  · rw [List.map_cons, List.nodup_cons]
    refine ⟨fun hm => ?_, g.nd⟩
    obtain ⟨p, hp, e⟩ := List.mem_map.mp (show s.heap.objs.size ∈ ((D, enC I i) :: (I, liC l i) :: r₁).map Prod.fst from hm)
    obtain ⟨o, ho, _⟩ := (H.ld p hp).1
    rw [show p.1 = s.heap.objs.size from e, hT] at ho; cases ho
theorem go_enum {elts : List Expr} {x1 : Nat} {pos : Pos} {D I T : Addr} {i : Nat} {Q : Unit → Shared → Prop} (H : Inn s₀ led gs s) (k : ∀ s', Inn s₀ led' gs s' → Q () s') (u : Upd D (enO I i T) (enC I i) led led') : wpAny (MM w) A (letOwnedTupleGo (.Tuple elts x1 pos) (.ref D) (.ref T)) Q E s := by
  obtain ⟨o, ho, x, rfl⟩ := H.has u.mem
  exact wpAny_letOwnedTupleGo_enum ho fun h' h1 h2 => k _ (H.upd u (fun b o hb e => h2.extBut b o hb e) ⟨_, h1, _, rfl⟩)
theorem nx_enum_end {D I l : Addr} {i : Nat} {vs : List Value} {r₁ : Led} {Q : Option Value → Shared → Prop} (H : Inn s₀ led gs s) (hA : AOk A n) (k : ∀ s', Inn s₀ r₁ gs s' → Q none s') (u : Pick ((D, enC I i) :: (I, liC l i) :: r₁) led)
    (r : Row l (lstC vs) r₁) (hx : vs.length ≤ i) : wpAny (MM w) A (pyNext (.ref D)) Q E s := by
  have H := H.pick u
  obtain ⟨o, ho, old, rfl⟩ := H.has List.mem_cons_self
  refine wpAny_pyNext_enum_end hA.h ho (H.has (List.mem_cons_of_mem _ List.mem_cons_self)) (H.has (List.mem_cons_of_mem _ (List.mem_cons_of_mem _ r.mem))).lst (by simpa using hx) fun h' h1 => k _ ?_
  exact (H.pick (Pick.skip .all)).drop .head fun b o hb e => h1 b o hb e
theorem go_name {x : Str} {px : Pos} {it v : Value} {Q : Unit → Shared → Prop} (k : Q () s) : wpAny (MM w) A (letOwnedTupleGo (.Name x px) it v) Q E s := wpAny_pure k
theorem go_list {elts : List Expr} {x1 : Nat} {pos : Pos} {I l T : Addr} {i : Nat} {Q : Unit → Shared → Prop} (H : Inn s₀ led gs s) (k : Q () s) (r : Row I (liC l i) led) : wpAny (MM w) A (letOwnedTupleGo (.Tuple elts x1 pos) (.ref I) (.ref T)) Q E s :=
  wpAny_letOwnedTupleGo_listiter (H.has r.mem) k

/-! ### stores into several names -/
theorem as_tuple {elts : List Expr} {x1 : Nat} {pos : Pos} {T : Addr} {vs : List Value} {Q : Unit → Shared → Prop} (H : Inn s₀ led gs s) (hA : AOk A n) (k : ∀ s', Inn s₀ led gs s' → wpAny (MM w) A (assignInOrder ((assignEach elts env).map (·.2)) vs) Q E s') (r : Row T (tupC vs) led)
    (hn : (assignEach elts env).length = vs.length) (hstar : (assignEach elts env).findIdx? (·.1) = none) : wpAny (MM w) A (assign (.Tuple elts x1 pos) env (.ref T)) Q E s := by
  refine wpAny_assign_Tuple hA.h (H.has r.mem).tup (by simpa using hn) hstar fun h' h1 => ?_
  have := k { s with heap := h' } (H.keeps fun b o e => h1 b o (Nat.ne_of_lt (Heap.lt_size e)) e)
  simpa using this
theorem un_tuple {T : Addr} {vs : List Value} {m : Nat} {Q : List Value → Shared → Prop} (H : Inn s₀ led gs s) (hA : AOk A n) (k : ∀ s', Inn s₀ led gs s' → Q vs s') (r : Row T (tupC vs) led) (hn : m = vs.length) : wpAny (MM w) A (unpackItems (.ref T) m none) Q E s := by
  subst hn
  have := wpAny_unpackItems_tuple (prog := Challenge.rw_wz0010_01.row.prog) (w := w) (A := A) (E := E) (Q := Q) (s := s) hA.h (H.has r.mem).tup (fun h' h1 => by simpa using k { s with heap := h' } (H.keeps fun b o e => h1 b o (Nat.ne_of_lt (Heap.lt_size e)) e))
  simpa using this
theorem ao_nil {Q : Unit → Shared → Prop} (k : Q () s) : wpAny (MM w) A (assignInOrder [] []) Q E s := wpAny_pure k
theorem ao_cons {t : Value → Sem Unit} {ts : List (Value → Sem Unit)} {v : Value} {vs : List Value} {Q : Unit → Shared → Prop} (k : wpAny (MM w) A (t v) (fun _ s₁ => wpAny (MM w) A (assignInOrder ts vs) Q E s₁) E s) : wpAny (MM w) A (assignInOrder (t :: ts) (v :: vs)) Q E s :=
  wpAny_bind (wpAny_holding k)

/-! ### for -/
theorem for_ix {target : Expr} {it : Value} {body : List Stmt} {Q : Flow → Shared → Prop} {n : Nat} (I : Nat → Shared → Prop)
    (turn : ∀ i s, i < n → I i s → ∀ R : Flow → Shared → Prop, Opq (fun f s₃ => match f with
        | .next => I (i + 1) s₃
        | .cont => I (i + 1) s₃
        | .brk => Q .next s₃
        | .ret v => Q (.ret v) s₃) R → wpAny (MM w) A (pyNext it) (fun r s₁ => match r with
      | none => False
      | some v => wpAny (MM w) A (letOwnedTupleGo target it v) (fun _ s₁' => wpAny (MM w) A (assign target env v) (fun _ s₂ => wpAny (MM w) A (execs body env) R (fun _ _ => False) s₂) (fun _ _ => False) s₁') (fun _ _ => False) s₁) (fun _ _ => False) s)
    (done : ∀ s, I n s → wpAny (MM w) A (pyNext it) (fun r s₁ => r = none ∧ Q .next s₁) (fun _ _ => False) s) (h : I 0 s) :
    codeAny (MM w) A (.forLoop target it body [] env) (fun r s' => match r with | .ok f => Q f s' | .error e => cameBackBy (MM w) A env E e s') s := by
  refine codeAny_forLoop_any (fun k s' => ∃ i, i ≤ n ∧ k = n - i ∧ I i s') (fun k s' hI => ?_) n ⟨0, Nat.zero_le _, rfl, h⟩
  obtain ⟨i, hi, rfl, hI⟩ := hI
  by_cases hlt : i < n
  · refine wpAny_mono (turn i s' hlt hI _ ⟨fun _ _ h => h⟩) (fun r s₁ h₁ => ?_) fun _ _ f => f.elim
    cases r with
    | none => exact h₁.elim
    | some v =>
      refine wpAny_mono h₁ (fun _ s₁' h₁' => wpAny_mono h₁' (fun _ s₂ h₂ => wpAny_mono h₂ (fun f s₃ h₃ => ?_) fun _ _ f => f.elim) fun _ _ f => f.elim) fun _ _ f => f.elim
      cases f with
      | next => exact ⟨n - (i + 1), by omega, i + 1, hlt, rfl, h₃⟩
      | cont => exact ⟨n - (i + 1), by omega, i + 1, hlt, rfl, h₃⟩
      | brk => exact h₃
      | ret v => exact h₃
  · have : i = n := by omega
    subst this
    refine wpAny_mono (done s' hI) (fun r s₁ h₁ => ?_) fun _ _ f => f.elim
    obtain ⟨rfl, h₁⟩ := h₁
    exact wpAny_execs_nil h₁
end
end
/-! ### C5 -/
section
/-! ### the cells that a comprehension closes over -/
inductive Clos (env : Env) : List (Str × NameKind) → List (Str × Addr) → List (Str × Addr) → Prop
  | nil {acc : List (Str × Addr)} : Clos env [] acc acc
  | skip {n : Str} {k : NameKind} {r : List (Str × NameKind)} {acc out : List (Str × Addr)} (h : (k == .free) = false) (t : Clos env r acc out) : Clos env ((n, k) :: r) acc out
  | take {n : Str} {r : List (Str × NameKind)} {acc out cs : List (Str × Addr)} {c : Addr} (hc : env.cells = cs) (h : cs.lookup n = some c) (t : Clos env r ((n, c) :: acc) out) : Clos env ((n, .free) :: r) acc out
theorem clos_pure {scope : Scope} {env : Env} {cl : List (Str × Addr)} (h : Clos env scope.names [] cl) : closureFor scope env = pure cl := by
  have key : ∀ {names : List (Str × NameKind)} {acc out : List (Str × Addr)}, Clos env names acc out →
      (forIn (m := Sem) names acc fun x r => match x with | (name, kind) => if (kind == .free) = true then do let a ← cellOf env name; pure (ForInStep.yield ((name, a) :: r)) else pure (ForInStep.yield r)) = pure out := by
    intro names acc out h
    induction h with
    | nil => rfl
    | skip h t ih => rw [List.forIn_cons]; simp only [h, Bool.false_eq_true, if_false]; exact ih
    | @take n r acc out cs c hc h t ih =>
      rw [List.forIn_cons]
      have : cellOf env n = Pure.pure c := by unfold cellOf; rw [hc, h]
      simp only [show (NameKind.free == NameKind.free) = true from rfl, if_true, this]; exact ih
  unfold closureFor
  have := key h
  simp only [bind_pure_comp] at this ⊢
  rw [this]; rfl
theorem cel_new {scope : Scope} {L g b : Addr} {cs : List (Str × Addr)} {q : Str} {f : Option Addr} {c : Value} {ar : Option Env} : (newEnv scope L g cs q f c ar b).cells = cs := by cases ar <;> rfl
theorem cel_comp {scope : Scope} {cl : List (Str × Addr)} {C : Addr} {env : Env} : (compEnvC scope cl C env).cells = cl := rfl
theorem cel_head {n : Str} {c : Addr} {r : List (Str × Addr)} : ((n, c) :: r).lookup n = some c := by rw [List.lookup_cons]; simp
theorem cel_tail {n k : Str} {c d : Addr} {r : List (Str × Addr)} (h : (n == k) = false) (t : r.lookup n = some c) : ((k, d) :: r).lookup n = some c := by rw [List.lookup_cons, h]; exact t

section
variable {w : World} {A : Around} {E : Value → Shared → Prop} {s₀ s : Shared} {l : Loc} {led led' led'' : Led} {gs : GL} {env : Env} {n : Nat}

/-! ### list comprehensions -/
noncomputable def tsh (pos : Pos) (target : Expr) (it : Value) (env : Env) (ifs : List Expr) (body : Sem Unit) (ag : Sem Fin) : Sem Fin := do
  standAt pos
  match ← pyNext it with
  | none => pure (.done .next)
  | some v =>
    letOwnedTupleGo target it v
    assign target env v
    let mut ok := true
    for c in ifs do
      if ok then ok ← isTrue c env (eval c env)
    if ok then body
    ag
theorem tsh_L1 (elt target iter : Expr) (ifs : List Expr) (scope : Scope) (pos : Pos) (it acc : Value) (env : Env) : compTurn (.ListComp elt [⟨target, iter, ifs, 0⟩] scope pos) 0 it acc env =
    tsh iter.pos target it env ifs (do let _ ← call (.builtin "list.append") [acc, ← eval elt env]) (again (.compLoop (.ListComp elt [⟨target, iter, ifs, 0⟩] scope pos) 0 it acc env)) := by rfl
noncomputable def tsh2 (pos : Pos) (target : Expr) (it : Value) (env : Env) (ifs : List Expr) (e iter : Expr) (acc : Value) (ag : Sem Fin) : Sem Fin := do
  standAt pos
  match ← pyNext it with
  | none => pure (.done .next)
  | some v =>
    letOwnedTupleGo target it v
    assign target env v
    let mut ok := true
    for c in ifs do
      if ok then ok ← isTrue c env (eval c env)
    if ok then
      let x ← eval iter env
      standAt iter.pos
      let x ← foldedSetIterable iter env x
      let _ ← runOwn (.compStart e 1 (← holding [x] (pyIter x)) acc env) env
    ag
theorem tsh_L2 (elt target iter target' iter' : Expr) (ifs ifs' : List Expr) (scope : Scope) (pos : Pos) (it acc : Value) (env : Env) : compTurn (.ListComp elt [⟨target, iter, ifs, 0⟩, ⟨target', iter', ifs', 0⟩] scope pos) 0 it acc env =
    tsh2 iter.pos target it env ifs (.ListComp elt [⟨target, iter, ifs, 0⟩, ⟨target', iter', ifs', 0⟩] scope pos) iter' acc (again (.compLoop (.ListComp elt [⟨target, iter, ifs, 0⟩, ⟨target', iter', ifs', 0⟩] scope pos) 0 it acc env)) := by rfl
theorem tsh_L2' (elt target iter target' iter' : Expr) (ifs ifs' : List Expr) (scope : Scope) (pos : Pos) (it acc : Value) (env : Env) : compTurn (.ListComp elt [⟨target, iter, ifs, 0⟩, ⟨target', iter', ifs', 0⟩] scope pos) 1 it acc env =
    tsh iter'.pos target' it env ifs' (do let _ ← call (.builtin "list.append") [acc, ← eval elt env]) (again (.compLoop (.ListComp elt [⟨target, iter, ifs, 0⟩, ⟨target', iter', ifs', 0⟩] scope pos) 1 it acc env)) := by rfl
theorem tsh_S2 (elt target iter target' iter' : Expr) (ifs ifs' : List Expr) (scope : Scope) (pos : Pos) (it acc : Value) (env : Env) : compTurn (.SetComp elt [⟨target, iter, ifs, 0⟩, ⟨target', iter', ifs', 0⟩] scope pos) 0 it acc env =
    tsh2 iter.pos target it env ifs (.SetComp elt [⟨target, iter, ifs, 0⟩, ⟨target', iter', ifs', 0⟩] scope pos) iter' acc (again (.compLoop (.SetComp elt [⟨target, iter, ifs, 0⟩, ⟨target', iter', ifs', 0⟩] scope pos) 0 it acc env)) := by rfl
theorem tsh_S2' (elt target iter target' iter' : Expr) (ifs ifs' : List Expr) (scope : Scope) (pos : Pos) (it acc : Value) (env : Env) : compTurn (.SetComp elt [⟨target, iter, ifs, 0⟩, ⟨target', iter', ifs', 0⟩] scope pos) 1 it acc env =
    tsh iter'.pos target' it env ifs' (do let v ← eval elt env; standAt elt.pos; let _ ← call (.builtin "set.add") [acc, v]) (again (.compLoop (.SetComp elt [⟨target, iter, ifs, 0⟩, ⟨target', iter', ifs', 0⟩] scope pos) 1 it acc env)) := by rfl

noncomputable abbrev tests (ifs : List Expr) (env : Env) : Sem Bool := forIn ifs true fun c r => if r = true then do let ok ← isTrue c env (eval c env); pure (ForInStep.yield ok) else pure (ForInStep.yield r)

theorem cl_ix {e : Expr} {depth : Nat} {acc : Value} {pos : Pos} {target : Expr} {ifs : List Expr} {body : Sem Unit} {it : Value} {R : Result → Shared → Prop} {n : Nat} (I : Nat → Shared → Prop)
    (hturn : compTurn e depth it acc env = tsh pos target it env ifs body (again (.compLoop e depth it acc env)))
    (hden : (MM w).den (.compLoop e depth it acc env) = (compTurn e depth it acc env).onRaise (fun x => do noteFrame x env; theTreesLotGoes x))
    (hu : A.under (.compLoop e depth it acc env) = A) (hq : (Code.compLoop e depth it acc env).quiet = true)
    (turn : ∀ i s, i < n → I i s → wpAny (MM w) A (pyNext it) (fun r s₁ => match r with
      | none => False
      | some v => wpAny (MM w) A (letOwnedTupleGo target it v) (fun _ s₁' => wpAny (MM w) A (assign target env v) (fun _ s₂ => wpAny (MM w) A (tests ifs env) (fun ok s₃ =>
        if ok = true then wpAny (MM w) A body (fun _ s₄ => I (i + 1) s₄) (fun _ _ => False) s₃ else I (i + 1) s₃) (fun _ _ => False) s₂) (fun _ _ => False) s₁') (fun _ _ => False) s₁) (fun _ _ => False) s)
    (done : ∀ s, I n s → wpAny (MM w) A (pyNext it) (fun r s₁ => r = none ∧ R (.ok .next) s₁) (fun _ _ => False) s) (h : I 0 s) :
    codeAny (MM w) A (.compLoop e depth it acc env) R s := by
  refine codeAny_loop hq (fun k s' => ∃ i, i ≤ n ∧ k = n - i ∧ I i s') (fun k s' hI => ?_) n ⟨0, Nat.zero_le _, rfl, h⟩
  obtain ⟨i, hi, rfl, hI⟩ := hI
  rw [hden, hu]
  refine wpAny_noted ?_
  rw [hturn]
  unfold tsh
  refine wpAny_bind (wpAny_standAt (wpAny_bind ?_))
  by_cases hlt : i < n
  · refine wpAny_mono (turn i s' hlt hI) (fun r s₁ h₁ => ?_) fun _ _ f => f.elim
    cases r with
    | none => exact h₁.elim
    | some v =>
      refine wpAny_bind (wpAny_mono h₁ (fun _ s₁' h₁' => wpAny_bind (wpAny_mono h₁' (fun _ s₂ h₂ => wpAny_bind (wpAny_mono h₂ (fun ok s₃ h₃ => ?_) fun _ _ f => f.elim)) fun _ _ f => f.elim)) fun _ _ f => f.elim)
      cases ok with
      | false => exact wpAny_pure ⟨rfl, n - (i + 1), by omega, i + 1, hlt, rfl, h₃⟩
      | true => exact wpAny_bind (wpAny_mono h₃ (fun _ s₄ h₄ => wpAny_pure ⟨rfl, n - (i + 1), by omega, i + 1, hlt, rfl, h₄⟩) fun _ _ f => f.elim)
  · have : i = n := by omega
    subst this
    refine wpAny_mono (done s' hI) (fun r s₁ h₁ => ?_) fun _ _ f => f.elim
    obtain ⟨rfl, h₁⟩ := h₁
    exact wpAny_pure h₁

theorem cl_ix2 {e : Expr} {acc : Value} {pos : Pos} {target iter : Expr} {ifs : List Expr} {it : Value} {R : Result → Shared → Prop} {n : Nat} (I : Nat → Shared → Prop)
    (hturn : compTurn e 0 it acc env = tsh2 pos target it env ifs e iter acc (again (.compLoop e 0 it acc env)))
    (hden : (MM w).den (.compLoop e 0 it acc env) = (compTurn e 0 it acc env).onRaise (fun x => do noteFrame x env; theTreesLotGoes x))
    (hu : A.under (.compLoop e 0 it acc env) = A) (hq : (Code.compLoop e 0 it acc env).quiet = true) (hs : ∀ x, foldedSetIterable iter env x = pure x)
    (turn : ∀ i s, i < n → I i s → wpAny (MM w) A (pyNext it) (fun r s₁ => match r with
      | none => False
      | some v => wpAny (MM w) A (letOwnedTupleGo target it v) (fun _ s₁' => wpAny (MM w) A (assign target env v) (fun _ s₂ => wpAny (MM w) A (tests ifs env) (fun ok s₃ =>
        if ok = true then wpAny (MM w) A (eval iter env) (fun x s₄ => wpAny (MM w) A (pyIter x) (fun it' s₅ => codeAny (MM w) A (.compStart e 1 it' acc env) (fun r s₆ => r = .ok .next ∧ I (i + 1) s₆) s₅) (fun _ _ => False) s₄) (fun _ _ => False) s₃ else I (i + 1) s₃) (fun _ _ => False) s₂) (fun _ _ => False) s₁') (fun _ _ => False) s₁) (fun _ _ => False) s)
    (done : ∀ s, I n s → wpAny (MM w) A (pyNext it) (fun r s₁ => r = none ∧ R (.ok .next) s₁) (fun _ _ => False) s) (h : I 0 s) :
    codeAny (MM w) A (.compLoop e 0 it acc env) R s := by
  refine codeAny_loop hq (fun k s' => ∃ i, i ≤ n ∧ k = n - i ∧ I i s') (fun k s' hI => ?_) n ⟨0, Nat.zero_le _, rfl, h⟩
  obtain ⟨i, hi, rfl, hI⟩ := hI
  rw [hden, hu]
  refine wpAny_noted ?_
  rw [hturn]
  unfold tsh2
  refine wpAny_bind (wpAny_standAt (wpAny_bind ?_))
  by_cases hlt : i < n
  · refine wpAny_mono (turn i s' hlt hI) (fun r s₁ h₁ => ?_) fun _ _ f => f.elim
    cases r with
    | none => exact h₁.elim
    | some v =>
      refine wpAny_bind (wpAny_mono h₁ (fun _ s₁' h₁' => wpAny_bind (wpAny_mono h₁' (fun _ s₂ h₂ => wpAny_bind (wpAny_mono h₂ (fun ok s₃ h₃ => ?_) fun _ _ f => f.elim)) fun _ _ f => f.elim)) fun _ _ f => f.elim)
      cases ok with
      | false => exact wpAny_pure ⟨rfl, n - (i + 1), by omega, i + 1, hlt, rfl, h₃⟩
      | true =>
        refine wpAny_bind (wpAny_mono h₃ (fun x s₄ h₄ => ?_) fun _ _ f => f.elim)
        refine wpAny_bind (wpAny_standAt (wpAny_bind (wpAny_of_eq (hs x) (wpAny_bind (wpAny_holding (wpAny_mono h₄ (fun it' s₅ h₅ => ?_) fun _ _ f => f.elim))))))
        refine wpAny_bind (wpAny_runOwn (h := none) ?_)
        refine codeAny_mono (show codeAny (MM w) A (.compStart e 1 it' acc env) (fun r s₆ => r = .ok .next ∧ I (i + 1) s₆) s₅ from h₅) fun r s₆ h₆ => ?_
        obtain ⟨rfl, h₆⟩ := h₆
        exact wpAny_pure ⟨rfl, n - (i + 1), by omega, i + 1, hlt, rfl, h₆⟩
  · have : i = n := by omega
    subst this
    refine wpAny_mono (done s' hI) (fun r s₁ h₁ => ?_) fun _ _ f => f.elim
    obtain ⟨rfl, h₁⟩ := h₁
    exact wpAny_pure h₁

/-- the start: the iterator is asked for itself, or not -/
theorem cs_go {e : Expr} {depth : Nat} {it acc : Value} {g : Comprehension} {R : Result → Shared → Prop} (hg : (clausesOf e)[depth]? = some g) (ha : g.is_async = 0)
    (hden : (MM w).den (.compStart e depth it acc env) = (compStart e depth it acc env).onRaise (fun x => do noteFrame x env; standAt theWindowsPlace))
    (hu : A.under (.compStart e depth it acc env) = A) (hq : (Code.compLoop e depth it acc env).quiet = true)
    (self : ∀ Q : Value → Shared → Prop, Q it s → wpAny (MM w) A (pyIter it) Q (fun _ _ => False) s)
    (h : codeAny (MM w) A (.compLoop e depth it acc env) R s) : codeAny (MM w) A (.compStart e depth it acc env) R s := by
  refine codeAny_of_tree ?_
  rw [hden, hu]
  refine wpAny_notedAt ?_
  unfold compStart
  rw [hg]
  simp only [Option.elim, ha]
  show wpAny _ _ (ask >>= _) _ _ s
  refine wpAny_bind (wpAny_askSetting (wpAny_ite ?_))
  split
  · first
      | exact wpAny_bind (wpAny_pure (wpAny_pure (And.intro hq h)))
      | exact wpAny_pure (And.intro hq h)
  · refine wpAny_bind (wpAny_rule ?_)
    have key : wpAny (MM w) A (pyIter it) (fun it' s' => wpAny (MM w) A (again (.compLoop e depth it' acc env)) (fun fin s' => match fin with | .done f => R (.ok f) s' | .again c' => c'.quiet = true ∧ codeAny (MM w) A c' R s') (fun _ _ => False) s') (fun _ _ => False) s := by
      refine wpAny_mono (self (fun it' s' => it' = it ∧ s' = s) ⟨rfl, rfl⟩) (fun it' s' e => ?_) fun _ _ f => f.elim
      obtain ⟨rfl, rfl⟩ := e
      exact wpAny_pure ⟨hq, h⟩
    refine wpAny_bind (wpAny_standAt (wpAny_bind (wpAny_mono key (fun it' s' h' => ?_) fun _ _ f => f.elim)))
    exact wpAny_mono h' (fun _ _ x => x) fun _ _ f => f.elim

theorem cs_L {elt : Expr} {g : Comprehension} {gs' : List Comprehension} {scope : Scope} {pos : Pos} {it acc : Value} {R : Result → Shared → Prop} (ha : g.is_async = 0)
    (self : ∀ Q : Value → Shared → Prop, Q it s → wpAny (MM w) A (pyIter it) Q (fun _ _ => False) s)
    (h : codeAny (MM w) A (.compLoop (.ListComp elt (g :: gs') scope pos) 0 it acc env) R s) : codeAny (MM w) A (.compStart (.ListComp elt (g :: gs') scope pos) 0 it acc env) R s :=
  cs_go (g := g) rfl ha rfl (Around.under_of_weight rfl) rfl self h
theorem cs_L' {elt : Expr} {g g' : Comprehension} {scope : Scope} {pos : Pos} {it acc : Value} {R : Result → Shared → Prop} (ha : g'.is_async = 0)
    (self : ∀ Q : Value → Shared → Prop, Q it s → wpAny (MM w) A (pyIter it) Q (fun _ _ => False) s)
    (h : codeAny (MM w) A (.compLoop (.ListComp elt [g, g'] scope pos) 1 it acc env) R s) : codeAny (MM w) A (.compStart (.ListComp elt [g, g'] scope pos) 1 it acc env) R s :=
  cs_go (g := g') rfl ha rfl (Around.under_of_weight rfl) rfl self h
theorem cs_S {elt : Expr} {g : Comprehension} {gs' : List Comprehension} {scope : Scope} {pos : Pos} {it acc : Value} {R : Result → Shared → Prop} (ha : g.is_async = 0)
    (self : ∀ Q : Value → Shared → Prop, Q it s → wpAny (MM w) A (pyIter it) Q (fun _ _ => False) s)
    (h : codeAny (MM w) A (.compLoop (.SetComp elt (g :: gs') scope pos) 0 it acc env) R s) : codeAny (MM w) A (.compStart (.SetComp elt (g :: gs') scope pos) 0 it acc env) R s :=
  cs_go (g := g) rfl ha rfl (Around.under_of_weight rfl) rfl self h
theorem cs_S' {elt : Expr} {g g' : Comprehension} {scope : Scope} {pos : Pos} {it acc : Value} {R : Result → Shared → Prop} (ha : g'.is_async = 0)
    (self : ∀ Q : Value → Shared → Prop, Q it s → wpAny (MM w) A (pyIter it) Q (fun _ _ => False) s)
    (h : codeAny (MM w) A (.compLoop (.SetComp elt [g, g'] scope pos) 1 it acc env) R s) : codeAny (MM w) A (.compStart (.SetComp elt [g, g'] scope pos) 1 it acc env) R s :=
  cs_go (g := g') rfl ha rfl (Around.under_of_weight rfl) rfl self h

noncomputable abbrev L1 (elt target iter : Expr) (ifs : List Expr) (scope : Scope) (pos : Pos) : Expr := .ListComp elt [⟨target, iter, ifs, 0⟩] scope pos
/-- the body of a list comprehension's turn: the element, then the append -/
theorem el_app {elt : Expr} {D : Addr} {R : Unit → Shared → Prop} (k : wpAny (MM w) A (eval elt env) (fun y s₁ => wpAny (MM w) A (call (.builtin "list.append") [.ref D, y]) (fun _ s₂ => R () s₂) (fun _ _ => False) s₁) (fun _ _ => False) s) :
    wpAny (MM w) A (do let _ ← call (.builtin "list.append") [.ref D, ← eval elt env]) R (fun _ _ => False) s :=
  wpAny_bind (wpAny_mono k (fun y s₁ h₁ => wpAny_bind (wpAny_mono h₁ (fun _ s₂ h₂ => wpAny_pure h₂) fun _ _ f => f)) fun _ _ f => f)
theorem c_append {D : Addr} {ys : List Value} {x : Value} {Q : Value → Shared → Prop} (H : Inn s₀ led gs s) (k : ∀ s', Inn s₀ led' gs s' → Q .none s') (u : Upd D (lstC ys) (lstC (ys ++ [x])) led led') (hz : ys.length ≤ sizeLine) : wpAny (MM w) A (call (.builtin "list.append") [.ref D, x]) Q E s :=
  wpAny_list_append_plain (hsz := by simpa using hz) (H.has u.mem).pln fun h' h1 h2 => k _ (H.upd u (fun b o hb e => h2.extBut b o hb e) (.of_lst (by simpa using h1)))

theorem L1_loop {elt target iter : Expr} {ifs : List Expr} {scope : Scope} {pos : Pos} {it : Value} {D : Addr} {R : Result → Shared → Prop} {n : Nat} (I : Nat → Shared → Prop)
    (turn : ∀ i s, i < n → I i s → wpAny (MM w) A (pyNext it) (fun r s₁ => match r with
      | none => False
      | some v => wpAny (MM w) A (letOwnedTupleGo target it v) (fun _ s₁' => wpAny (MM w) A (assign target env v) (fun _ s₂ => wpAny (MM w) A (tests ifs env) (fun ok s₃ =>
        if ok = true then wpAny (MM w) A (eval elt env) (fun y s₄ => wpAny (MM w) A (call (.builtin "list.append") [.ref D, y]) (fun _ s₅ => I (i + 1) s₅) (fun _ _ => False) s₄) (fun _ _ => False) s₃ else I (i + 1) s₃) (fun _ _ => False) s₂) (fun _ _ => False) s₁') (fun _ _ => False) s₁) (fun _ _ => False) s)
    (done : ∀ s, I n s → wpAny (MM w) A (pyNext it) (fun r s₁ => r = none ∧ R (.ok .next) s₁) (fun _ _ => False) s) (h : I 0 s)
    (self : ∀ Q : Value → Shared → Prop, Q it s → wpAny (MM w) A (pyIter it) Q (fun _ _ => False) s) :
    codeAny (MM w) A (.compStart (.ListComp elt [⟨target, iter, ifs, 0⟩] scope pos) 0 it (.ref D) env) R s := by
  refine cs_L rfl self (cl_ix I (tsh_L1 ..) rfl (Around.under_of_weight rfl) rfl (fun i s hi hI => ?_) done h)
  refine wpAny_mono (turn i s hi hI) (fun r s₁ h₁ => ?_) fun _ _ f => f
  cases r with
  | none => exact h₁
  | some v =>
    refine wpAny_mono h₁ (fun _ s₁' h₁' => wpAny_mono h₁' (fun _ s₂ h₂ => wpAny_mono h₂ (fun ok s₃ h₃ => ?_) fun _ _ f => f) fun _ _ f => f) fun _ _ f => f
    cases ok with
    | false => exact h₃
    | true => exact el_app h₃

/-- a comprehension begins: its iterable, its iterator -/
theorem lc_eval {elt target iter : Expr} {ifs : List Expr} {rest : List Comprehension} {scope : Scope} {pos : Pos} {cl : List (Str × Addr)} {Q : Value → Shared → Prop}
    (k : wpAny (MM w) A (eval iter env) (fun x s₁ => wpAny (MM w) A (pyIter x) (fun it s₂ => wpAny (MM w) A (newList []) (fun acc s₃ =>
      wpAny (MM w) A (newFunctionEnv scope env.globals cl [] env.qual none .none (some env)) (fun cenv s₄ =>
        codeAny (MM w) A (.compStart (.ListComp elt (⟨target, iter, ifs, 0⟩ :: rest) scope pos) 0 it acc { cenv with scope := relabel scope env }) (compPost (MM w) A E none Q acc cenv.locals) s₄) E s₃) E s₂) E s₁) E s)
    (hclos : Clos env scope.names [] cl) (hs : ∀ x, foldedSetIterable iter env x = pure x) (hkind : scope.kind = .function) (hnames : ∀ y ∈ scope.names, y.2 = .local → scope.names.lookup y.1 = some .local) :
    wpAny (MM w) A (eval (.ListComp elt (⟨target, iter, ifs, 0⟩ :: rest) scope pos) env) Q E s := by
  rw [eval_ListComp]
  exact wpAny_comprehension_free (use := none) rfl hs (clos_pure hclos) hkind hnames k
/-- the frame of a comprehension -/
theorem nf_comp {scope : Scope} {cl : List (Str × Addr)} {Q : Env → Shared → Prop} (H : Inn s₀ led gs s) (k : ∀ C s', Inn s₀ ((C, nsC []) :: led) gs s' → Q (newEnv scope C env.globals cl env.qual none .none (some env) builtinsNs) s')
    (hc : ∀ x ∈ scope.names, x.2 ≠ .cell) (hk : scope.kind = .function) : wpAny (MM w) A (newFunctionEnv scope env.globals cl [] env.qual none .none (some env)) Q E s := by
  refine wpAny_newFunctionEnv hc (by intro y hy; simp at hy) (fun h' h1 h2 => ?_) hk
  exact k _ _ (H.add (s' := { s with heap := h', toks := s.toks + ([] : List (Str × Value)).length }) (fun b o e => h2.extBut b o (Nat.ne_of_lt (Heap.lt_size e)) (Heap.get?_push_of_some _ e)) (get?_none_of_size (Nat.le_refl _)) (.of_ns h1 fun _ _ q => q))
theorem cp_none {acc : Value} {C : Addr} {lc : Loc} {f : Flow} {Q : Value → Shared → Prop} (H : Inn s₀ led gs s) (k : ∀ s', Inn s₀ led' gs s' → Q acc s') (u : Pull C (nsC lc) led led') : compPost (MM w) A E none Q acc C (.ok f) s :=
  let ⟨m, hm, _⟩ := (H.has (u.perm.symm.subset List.mem_cons_self)).ns
  ⟨m, hm, fun h' hs => k _ (H.drop u fun b o hb e => hs.extBut b o hb e)⟩
/-- the value goes to a name at once -/
theorem cp_some {acc : Value} {C : Addr} {f : Flow} {U : Value → Sem Unit} {Q : Value → Shared → Prop} (h : wpAny (MM w) A (U acc) (fun _ s' => ∃ led gs lc led', Inn s₀ led gs s' ∧ Pull C (nsC lc) led led' ∧ ∀ s'', Inn s₀ led' gs s'' → Q .none s'') E s) : compPost (MM w) A E (some U) Q acc C (.ok f) s :=
  wpAny_mono h (fun _ s' h' => by
    obtain ⟨led, gs, lc, led', H, u, k⟩ := h'
    obtain ⟨m, hm, _⟩ := (H.has (u.perm.symm.subset List.mem_cons_self)).ns
    exact ⟨m, hm, fun h' hs => k _ (H.drop u fun b o hb e => hs.extBut b o hb e)⟩) fun _ _ f => f
theorem lc_use {led₀ : Led} {gs₀ : GL} {elt target iter : Expr} {ifs : List Expr} {rest : List Comprehension} {scope : Scope} {pos spos py : Pos} {y : Str} {cl : List (Str × Addr)} {Q : Flow → Shared → Prop} (H₀ : Inn s₀ led₀ gs₀ s)
    (k : wpAny (MM w) A (eval iter env) (fun x s₁ => wpAny (MM w) A (pyIter x) (fun it s₂ => ∃ led gs, Inn s₀ led gs s₂ ∧ ∀ D C s₃, Inn s₀ ((C, nsC []) :: (D, lstC []) :: led) gs s₃ →
        codeAny (MM w) A (.compStart (.ListComp elt (⟨target, iter, ifs, 0⟩ :: rest) scope pos) 0 it (.ref D) (compEnvC scope cl C env)) (compPost (MM w) A E (some (assign (.Name y py) env)) (fun _ s' => Q .next s') (.ref D) C) s₃) E s₁) E s)
    (hsw : swapsWith (.ListComp elt (⟨target, iter, ifs, 0⟩ :: rest) scope pos) (some (.Name y py)) spos.line env = pure true)
    (hclos : Clos env scope.names [] cl) (hs : ∀ x, foldedSetIterable iter env x = pure x) (hkind : scope.kind = .function) (hnames : ∀ y ∈ scope.names, y.2 = .local → scope.names.lookup y.1 = some .local) (hc : ∀ x ∈ scope.names, x.2 ≠ .cell) :
    wpAny (MM w) A (exec (.Assign [.Name y py] (.ListComp elt (⟨target, iter, ifs, 0⟩ :: rest) scope pos) spos) env) Q E s := by
  rw [exec_Assign_Name_used _ _ _ _ hsw]
  refine wpAny_bind (wpAny_standAt (wpAny_bind ?_))
  show wpAny _ A (do let _ ← comprehension (.ListComp elt (⟨target, iter, ifs, 0⟩ :: rest) scope pos) scope env _ (newList []) false (eval iter env) (some (assign (.Name y py) env))) _ _ s
  refine wpAny_bind (wpAny_mono (wpAny_comprehension_free (use := some (assign (.Name y py) env)) (Q := fun _ s' => Q .next s') rfl hs (clos_pure hclos) hkind hnames (wpAny_mono k (fun x s₁ h₁ => wpAny_mono h₁ (fun it s₂ h₂ => ?_) fun _ _ f => f) fun _ _ f => f)) (fun _ s' h => wpAny_pure (wpAny_pure h)) fun _ _ f => f)
  obtain ⟨led, gs, H, h⟩ := h₂
  exact n_list H (fun D s₃ H => nf_comp H (fun C s₄ H => h D C s₄ H) hc hkind) (Nat.zero_le _)
end
end
/-! ### C6 -/
section
noncomputable def isI (i : Int) (v : Value) : Prop := ∃ t, v = .int i t
noncomputable def isS (x : Str) (v : Value) : Prop := ∃ t, v = .str x t
noncomputable def isF (x : UInt64) (v : Value) : Prop := ∃ t, v = .float x t
noncomputable def isB (b : Bool) (v : Value) : Prop := v = .bool b
noncomputable def isR (a : Addr) (v : Value) : Prop := v = .ref a
theorem of_len3 {α : Type} {l : List α} (h : l.length = 3) : ∃ a b c, l = [a, b, c] := by
  cases l with
  | nil => cases h
  | cons a l => cases l with
    | nil => cases h
    | cons b l => cases l with
      | nil => cases h
      | cons c l => cases l with
        | nil => exact ⟨a, b, c, rfl⟩
        | cons d l => simp at h
theorem of_len4 {α : Type} {l : List α} (h : l.length = 4) : ∃ a b c d, l = [a, b, c, d] := by
  cases l with
  | nil => cases h
  | cons x l => obtain ⟨a, b, c, rfl⟩ := of_len3 (l := l) (by simpa using h); exact ⟨x, a, b, c, rfl⟩
theorem paired_get {α β : Type} {F : α → β → Prop} {as : List α} {vs : List β} (p : Paired F as vs) {i : Nat} {v : β} (e : vs[i]? = some v) : ∃ a, as[i]? = some a ∧ F a v := by
  induction p generalizing i with
  | nil => simp at e
  | cons h t ih => cases i with
    | zero => simp at e; subst e; exact ⟨_, rfl, h⟩
    | succ i => exact ih (by simpa using e)
theorem paired_get' {α β : Type} {F : α → β → Prop} {as : List α} {vs : List β} (p : Paired F as vs) {i : Nat} {a : α} (e : as[i]? = some a) : ∃ v, vs[i]? = some v ∧ F a v := by
  induction p generalizing i with
  | nil => simp at e
  | cons h t ih => cases i with
    | zero => simp at e; subst e; exact ⟨_, rfl, h⟩
    | succ i => exact ih (by simpa using e)
theorem paired_map {α α' β : Type} {F : α → β → Prop} (f : α' → α) {as : List α'} {vs : List β} (p : Paired (fun a v => F (f a) v) as vs) : Paired F (as.map f) vs := by
  induction p with
  | nil => exact .nil
  | cons h t ih => exact .cons h ih
theorem paired_imp {α β : Type} {F G : α → β → Prop} {as : List α} {vs : List β} (p : Paired F as vs) (k : ∀ a v, a ∈ as → F a v → G a v) : Paired G as vs := by
  induction p with
  | nil => exact .nil
  | cons h t ih => exact .cons (k _ _ List.mem_cons_self h) (ih fun a v m => k a v (List.mem_cons_of_mem _ m))
theorem paired_app {α β : Type} {F : α → β → Prop} {as as' : List α} {vs vs' : List β} (p : Paired F as vs) (q : Paired F as' vs') : Paired F (as ++ as') (vs ++ vs') := by
  induction p with
  | nil => exact q
  | cons h t ih => exact .cons h ih

section
variable {w : World} {A : Around} {E : Value → Shared → Prop} {s₀ s : Shared} {led led' : Led} {gs : GL} {env : Env}

/-- pyNext, letOwnedTupleGo, assign: one turn's start -/
noncomputable def TurnTo (w : World) (A : Around) (env : Env) (target : Expr) (it : Value) (R : Shared → Prop) (s : Shared) : Prop :=
  wpAny (MM w) A (pyNext it) (fun r s₁ => match r with
    | none => False
    | some v => wpAny (MM w) A (letOwnedTupleGo target it v) (fun _ s₁' => wpAny (MM w) A (assign target env v) (fun _ s₂ => R s₂) (fun _ _ => False) s₁') (fun _ _ => False) s₁) (fun _ _ => False) s
noncomputable def TurnOff (w : World) (A : Around) (it : Value) (R : Shared → Prop) (s : Shared) : Prop := wpAny (MM w) A (pyNext it) (fun r s₁ => r = none ∧ R s₁) (fun _ _ => False) s
/-- a source of items over rows of the ledger; the frame's row is at the head -/
structure Src (w : World) (A : Around) (env : Env) (target : Expr) (it : Value) (s₀ : Shared) (gs : GL) (C : Addr) (n : Nat) (src : Nat → Led) (B : Nat → Loc → Prop) (ok : Led → Prop) : Prop where
  next : ∀ i lc led s (R : Shared → Prop), i < n → ok led → Inn s₀ ((C, nsC lc) :: (src i ++ led)) gs s → (∀ b s', B i b → Inn s₀ ((C, nsC (b ++ lc)) :: (src (i + 1) ++ led)) gs s' → R s') → TurnTo w A env target it R s
  last : ∀ lc led s (R : Shared → Prop), ok led → Inn s₀ ((C, nsC lc) :: (src n ++ led)) gs s → (∀ s', Inn s₀ ((C, nsC lc) :: led) gs s' → R s') → TurnOff w A it R s
  self : ∀ i led s (Q : Value → Shared → Prop), ok led → Inn s₀ (src i ++ led) gs s → Q it s → wpAny (MM w) A (pyIter it) Q (fun _ _ => False) s

theorem pick_mid {a b : Led} : Pick (a ++ b) (a ++ b) := .all
theorem pick_of {l r : Led} (h : l.Perm r) : Pick l r := by
  induction l generalizing r with
  | nil => exact .nil
  | cons p l ih =>
    obtain ⟨a, c⟩ := p
    have hm : (a, c) ∈ r := h.subset List.mem_cons_self
    obtain ⟨r1, r2, rfl⟩ := List.append_of_mem hm
    have hp : ∀ r1 : Led, Pull a c (r1 ++ (a, c) :: r2) (r1 ++ r2) := by
      intro r1
      induction r1 with
      | nil => exact .head
      | cons q r1 ih' => exact .tail ih'
    exact .cons (hp r1) rfl (ih (List.Perm.cons_inv (h.trans List.perm_middle)))
theorem pick_swap {p q : Addr × Cell} {r : Led} : Pick (p :: q :: r) (q :: p :: r) := pick_of (.swap _ _ _)
theorem pick_in {p : Addr × Cell} {a r : Led} : Pick (a ++ p :: r) (p :: (a ++ r)) := pick_of List.perm_middle
theorem pick_out {p : Addr × Cell} {a r : Led} : Pick (p :: (a ++ r)) (a ++ p :: r) := pick_of List.perm_middle.symm

theorem pick_D {d c : Addr × Cell} {a r : Led} : Pick (d :: c :: (a ++ r)) (c :: (a ++ d :: r)) := pick_of ((List.Perm.swap _ _ _).trans (List.Perm.cons _ List.perm_middle.symm))
theorem pick_D' {d c : Addr × Cell} {a r : Led} : Pick (c :: (a ++ d :: r)) (d :: c :: (a ++ r)) := pick_of ((List.Perm.cons _ List.perm_middle).trans (.swap _ _ _))
/-- a list comprehension whose elements are flat -/
theorem LF {elt target iter : Expr} {ifs : List Expr} {scope : Scope} {pos : Pos} {it : Value} {C D : Addr} {n : Nat} {src : Nat → Led} {B : Nat → Loc → Prop} {ok : Led → Prop} {R : Result → Shared → Prop} (p : Nat → Bool) (G : Nat → Value → Prop)
    (S : Src w A env target it s₀ gs C n src B ok) (hok : ∀ ys, ok ((D, lstC ys) :: led)) (hn : n ≤ sizeLine) (H : Inn s₀ ((C, nsC []) :: (src 0 ++ (D, lstC []) :: led)) gs s)
    (hp : ∀ i b lc ys s, i < n → B i b → Inn s₀ ((C, nsC (b ++ lc)) :: (src (i + 1) ++ (D, lstC ys) :: led)) gs s → wpAny (MM w) A (tests ifs env) (fun ok s' => ok = p i ∧ Inn s₀ ((C, nsC (b ++ lc)) :: (src (i + 1) ++ (D, lstC ys) :: led)) gs s') (fun _ _ => False) s)
    (hG : ∀ i b lc ys s, i < n → B i b → p i = true → Inn s₀ ((C, nsC (b ++ lc)) :: (src (i + 1) ++ (D, lstC ys) :: led)) gs s → wpAny (MM w) A (eval elt env) (fun y s' => G i y ∧ Inn s₀ ((C, nsC (b ++ lc)) :: (src (i + 1) ++ (D, lstC ys) :: led)) gs s') (fun _ _ => False) s)
    (k : ∀ lc ys s', Paired G ((List.range n).filter p) ys → Inn s₀ ((C, nsC lc) :: (D, lstC ys) :: led) gs s' → R (.ok .next) s') :
    codeAny (MM w) A (.compStart (.ListComp elt [⟨target, iter, ifs, 0⟩] scope pos) 0 it (.ref D) env) R s := by
  refine L1_loop (n := n) (fun i s => ∃ lc ys, Paired G ((List.range i).filter p) ys ∧ Inn s₀ ((C, nsC lc) :: (src i ++ (D, lstC ys) :: led)) gs s) (fun i s hi hI => ?_) (fun s hI => ?_) ⟨[], [], .nil, H⟩
    (fun Q q => S.self 0 _ _ Q (hok []) (H.pick (.skip .all)) q)
  · obtain ⟨lc, ys, hP, H⟩ := hI
    have hlen : ys.length ≤ sizeLine := by
      have e1 := hP.length
      have e2 : ((List.range i).filter p).length ≤ (List.range i).length := List.length_filter_le _ _
      rw [List.length_range] at e2; omega
    refine S.next i lc _ s (fun s => wpAny (MM w) A (tests ifs env) _ _ s) hi (hok ys) H fun b s₁ hB H => ?_
    refine wpAny_mono (hp i b lc ys s₁ hi hB H) (fun ok s₂ h₂ => ?_) fun _ _ f => f
    obtain ⟨rfl, H⟩ := h₂
    have hr : (List.range (i + 1)).filter p = (List.range i).filter p ++ (if p i = true then [i] else []) := by
      rw [List.range_succ, List.filter_append]; cases h : p i <;> simp [h]
    cases hpi : p i with
    | false =>
      rw [if_neg Bool.false_ne_true]
      refine ⟨b ++ lc, ys, ?_, H⟩
      rw [hr, hpi, if_neg Bool.false_ne_true, List.append_nil]; exact hP
    | true =>
      rw [if_pos rfl]
      refine wpAny_mono (hG i b lc ys s₂ hi hB hpi H) (fun y s₃ h₃ => ?_) fun _ _ f => f
      obtain ⟨hy, H⟩ := h₃
      refine c_append (H.pick pick_D) (fun s' H => ?_) .head hlen
      refine ⟨b ++ lc, ys ++ [y], ?_, ?_⟩
      · rw [hr, hpi, if_pos rfl]; exact hP.snoc hy
      · exact H.pick pick_D'
  · obtain ⟨lc, ys, hP, H⟩ := hI
    exact S.last lc _ s _ (hok ys) H fun s' H => k lc ys s' hP H

/-! ### sources -/
theorem src_list {x : Str} {px : Pos} {I l C : Addr} {vs : List Value} {m : Nat} (hA : AOk A m) (hL : env.locals = C) (hk : env.scope.kind = .function) (hx : env.kindOf x = some .local) :
    Src w A env (.Name x px) (.ref I) s₀ gs C vs.length (fun i => [(I, liC l i)]) (fun i b => ∃ v, vs[i]? = some v ∧ b = [(x, v)]) (fun led => Row l (lstC vs) led) where
  next := fun i lc led s R hi hok H hR => by
    refine nx_list H (fun s₁ H => ?_) (.tail .head) (.tail (.tail hok)) (List.getElem?_eq_getElem hi)
    refine go_name ?_
    exact wpAny_assign_Name (st_local H (fun s₂ H => hR _ _ ⟨_, List.getElem?_eq_getElem hi, rfl⟩ H) .head hL hk hx)
  last := fun lc led s R hok H hR => nx_list_end H hA (fun s' H => ⟨rfl, hR _ H⟩) (.tail .head) (.tail (.tail hok)) (Nat.le_refl _)
  self := fun i led s Q hok H q => wpAny_pyIter_listiter (H.has List.mem_cons_self) q
theorem src_tuple {x : Str} {px : Pos} {I l C : Addr} {vs : List Value} {m : Nat} (hA : AOk A m) (hL : env.locals = C) (hk : env.scope.kind = .function) (hx : env.kindOf x = some .local) :
    Src w A env (.Name x px) (.ref I) s₀ gs C vs.length (fun i => [(I, tiC l i)]) (fun i b => ∃ v, vs[i]? = some v ∧ b = [(x, v)]) (fun led => Row l (tupC vs) led) where
  next := fun i lc led s R hi hok H hR => by
    refine nx_tuple H (fun s₁ H => ?_) (.tail .head) (.tail (.tail hok)) (List.getElem?_eq_getElem hi)
    refine go_name ?_
    exact wpAny_assign_Name (st_local H (fun s₂ H => hR _ _ ⟨_, List.getElem?_eq_getElem hi, rfl⟩ H) .head hL hk hx)
  last := fun lc led s R hok H hR => nx_tuple_end H hA (fun s' H => ⟨rfl, hR _ H⟩) (.tail .head) (.tail (.tail hok)) (Nat.le_refl _)
  self := fun i led s Q hok H q => wpAny_pyIter_tupleiter (H.has List.mem_cons_self) q
theorem src_range {x : Str} {px : Pos} {I C : Addr} {n : Nat} {m : Nat} (hA : AOk A m) (hL : env.locals = C) (hk : env.scope.kind = .function) (hx : env.kindOf x = some .local) :
    Src w A env (.Name x px) (.ref I) s₀ gs C n (fun i => [(I, riC i n)]) (fun i b => ∃ t, b = [(x, .int i t)]) (fun led => True) where
  next := fun i lc led s R hi hok H hR => by
    refine nx_range H (fun t s₁ H => ?_) (.tail .head) (by omega)
    refine go_name ?_
    exact wpAny_assign_Name (st_local H (fun s₂ H => hR _ _ ⟨_, rfl⟩ H) .head hL hk hx)
  last := fun lc led s R hok H hR => nx_range_end H hA (fun s' H => ⟨rfl, hR _ H⟩) (.tail .head) (Int.le_refl _)
  self := fun i led s Q hok H q => by
    obtain ⟨o, ho, rfl⟩ := H.has List.mem_cons_self
    exact wpAny_pyIter_rangeiter ho q
theorem src_enum {x y : Str} {p1 p2 p3 : Pos} {x1 : Nat} {D I l C : Addr} {vs : List Value} {m : Nat} (hA : AOk A m) (hL : env.locals = C) (hk : env.scope.kind = .function) (hx : env.kindOf x = some .local) (hy : env.kindOf y = some .local) :
    Src w A env (.Tuple [.Name x p1, .Name y p2] x1 p3) (.ref D) s₀ gs C vs.length (fun i => [(D, enC I i), (I, liC l i)]) (fun i b => ∃ v t, vs[i]? = some v ∧ b = [(y, v), (x, .int i t)]) (fun led => Row l (lstC vs) led) where
  next := fun i lc led s R hi hok H hR => by
    refine nx_enum H (fun T t s₁ H => ?_) (pick_of ((List.Perm.cons _ (.swap _ _ _)).trans (.swap _ _ _))) (.tail hok) (List.getElem?_eq_getElem hi)
    refine go_enum H (fun s₂ H => ?_) (.tail .head)
    refine as_tuple H hA (fun s₃ H => ?_) .head rfl rfl
    refine ao_cons (wpAny_assign_Name (st_local H (fun s₄ H => ?_) (.tail (.tail (.tail .head))) hL hk hx))
    refine ao_cons (wpAny_assign_Name (st_local H (fun s₅ H => ?_) (.tail (.tail (.tail .head))) hL hk hy))
    exact ao_nil (hR _ _ ⟨_, _, List.getElem?_eq_getElem hi, rfl⟩ (H.pick (.skip (pick_of ((List.Perm.swap _ _ _).trans (List.Perm.cons _ (.swap _ _ _)))))))
  last := fun lc led s R hok H hR => by
    refine nx_enum_end H hA (fun s' H => ⟨rfl, hR _ H⟩) (pick_of ((List.Perm.cons _ (.swap _ _ _)).trans (.swap _ _ _))) (.tail hok) (Nat.le_refl _)
  self := fun i led s Q hok H q => it_enum H q .head
end
end
/-! ### C7 -/
section
variable {w : World} {A : Around} {E : Value → Shared → Prop} {s₀ s : Shared} {led led' : Led} {gs : GL} {env : Env} {n : Nat} {t u : Tok} {mg mb : Str → Option Value}

theorem lc_go {led₀ : Led} {gs₀ : GL} {elt target iter : Expr} {ifs : List Expr} {rest : List Comprehension} {scope : Scope} {pos : Pos} {cl : List (Str × Addr)} {Q : Value → Shared → Prop} (H₀ : Inn s₀ led₀ gs₀ s)
    (k : wpAny (MM w) A (eval iter env) (fun x s₁ => wpAny (MM w) A (pyIter x) (fun it s₂ => ∃ led gs, Inn s₀ led gs s₂ ∧ ∀ D C s₃, Inn s₀ ((C, nsC []) :: (D, lstC []) :: led) gs s₃ →
        codeAny (MM w) A (.compStart (.ListComp elt (⟨target, iter, ifs, 0⟩ :: rest) scope pos) 0 it (.ref D) (compEnvC scope cl C env)) (compPost (MM w) A E none Q (.ref D) C) s₃) E s₁) E s)
    (hclos : Clos env scope.names [] cl) (hs : ∀ x, foldedSetIterable iter env x = pure x) (hkind : scope.kind = .function) (hnames : ∀ y ∈ scope.names, y.2 = .local → scope.names.lookup y.1 = some .local) (hc : ∀ x ∈ scope.names, x.2 ≠ .cell) :
    wpAny (MM w) A (eval (.ListComp elt (⟨target, iter, ifs, 0⟩ :: rest) scope pos) env) Q E s := by
  refine lc_eval (wpAny_mono k (fun x s₁ h₁ => wpAny_mono h₁ (fun it s₂ h₂ => ?_) fun _ _ f => f) fun _ _ f => f) hclos hs hkind hnames
  obtain ⟨led, gs, H, h⟩ := h₂
  exact n_list H (fun D s₃ H => nf_comp H (fun C s₄ H => h D C s₄ H) hc hkind) (Nat.zero_le _)

/-! ### calls of the text's defs -/
theorem cw_def {fa : Addr} {o : Obj} {fd : FuncData} {pos : Pos} {e : Expr} {rest : List Expr} {Q : Value → Shared → Prop} (G : GG w mg mb s₀.heap) 
    (h : wpAny (MM w) A (spliced (backTo pos (starEach (e :: rest) env))) (fun vs s₁ => (∃ led gs, Inn s₀ led gs s₁) ∧ wpAny (MM w) A (call (.ref fa) vs) Q E s₁) E s) (ho : (hd.heap_1 w.params).lookup fa = some o) (hdat : o.data = .func fd)
    (he : starEach (e :: rest) env = (false, eval e env) :: starEach rest env) : wpAny (MM w) A (callWith pos (.ref fa) [] (backTo pos (starEach (e :: rest) env)) []) Q E s :=
  callWith_def hdat (wpAny_mono h (fun vs s₁ h₁ => by obtain ⟨⟨led, gs, H⟩, h₁⟩ := h₁; exact ⟨(H.gg G).k _ _ ho, h₁⟩) fun _ _ f => f) he

/-! ### ints -/
theorem i_add {a b : Int} {Q : Value → Shared → Prop} (H : Inn s₀ led gs s) (k : ∀ t s', Inn s₀ led gs s' → Q (.int (a + b) t) s') : wpAny (MM w) A (binaryOp .Add (.int a t) (.int b u)) Q E s := P.add_int (k _ _ (H.tok _))
theorem i_sub {a b : Int} {Q : Value → Shared → Prop} (H : Inn s₀ led gs s) (k : ∀ t s', Inn s₀ led gs s' → Q (.int (a - b) t) s') : wpAny (MM w) A (binaryOp .Sub (.int a t) (.int b u)) Q E s := P.sub_int (k _ _ (H.tok _))
theorem i_iadd {a b : Int} {Q : Value → Shared → Prop} (H : Inn s₀ led gs s) (k : ∀ t s', Inn s₀ led gs s' → Q (.int (a + b) t) s') : wpAny (MM w) A (inplaceOp .Add (.int a t) (.int b u)) Q E s := P.iadd_int (k _ _ (H.tok _))
theorem i_isub {a b : Int} {Q : Value → Shared → Prop} (H : Inn s₀ led gs s) (k : ∀ t s', Inn s₀ led gs s' → Q (.int (a - b) t) s') : wpAny (MM w) A (inplaceOp .Sub (.int a t) (.int b u)) Q E s := P.isub_int (k _ _ (H.tok _))
theorem i_mul {a b : Int} {Q : Value → Shared → Prop} (H : Inn s₀ led gs s) (k : ∀ t s', Inn s₀ led gs s' → Q (.int (a * b) t) s') (hm : IntMulOk a b) : wpAny (MM w) A (binaryOp .Mult (.int a t) (.int b u)) Q E s := P.mul_int (hm := hm) (k _ _ (H.tok _))
theorem i_fdiv {a b : Int} {Q : Value → Shared → Prop} (H : Inn s₀ led gs s) (k : ∀ t s', Inn s₀ led gs s' → Q (.int (a.fdiv b) t) s') (hb : b ≠ 0) (hp : Builtin.divisionGoesByPylong a b = false) : wpAny (MM w) A (binaryOp .FloorDiv (.int a t) (.int b u)) Q E s := PyProof.Rows.floordiv_int (hp := .inl hp) hb (k _ _ (H.tok _))
theorem i_fmod {a b : Int} {Q : Value → Shared → Prop} (H : Inn s₀ led gs s) (k : ∀ t s', Inn s₀ led gs s' → Q (.int (a.fmod b) t) s') (hb : b ≠ 0) : wpAny (MM w) A (binaryOp .Mod (.int a t) (.int b u)) Q E s := PyProof.Rows.mod_int' hb (k _ _ (H.tok _))
theorem i_eq {a b : Int} {Q : Value → Shared → Prop} (k : Q (.bool (a == b)) s) : wpAny (MM w) A (compareOp .Eq (.int a t) (.int b u)) Q E s := P.eq_int k
theorem i_ne {a b : Int} {Q : Value → Shared → Prop} (k : Q (.bool (a != b)) s) : wpAny (MM w) A (compareOp .NotEq (.int a t) (.int b u)) Q E s := P.ne_int k
theorem i_lt {a b : Int} {Q : Value → Shared → Prop} (k : Q (.bool (decide (a < b))) s) : wpAny (MM w) A (compareOp .Lt (.int a t) (.int b u)) Q E s := P.lt_int k
theorem i_le {a b : Int} {Q : Value → Shared → Prop} (k : Q (.bool (decide (a ≤ b))) s) : wpAny (MM w) A (compareOp .LtE (.int a t) (.int b u)) Q E s := P.le_int k
theorem i_gt {a b : Int} {Q : Value → Shared → Prop} (k : Q (.bool (decide (a > b))) s) : wpAny (MM w) A (compareOp .Gt (.int a t) (.int b u)) Q E s := P.gt_int k
theorem i_ge {a b : Int} {Q : Value → Shared → Prop} (k : Q (.bool (decide (a ≥ b))) s) : wpAny (MM w) A (compareOp .GtE (.int a t) (.int b u)) Q E s := P.ge_int k

/-! ### floats with ints -/
theorem g_addfi {a : UInt64} {b : Int} {Q : Value → Shared → Prop} (H : Inn s₀ led gs s) (k : ∀ t s', Inn s₀ led gs s' → Q (.float (Float64.add a (Float64.ofInt b)) t) s') (hb : ¬Float64.isInf (Float64.ofInt b) = true) : wpAny (MM w) A (binaryOp .Add (.float a t) (.int b u)) Q E s := AutoFloatOps.add_fi_1 hb (k _ _ (H.tok _))
theorem g_subfi {a : UInt64} {b : Int} {Q : Value → Shared → Prop} (H : Inn s₀ led gs s) (k : ∀ t s', Inn s₀ led gs s' → Q (.float (Float64.sub a (Float64.ofInt b)) t) s') (hb : ¬Float64.isInf (Float64.ofInt b) = true) : wpAny (MM w) A (binaryOp .Sub (.float a t) (.int b u)) Q E s := AutoFloatOps.sub_fi_1 hb (k _ _ (H.tok _))
theorem g_mulfi {a : UInt64} {b : Int} {Q : Value → Shared → Prop} (H : Inn s₀ led gs s) (k : ∀ t s', Inn s₀ led gs s' → Q (.float (Float64.mul a (Float64.ofInt b)) t) s') (hb : ¬Float64.isInf (Float64.ofInt b) = true) : wpAny (MM w) A (binaryOp .Mult (.float a t) (.int b u)) Q E s := AutoFloatOps.mul_fi_1 hb (k _ _ (H.tok _))
theorem g_modfi {a : UInt64} {b : Int} {Q : Value → Shared → Prop} (H : Inn s₀ led gs s) (k : ∀ t s', Inn s₀ led gs s' → Q (.float (Float64.divmod a (Float64.ofInt b)).2 t) s') (hb : ¬Float64.isInf (Float64.ofInt b) = true) (hz : ¬Float64.isZero (Float64.ofInt b) = true) : wpAny (MM w) A (binaryOp .Mod (.float a t) (.int b u)) Q E s := AutoFloatOps.mod_fi_2 hb hz (k _ _ (H.tok _))
theorem g_subif {a : UInt64} {b : Int} {Q : Value → Shared → Prop} (H : Inn s₀ led gs s) (k : ∀ t s', Inn s₀ led gs s' → Q (.float (Float64.sub (Float64.ofInt b) a) t) s') (hb : ¬Float64.isInf (Float64.ofInt b) = true) : wpAny (MM w) A (binaryOp .Sub (.int b u) (.float a t)) Q E s := AutoFloatOps.sub_if_1 hb (k _ _ (H.tok _))
theorem g_mulif {a : UInt64} {b : Int} {Q : Value → Shared → Prop} (H : Inn s₀ led gs s) (k : ∀ t s', Inn s₀ led gs s' → Q (.float (Float64.mul (Float64.ofInt b) a) t) s') (hb : ¬Float64.isInf (Float64.ofInt b) = true) : wpAny (MM w) A (binaryOp .Mult (.int b u) (.float a t)) Q E s :=
  AutoFloatOpsIf.mul_if (by rw [if_neg hb]; exact k _ _ (H.tok _))
theorem g_divii {a b : Int} {Q : Value → Shared → Prop} (H : Inn s₀ led gs s) (k : ∀ t s', Inn s₀ led gs s' → Q (.float (Float64.ofFrac (decide (a < 0) != decide (b < 0)) a.natAbs b.natAbs) t) s') (hz : ¬(b == 0) = true) (hb : ¬Float64.isInf (Float64.ofFrac (decide (a < 0) != decide (b < 0)) a.natAbs b.natAbs) = true) :
    wpAny (MM w) A (binaryOp .Div (.int a t) (.int b u)) Q E s := AutoIntOps.truediv_2 hz hb (k _ _ (H.tok _))
theorem g_abs {a : UInt64} {Q : Value → Shared → Prop} (H : Inn s₀ led gs s) (k : ∀ t s', Inn s₀ led gs s' → Q (.float (Float64.abs a) t) s') : wpAny (MM w) A (call (.builtin "abs") [.float a t]) Q E s := PySem.Flt.call_abs_float (k _ _ (H.tok _))
/-- int() of a finite double -/
noncomputable def truncF (x : UInt64) : Option Int := match Float64.decode x with | .fin sg m e => some (Float64.truncOf sg m e) | _ => none
theorem g_int {a : UInt64} {i : Int} {Q : Value → Shared → Prop} (H : Inn s₀ led gs s) (k : ∀ t s', Inn s₀ led gs s' → Q (.int i t) s') (h : truncF a = some i) : wpAny (MM w) A (call (.type "int") [.float a t]) Q E s := by
  unfold truncF at h
  split at h
  · rename_i sg m e hd
    cases h
    exact call_int_float hd (k _ _ (H.tok _))
  · cases h
end

/-- the cells a comprehension closes over -/
theorem lay_C7_1 : True := by
  k_with "tb_start.C7.1" => (first
  | with_reducible exact Clos.nil | with_reducible exact cel_head
  | (focus ((with_reducible apply Clos.skip); rfl; tb_start))
  | (focus ((with_reducible apply Clos.take); (first | with_reducible exact cel_comp | with_reducible exact cel_new); tb_start; tb_start))
  | (focus ((with_reducible apply cel_tail); (decide +kernel); tb_start))
  | fail "-")
  exact True.intro
local macro_rules | `(tactic| tb_start) => `(tactic| k_extra "tb_start.C7.1")
theorem lay_C7_2 : True := by
  k_with "nest_cls.C7.2" => ((clear H; intro D C s H))
  exact True.intro
local macro_rules | `(tactic| nest_cls) => `(tactic| k_extra "nest_cls.C7.2")

theorem lay_C7_3 : True := by
  k_with "cell_call.C7.3" => (first
  | ((with_reducible refine' lc_go ?kqlfA1 ?_ ?kqlfc ?kqlfs ?kqlfo ?kqlfn ?kqlfh); (case kqlfA1 => with_reducible assumption); (case kqlfc => tb_start); (case kqlfs => intro _; rfl); (case kqlfo => rfl); (case kqlfn => decide +kernel); (case kqlfh => decide +kernel))
  | ((with_reducible show wpAny _ _ (PySem.call _ _) _ _ _); first
    | ((with_reducible refine' g_abs ?kqlfA1 ?_); (case kqlfA1 => with_reducible assumption); fold_depth)
    | ((with_reducible refine' mk_range ?kqlfA1 ?_); (case kqlfA1 => with_reducible assumption); f_fact))
  | ((with_reducible show wpAny _ _ (PySem.binaryOp _ _ _) _ _ _); first
    | ((with_reducible refine' i_add ?kqlfA1 ?_); (case kqlfA1 => with_reducible assumption); fold_depth)
    | ((with_reducible refine' i_sub ?kqlfA1 ?_); (case kqlfA1 => with_reducible assumption); fold_depth)
    | ((with_reducible refine' g_addfi ?kqlfA1 ?_ ?kqlfa); (case kqlfA1 => with_reducible assumption); (case kqlfa => decide +kernel); fold_depth)
    | ((with_reducible refine' g_subfi ?kqlfA1 ?_ ?kqlfa); (case kqlfA1 => with_reducible assumption); (case kqlfa => decide +kernel); fold_depth)
    | ((with_reducible refine' g_mulfi ?kqlfA1 ?_ ?kqlfa); (case kqlfA1 => with_reducible assumption); (case kqlfa => decide +kernel); fold_depth)
    | ((with_reducible refine' g_modfi ?kqlfA1 ?_ ?kqlfa ?kqlfb); (case kqlfA1 => with_reducible assumption); (case kqlfa => decide +kernel); (case kqlfb => decide +kernel); fold_depth)
    | ((with_reducible refine' g_subif ?kqlfA1 ?_ ?kqlfa); (case kqlfA1 => with_reducible assumption); (case kqlfa => decide +kernel); fold_depth)
    | ((with_reducible refine' g_mulif ?kqlfA1 ?_ ?kqlfa); (case kqlfA1 => with_reducible assumption); (case kqlfa => decide +kernel); fold_depth))
  | ((with_reducible show wpAny _ _ (PySem.compareOp _ _ _) _ _ _); first
    | (with_reducible refine i_eq ?_)
    | (with_reducible refine i_ne ?_)
    | (with_reducible refine i_lt ?_)
    | (with_reducible refine i_le ?_)
    | (with_reducible refine i_gt ?_)
    | (with_reducible refine i_ge ?_))
  | ((with_reducible refine wpAny_For ?_ ?kqlfs); (case kqlfs => intro _; rfl))
  | ((with_reducible show wpAny _ _ (PySem.assignInOrder _ _) _ _ _); first
    | (with_reducible refine ao_cons ?_)
    | (with_reducible refine ao_nil ?_))
  | ((with_reducible show wpAny _ _ (PySem.pyIter _) _ _ _); first
    | ((with_reducible refine' it_list ?kqlfA1 ?_ ?kqlfa); (case kqlfA1 => with_reducible assumption); (case kqlfa => tb_rel); f_fact)
    | ((with_reducible refine' it_tuple ?kqlfA1 ?_ ?kqlfa); (case kqlfA1 => with_reducible assumption); (case kqlfa => tb_rel); f_fact))
  | ((with_reducible refine' cw_def ?kqlfA1 ?_ ?kqlfa ?kqlfb ?kqlfc); (case kqlfA1 => with_reducible assumption); (case kqlfa => rfl); (case kqlfb => rfl); (case kqlfc => rfl))
  | ((with_reducible show wpAny _ _ (PySem.inplaceOp _ _ _) _ _ _); first
    | ((with_reducible refine' i_iadd ?kqlfA1 ?_); (case kqlfA1 => with_reducible assumption); fold_depth)
    | ((with_reducible refine' i_isub ?kqlfA1 ?_); (case kqlfA1 => with_reducible assumption); fold_depth))
  | ((with_reducible refine Exists.intro _ (Exists.intro _ (And.intro (by with_reducible assumption) ?_))); nest_cls)
  | ((with_reducible refine' PyProof.Rows.callWith_type1 ?_ ?kqlfa ?kqlfb); (case kqlfa => rfl); (case kqlfb => rfl))
  | (with_reducible refine And.intro (Exists.intro _ (Exists.intro _ (by with_reducible assumption))) ?_)
  | ((with_reducible refine' as_tuple ?kqlfA1 ?kqlfA2 ?_ ?kqlfr ?kqlfa ?kqlfb); (case kqlfA1 => with_reducible assumption); (case kqlfA2 => with_reducible assumption); (case kqlfr => tb_rel); (case kqlfa => rfl); (case kqlfb => rfl); fold_lay)
  | ((with_reducible refine' un_tuple ?kqlfA1 ?kqlfA2 ?_ ?kqlfr ?kqlfa); (case kqlfA1 => with_reducible assumption); (case kqlfA2 => with_reducible assumption); (case kqlfr => tb_rel); (case kqlfa => rfl); fold_lay)
  | fail "-")
  exact True.intro
local macro_rules | `(tactic| cell_call) => `(tactic| k_extra "cell_call.C7.3")
/-! ### C8 -/
section
theorem conv_aux {α : Type} {G : α → Value → Prop} {p : α → Bool} (rest : List α) : ∀ (pre : List α) (ys : List Value),
    Paired (fun i y => ∃ a, (pre ++ rest)[i]? = some a ∧ G a y) ((List.range' pre.length rest.length).filter fun i => ((pre ++ rest)[i]?).elim false p) ys → Paired G (rest.filter p) ys := by
  induction rest with
  | nil =>
    intro pre ys h
    have h : Paired _ [] ys := h
    cases h; exact .nil
  | cons a rest ih =>
    intro pre ys h
    have hget : (pre ++ a :: rest)[pre.length]? = some a := by rw [List.getElem?_append_right (Nat.le_refl _), Nat.sub_self]; rfl
    have ih := ih (pre ++ [a])
    rw [List.length_append, List.length_singleton, List.append_assoc, List.singleton_append] at ih
    rw [List.length_cons, List.range'_succ, List.filter_cons, hget] at h
    generalize pre ++ a :: rest = all at hget ih h
    rw [List.filter_cons]
    cases hp : p a
    · rw [if_neg Bool.false_ne_true]
      rw [if_neg (show ¬ (some a).elim false p = true from fun e => Bool.false_ne_true (hp.symm.trans e))] at h
      exact ih ys h
    · rw [if_pos rfl]
      rw [if_pos (show (some a).elim false p = true from hp)] at h
      cases h with
      | cons h1 h2 =>
        obtain ⟨a', e1, h1⟩ := h1
        cases hget.symm.trans e1
        exact .cons h1 (ih _ h2)
theorem conv_paired {α : Type} {G : α → Value → Prop} {p : α → Bool} {as : List α} {ys : List Value}
    (h : Paired (fun i y => ∃ a, as[i]? = some a ∧ G a y) ((List.range as.length).filter fun i => (as[i]?).elim false p) ys) : Paired G (as.filter p) ys := by
  refine conv_aux as [] ys ?_
  rw [List.range_eq_range'] at h
  exact h

section
variable {w : World} {A : Around} {E : Value → Shared → Prop} {s₀ s : Shared} {led led' : Led} {gs : GL} {env : Env} {mg mb : Str → Option Value}
variable {scope : Scope} {cl : List (Str × Addr)} {pos : Pos} {elt iter : Expr} {ifs : List Expr} {C D I : Addr} {R : Result → Shared → Prop} {m : Nat}

/-- over a list, by one name -/
theorem LF_list {α : Type} {as : List α} {vs : List Value} {l : Addr} {x : Str} {px : Pos} {F : α → Value → Prop} (p : α → Bool) (G : α → Value → Prop) (hF : Paired F as vs) (hA : AOk A m)
    (H : Inn s₀ ((C, nsC []) :: (D, lstC []) :: (I, liC l 0) :: led) gs s) (r : Row l (lstC vs) led) (hk : (compEnvC scope cl C env).scope.kind = .function) (hx : (compEnvC scope cl C env).kindOf x = some .local) (hn : vs.length ≤ sizeLine)
    (hp : ∀ a v lc i ys s, a ∈ as → F a v → Inn s₀ ((C, nsC ((x, v) :: lc)) :: (I, liC l i) :: (D, lstC ys) :: led) gs s → wpAny (MM w) A (tests ifs (compEnvC scope cl C env)) (fun ok s' => ok = p a ∧ Inn s₀ ((C, nsC ((x, v) :: lc)) :: (I, liC l i) :: (D, lstC ys) :: led) gs s') (fun _ _ => False) s)
    (hG : ∀ a v lc i ys s, a ∈ as → F a v → p a = true → Inn s₀ ((C, nsC ((x, v) :: lc)) :: (I, liC l i) :: (D, lstC ys) :: led) gs s → wpAny (MM w) A (eval elt (compEnvC scope cl C env)) (fun y s' => G a y ∧ Inn s₀ ((C, nsC ((x, v) :: lc)) :: (I, liC l i) :: (D, lstC ys) :: led) gs s') (fun _ _ => False) s)
    (k : ∀ lc ys s', Paired G (as.filter p) ys → Inn s₀ ((C, nsC lc) :: (D, lstC ys) :: led) gs s' → R (.ok .next) s') :
    codeAny (MM w) A (.compStart (.ListComp elt [⟨.Name x px, iter, ifs, 0⟩] scope pos) 0 (.ref I) (.ref D) (compEnvC scope cl C env)) R s := by
  refine LF (fun i => (as[i]?).elim false p) (fun i y => ∃ a, as[i]? = some a ∧ G a y) (src_list (l := l) (vs := vs) hA rfl hk hx) (fun ys => .tail r) hn (H.pick (.cons .head rfl (.cons (.tail .head) rfl .all)))
    (fun i b lc ys s hi hB H => ?_) (fun i b lc ys s hi hB hpi H => ?_) (fun lc ys s' hP H => k lc ys s' (conv_paired (by rw [hF.length]; exact hP)) H)
  · obtain ⟨v, hv, rfl⟩ := hB
    obtain ⟨a, ha, hFa⟩ := paired_get hF hv
    simp only [ha, Option.elim]
    exact hp a v lc (i + 1) ys s (List.mem_of_getElem? ha) hFa H
  · obtain ⟨v, hv, rfl⟩ := hB
    obtain ⟨a, ha, hFa⟩ := paired_get hF hv
    simp only [ha, Option.elim] at hpi
    exact wpAny_mono (hG a v lc (i + 1) ys s (List.mem_of_getElem? ha) hFa hpi H) (fun y s' h => ⟨⟨a, ha, h.1⟩, h.2⟩) fun _ _ f => f
/-- without a test -/
theorem LF_list0 {α : Type} {as : List α} {vs : List Value} {l : Addr} {x : Str} {px : Pos} {F : α → Value → Prop} (G : α → Value → Prop) (hF : Paired F as vs) (hA : AOk A m)
    (H : Inn s₀ ((C, nsC []) :: (D, lstC []) :: (I, liC l 0) :: led) gs s) (r : Row l (lstC vs) led) (hk : (compEnvC scope cl C env).scope.kind = .function) (hx : (compEnvC scope cl C env).kindOf x = some .local) (hn : vs.length ≤ sizeLine)
    (hG : ∀ a v lc i ys s, a ∈ as → F a v → Inn s₀ ((C, nsC ((x, v) :: lc)) :: (I, liC l i) :: (D, lstC ys) :: led) gs s → wpAny (MM w) A (eval elt (compEnvC scope cl C env)) (fun y s' => G a y ∧ Inn s₀ ((C, nsC ((x, v) :: lc)) :: (I, liC l i) :: (D, lstC ys) :: led) gs s') (fun _ _ => False) s)
    (k : ∀ lc ys s', Paired G as ys → Inn s₀ ((C, nsC lc) :: (D, lstC ys) :: led) gs s' → R (.ok .next) s') :
    codeAny (MM w) A (.compStart (.ListComp elt [⟨.Name x px, iter, [], 0⟩] scope pos) 0 (.ref I) (.ref D) (compEnvC scope cl C env)) R s :=
  LF_list (fun _ => true) G hF hA H r hk hx hn (fun a v lc i ys s _ _ H => wpAny_pure ⟨rfl, H⟩) (fun a v lc i ys s ha hf _ H => hG a v lc i ys s ha hf H)
    fun lc ys s' hP H => k lc ys s' (by rwa [List.filter_eq_self.mpr (fun _ _ => rfl)] at hP) H

theorem range_elim {n : Nat} {p : Nat → Bool} : (List.range n).filter p = (List.range n).filter fun i => ((List.range n)[i]?).elim false p := by
  refine List.filter_congr fun i hi => ?_
  rw [List.getElem?_range (List.mem_range.mp hi)]; rfl
/-- over a range -/
theorem LF_range {n : Nat} {x : Str} {px : Pos} (p : Nat → Bool) (G : Nat → Value → Prop) (hA : AOk A m)
    (H : Inn s₀ ((C, nsC []) :: (D, lstC []) :: (I, riC 0 n) :: led) gs s) (hk : (compEnvC scope cl C env).scope.kind = .function) (hx : (compEnvC scope cl C env).kindOf x = some .local) (hn : n ≤ sizeLine)
    (hp : ∀ j t lc ri ys s, j < n → Inn s₀ ((C, nsC ((x, .int (j : Nat) t) :: lc)) :: (I, ri) :: (D, lstC ys) :: led) gs s → wpAny (MM w) A (tests ifs (compEnvC scope cl C env)) (fun ok s' => ok = p j ∧ Inn s₀ ((C, nsC ((x, .int (j : Nat) t) :: lc)) :: (I, ri) :: (D, lstC ys) :: led) gs s') (fun _ _ => False) s)
    (hG : ∀ j t lc ri ys s, j < n → p j = true → Inn s₀ ((C, nsC ((x, .int (j : Nat) t) :: lc)) :: (I, ri) :: (D, lstC ys) :: led) gs s → wpAny (MM w) A (eval elt (compEnvC scope cl C env)) (fun y s' => G j y ∧ Inn s₀ ((C, nsC ((x, .int (j : Nat) t) :: lc)) :: (I, ri) :: (D, lstC ys) :: led) gs s') (fun _ _ => False) s)
    (k : ∀ lc ys s', Paired G ((List.range n).filter p) ys → Inn s₀ ((C, nsC lc) :: (D, lstC ys) :: led) gs s' → R (.ok .next) s') :
    codeAny (MM w) A (.compStart (.ListComp elt [⟨.Name x px, iter, ifs, 0⟩] scope pos) 0 (.ref I) (.ref D) (compEnvC scope cl C env)) R s := by
  refine LF p G (src_range (n := n) hA rfl hk hx) (fun ys => trivial) hn (H.pick (.cons .head rfl (.cons (.tail .head) rfl .all)))
    (fun i b lc ys s hi hB H => ?_) (fun i b lc ys s hi hB hpi H => ?_) k
  · obtain ⟨t, rfl⟩ := hB
    exact hp i t lc _ ys s hi H
  · obtain ⟨t, rfl⟩ := hB
    exact hG i t lc _ ys s hi hpi H
/-- over enumerate of a list -/
theorem LF_enum {α : Type} {as : List α} {vs : List Value} {l J : Addr} {x y : Str} {p1 p2 p3 : Pos} {x1 : Nat} {F : α → Value → Prop} (G : Nat → Value → Prop) (hF : Paired F as vs) (hA : AOk A m)
    (H : Inn s₀ ((C, nsC []) :: (D, lstC []) :: (I, enC J 0) :: (J, liC l 0) :: led) gs s) (r : Row l (lstC vs) led) (hk : (compEnvC scope cl C env).scope.kind = .function) (hx : (compEnvC scope cl C env).kindOf x = some .local) (hy : (compEnvC scope cl C env).kindOf y = some .local) (hn : vs.length ≤ sizeLine)
    (hG : ∀ j a v t lc e1 e2 ys s, as[j]? = some a → F a v → Inn s₀ ((C, nsC ((y, v) :: (x, .int (j : Nat) t) :: lc)) :: (I, e1) :: (J, e2) :: (D, lstC ys) :: led) gs s → wpAny (MM w) A (eval elt (compEnvC scope cl C env)) (fun z s' => G j z ∧ Inn s₀ ((C, nsC ((y, v) :: (x, .int (j : Nat) t) :: lc)) :: (I, e1) :: (J, e2) :: (D, lstC ys) :: led) gs s') (fun _ _ => False) s)
    (k : ∀ lc ys s', Paired G (List.range as.length) ys → Inn s₀ ((C, nsC lc) :: (D, lstC ys) :: led) gs s' → R (.ok .next) s') :
    codeAny (MM w) A (.compStart (.ListComp elt [⟨.Tuple [.Name x p1, .Name y p2] x1 p3, iter, [], 0⟩] scope pos) 0 (.ref I) (.ref D) (compEnvC scope cl C env)) R s := by
  refine LF (fun _ => true) G (src_enum (I := J) (l := l) (vs := vs) hA rfl hk hx hy) (fun ys => .tail r) hn (H.pick (.cons .head rfl (.cons (.tail .head) rfl (.cons (.tail .head) rfl .all))))
    (fun i b lc ys s hi hB H => wpAny_pure ⟨rfl, H⟩) (fun i b lc ys s hi hB hpi H => ?_) (fun lc ys s' hP H => k lc ys s' (by rwa [List.filter_eq_self.mpr (fun _ _ => rfl), ← hF.length] at hP) H)
  obtain ⟨v, t, hv, rfl⟩ := hB
  obtain ⟨a, ha, hFa⟩ := paired_get hF hv
  exact hG i a v t lc _ _ ys s ha hFa H
end
end
/-! ### F1 -/
section
noncomputable def hueOf (maxc rangec r g b : UInt64) : UInt64 :=
  (Float64.divmod (Float64.div (if (Float64.cmp r maxc == some Ordering.eq) = true then Float64.sub (Float64.div (Float64.sub maxc b) rangec) (Float64.div (Float64.sub maxc g) rangec)
    else if (Float64.cmp g maxc == some Ordering.eq) = true then Float64.sub (Float64.add 0x4000000000000000 (Float64.div (Float64.sub maxc r) rangec)) (Float64.div (Float64.sub maxc b) rangec)
    else Float64.sub (Float64.add 0x4010000000000000 (Float64.div (Float64.sub maxc g) rangec)) (Float64.div (Float64.sub maxc r) rangec)) 0x4018000000000000) 0x3ff0000000000000).2
noncomputable def hsvH (r g b : UInt64) : UInt64 := if (Float64.cmp (fmin (fmin r g) b) (fmax (fmax r g) b) == some Ordering.eq) = true then 0 else hueOf (fmax (fmax r g) b) (Float64.sub (fmax (fmax r g) b) (fmin (fmin r g) b)) r g b
noncomputable def hsvS (r g b : UInt64) : UInt64 := if (Float64.cmp (fmin (fmin r g) b) (fmax (fmax r g) b) == some Ordering.eq) = true then 0 else Float64.div (Float64.sub (fmax (fmax r g) b) (fmin (fmin r g) b)) (fmax (fmax r g) b)

theorem hsv_ct {w : World} {A : Around} {n : Nat} {mg mb : Str → Option Value} {s₀ s : Shared} {led : Led} {gs : GL} {E : Value → Shared → Prop} {Q : Value → Shared → Prop} (G : GG w mg mb s₀.heap) (hA : AOk A (n + 3)) (H : Inn s₀ led gs s) {r g b : UInt64} {t1 t2 t3 : Tok}
    (hz : (Float64.cmp (fmin (fmin r g) b) (fmax (fmax r g) b) == some Ordering.eq) = false → Float64.isZero (fmax (fmax r g) b) = false ∧ Float64.isZero (Float64.sub (fmax (fmax r g) b) (fmin (fmin r g) b)) = false)
    (k : ∀ D s' t1 t2 t3, Inn s₀ ((D, tupC [.float (hsvH r g b) t1, .float (hsvS r g b) t2, .float (fmax (fmax r g) b) t3]) :: led) gs s' → Q (.ref D) s') :
    wpAny (MM w) A (call (.ref 56) [.float r t1, .float g t2, .float b t3]) Q E s := by
  refine' enter (fd := fdHsv) (rb := [(Str.ofString "b", .float b t3), (Str.ofString "g", .float g t2), (Str.ofString "r", .float r t1)]) G hA H ?ho ?hdat ?hcd ?hbody ?hbind ?hcell ?hloc ?h ?hco ?hgen ?hk
  kfm_turns
  clear H; intro L s hA H
  repeat' cell_call
  unfold hsvS hsvH hueOf at k
  refine PyProof.Rows.split_bool (fun hb => ?_) (fun hb => ?_)
  · simp only [hb, if_true] at k
    repeat' cell_call
    exact k D _ _ _ _ (H.pick (by tb_rel))
  · obtain ⟨z1, z2⟩ := hz hb
    simp only [hb, Bool.false_eq_true, if_false] at k
    repeat' cell_call
    refine PyProof.Rows.split_bool (fun hb1 => ?_) (fun hb1 => ?_)
    · simp only [hb1, if_true] at k
      repeat' cell_call
      exact k D _ _ _ _ (H.pick (by tb_rel))
    · simp only [hb1, Bool.false_eq_true, if_false] at k
      repeat' cell_call
      refine PyProof.Rows.split_bool (fun hb2 => ?_) (fun hb2 => ?_)
      · simp only [hb2, if_true] at k
        repeat' cell_call
        exact k D _ _ _ _ (H.pick (by tb_rel))
      · simp only [hb2, Bool.false_eq_true, if_false] at k
        repeat' cell_call
        exact k D _ _ _ _ (H.pick (by tb_rel))
end
/-! ### F2 -/
section
noncomputable def hlsL (r g b : UInt64) : UInt64 := Float64.div (Float64.add (fmax (fmax r g) b) (fmin (fmin r g) b)) 0x4000000000000000
noncomputable def hlsLow (r g b : UInt64) : Bool := Float64.cmp (hlsL r g b) 0x3fe0000000000000 == some Ordering.lt || Float64.cmp (hlsL r g b) 0x3fe0000000000000 == some Ordering.eq
noncomputable def hlsS (r g b : UInt64) : UInt64 := if (Float64.cmp (fmin (fmin r g) b) (fmax (fmax r g) b) == some Ordering.eq) = true then 0
  else if hlsLow r g b = true then Float64.div (Float64.sub (fmax (fmax r g) b) (fmin (fmin r g) b)) (Float64.add (fmax (fmax r g) b) (fmin (fmin r g) b))
  else Float64.div (Float64.sub (fmax (fmax r g) b) (fmin (fmin r g) b)) (Float64.sub (Float64.sub 0x4000000000000000 (fmax (fmax r g) b)) (fmin (fmin r g) b))

theorem hls_ct {w : World} {A : Around} {n : Nat} {mg mb : Str → Option Value} {s₀ s : Shared} {led : Led} {gs : GL} {E : Value → Shared → Prop} {Q : Value → Shared → Prop} (G : GG w mg mb s₀.heap) (hA : AOk A (n + 3)) (H : Inn s₀ led gs s) {r g b : UInt64} {t1 t2 t3 : Tok}
    (hz : (Float64.cmp (fmin (fmin r g) b) (fmax (fmax r g) b) == some Ordering.eq) = false → (hlsLow r g b = true → Float64.isZero (Float64.add (fmax (fmax r g) b) (fmin (fmin r g) b)) = false) ∧
      (hlsLow r g b = false → Float64.isZero (Float64.sub (Float64.sub 0x4000000000000000 (fmax (fmax r g) b)) (fmin (fmin r g) b)) = false) ∧ Float64.isZero (Float64.sub (fmax (fmax r g) b) (fmin (fmin r g) b)) = false)
    (k : ∀ D s' t1 t2 t3, Inn s₀ ((D, tupC [.float (hsvH r g b) t1, .float (hlsL r g b) t2, .float (hlsS r g b) t3]) :: led) gs s' → Q (.ref D) s') :
    wpAny (MM w) A (call (.ref 49) [.float r t1, .float g t2, .float b t3]) Q E s := by
  refine' enter (fd := fdHls) (rb := [(Str.ofString "b", .float b t3), (Str.ofString "g", .float g t2), (Str.ofString "r", .float r t1)]) G hA H ?ho ?hdat ?hcd ?hbody ?hbind ?hcell ?hloc ?h ?hco ?hgen ?hk
  kfm_turns
  clear H; intro L s hA H
  repeat' cell_call
  unfold hlsS hsvH hueOf at k
  refine PyProof.Rows.split_bool (fun hb => ?_) (fun hb => ?_)
  · simp only [hb, if_true] at k
    repeat' cell_call
    exact k D _ _ _ _ (H.pick (by tb_rel))
  obtain ⟨z1, z2, z3⟩ := hz hb
  simp only [hb, Bool.false_eq_true, if_false] at k
  repeat' cell_call
  refine PyProof.Rows.split_bool (fun hb0 => ?_) (fun hb0 => ?_)
  · replace hb0 : hlsLow r g b = true := hb0
    replace z1 := z1 hb0
    simp only [hb0, if_true] at k
    repeat' cell_call
    refine PyProof.Rows.split_bool (fun hb1 => ?_) (fun hb1 => ?_)
    · simp only [hb1, if_true] at k
      repeat' cell_call
      exact k D _ _ _ _ (H.pick (by tb_rel))
    · simp only [hb1, Bool.false_eq_true, if_false] at k
      repeat' cell_call
      refine PyProof.Rows.split_bool (fun hb2 => ?_) (fun hb2 => ?_)
      · simp only [hb2, if_true] at k
        repeat' cell_call
        exact k D _ _ _ _ (H.pick (by tb_rel))
      · simp only [hb2, Bool.false_eq_true, if_false] at k
        repeat' cell_call
        exact k D _ _ _ _ (H.pick (by tb_rel))
  · replace hb0 : hlsLow r g b = false := hb0
    replace z2 := z2 hb0
    simp only [hb0, Bool.false_eq_true, if_false] at k
    repeat' cell_call
    refine PyProof.Rows.split_bool (fun hb1 => ?_) (fun hb1 => ?_)
    · simp only [hb1, if_true] at k
      repeat' cell_call
      exact k D _ _ _ _ (H.pick (by tb_rel))
    · simp only [hb1, Bool.false_eq_true, if_false] at k
      repeat' cell_call
      refine PyProof.Rows.split_bool (fun hb2 => ?_) (fun hb2 => ?_)
      · simp only [hb2, if_true] at k
        repeat' cell_call
        exact k D _ _ _ _ (H.pick (by tb_rel))
      · simp only [hb2, Bool.false_eq_true, if_false] at k
        repeat' cell_call
        exact k D _ _ _ _ (H.pick (by tb_rel))
end
/-! ### C9 -/
theorem lay_C9_1 : True := by
  k_with "cell_call.C9.1" => (first
  | ((with_reducible refine' g_int ?kqlfA1 ?_ ?kqlfa); (case kqlfA1 => with_reducible assumption); (case kqlfa => with_reducible assumption); fold_depth)
  | ((with_reducible show wpAny _ _ (PySem.binaryOp _ _ _) _ _ _); first
    | ((with_reducible refine' i_fdiv ?kqlfA1 ?_ ?kqlfa ?kqlfb); (case kqlfA1 => with_reducible assumption); (case kqlfa => decide); (case kqlfb => exact PyProof.noPylong_small (by decide)); fold_depth)
    | ((with_reducible refine' i_fmod ?kqlfA1 ?_ ?kqlfa); (case kqlfA1 => with_reducible assumption); (case kqlfa => decide); fold_depth)
    | ((with_reducible refine' i_mul ?kqlfA1 ?_ ?kqlfa); (case kqlfA1 => with_reducible assumption); (case kqlfa => first | with_reducible assumption | mul_fits); fold_depth)
    | ((with_reducible refine' g_divii ?kqlfA1 ?_ ?kqlfa ?kqlfb); (case kqlfA1 => with_reducible assumption); (case kqlfa => decide); (case kqlfb => with_reducible assumption); fold_depth))
  | fail "-")
  exact True.intro
local macro_rules | `(tactic| cell_call) => `(tactic| k_extra "cell_call.C9.1")
/-! ### C10 -/
theorem intsAre_of {ns : List Int} {vs : List Value} (p : Paired isI ns vs) : IntsAre vs ns := by
  induction p with
  | nil => exact .nil
  | cons h _ ih => obtain ⟨t, rfl⟩ := h; exact .cons _ t ih
theorem of_intsAre {ns : List Int} {vs : List Value} (p : IntsAre vs ns) : Paired isI ns vs := by
  induction p with
  | nil => exact .nil
  | cons n t _ ih => exact .cons ⟨t, rfl⟩ ih
theorem strsAre_of {ns : List Str} {vs : List Value} (p : Paired isS ns vs) : StrsAre vs ns := by
  induction p with
  | nil => exact .nil
  | cons h _ ih => obtain ⟨t, rfl⟩ := h; exact .cons _ t ih

noncomputable def slC (a b c : Value) : Cell := fun o => o.cls = .type "slice" ∧ o.data = .fields #[a, b, c]

section
variable {w : World} {A : Around} {E : Value → Shared → Prop} {s₀ s : Shared} {led led' : Led} {gs : GL} {env : Env} {n : Nat} {t u : Tok} {value slice : Expr}

theorem e_slice {lower upper step : Option Expr} {p : Pos} {Q : Value → Shared → Prop}
    (h : wpAny (MM w) A (evalPart lower env) (fun l s₁ => wpAny (MM w) A (evalPart upper env) (fun u s₂ => wpAny (MM w) A (evalPart step env) (fun st s₃ => wpAny (MM w) A (newFields "slice" [l, u, st]) Q E s₃) E s₂) E s₁) E s) :
    wpAny (MM w) A (eval (.Slice lower upper step p) env) Q E s := by
  rw [arm_eval_Slice]
  exact wpAny_bind (wpAny_mono h (fun l s₁ h₁ => wpAny_bind (wpAny_holding (wpAny_mono h₁ (fun u s₂ h₂ => wpAny_bind (wpAny_holding (wpAny_mono h₂ (fun st s₃ h₃ => h₃) fun _ _ x => x))) fun _ _ x => x))) fun _ _ x => x)
theorem n_slice {a b c : Value} {Q : Value → Shared → Prop} (H : Inn s₀ led gs s) (k : ∀ D s', Inn s₀ ((D, slC a b c) :: led) gs s' → Q (.ref D) s') : wpAny (MM w) A (newFields "slice" [a, b, c]) Q E s :=
  wpAny_newObj_type (k _ _ (H.push (show slC a b c _ from ⟨rfl, rfl⟩) _))
theorem ep_none {Q : Value → Shared → Prop} (k : Q .none s) : wpAny (MM w) A (evalPart none env) Q E s := wpAny_pure k
theorem ep_some {e : Expr} {Q : Value → Shared → Prop} (k : wpAny (MM w) A (eval e env) Q E s) : wpAny (MM w) A (evalPart (some e) env) Q E s := k

/-! ### items -/
theorem sb_list {l : Addr} {vs : List Value} {k : Int} {v : Value} {Q : Value → Shared → Prop} (H : Inn s₀ led gs s) (h : Q v s) (r : Row l (lstC vs) led) (h0 : 0 ≤ k) (hf : k < 2 ^ 63) (hx : vs[k.toNat]? = some v)
    (hs : subscripted slice false (.ref l) (.int k u) = operate [.ref l, .int k u] (getItem (.ref l) (.int k u))) : wpAny (MM w) A (subscriptTail value slice (.ref l) (.int k u)) Q E s :=
  tail_any (H.has r.mem).lst.typeIs PySem.F.slot_list_getitem.lookup (wpAny_getItem_list (H.has r.mem).lst h0 hf (by simpa using hx) h) hs
theorem sb_list_neg {l : Addr} {vs : List Value} {k : Int} {v : Value} {Q : Value → Shared → Prop} (H : Inn s₀ led gs s) (h : Q v s) (r : Row l (lstC vs) led) (h0 : k < 0) (h1 : -(vs.length : Int) ≤ k) (hf : -(2 ^ 63) ≤ k) (hx : vs[(k + vs.length).toNat]? = some v)
    (hs : subscripted slice false (.ref l) (.int k u) = operate [.ref l, .int k u] (getItem (.ref l) (.int k u))) : wpAny (MM w) A (subscriptTail value slice (.ref l) (.int k u)) Q E s :=
  tail_any (H.has r.mem).lst.typeIs PySem.F.slot_list_getitem.lookup (wpAny_getItem_list_neg (H.has r.mem).lst h0 (by simpa using h1) hf (by simpa using hx) h) hs
theorem sb_tuple {l : Addr} {vs : List Value} {k : Int} {v : Value} {Q : Value → Shared → Prop} (H : Inn s₀ led gs s) (h : Q v s) (r : Row l (tupC vs) led) (h0 : 0 ≤ k) (h1 : k < vs.length) (hf : k < 2 ^ 63) (hx : vs[k.toNat]? = some v)
    (hs : subscripted slice false (.ref l) (.int k u) = operate [.ref l, .int k u] (getItem (.ref l) (.int k u))) : wpAny (MM w) A (subscriptTail value slice (.ref l) (.int k u)) Q E s :=
  tail_any (H.has r.mem).tup.typeIs PySem.F.slot_tuple_getitem.lookup (PyProof.Rows.getItem_tuple (H.has r.mem).tup (by omega) hf (seqIndex_of h0 (by simpa using h1)) (by simpa using hx) h) hs

/-! ### slices -/
theorem sl_list {l sl : Addr} {vs : List Value} {a b c : Value} {lo hi st : Option Int} {Q : Value → Shared → Prop} (H : Inn s₀ led gs s) (k : ∀ D s', Inn s₀ ((D, lstC (slicePick vs.toArray lo hi st).toList) :: led) gs s' → Q (.ref D) s')
    (r : Row l (lstC vs) led) (r' : Row sl (slC a b c) led) (pl : IsPart a lo) (pu : IsPart b hi) (pk : IsPart c st) (h0 : st ≠ some 0) (hz : vs.length ≤ sizeLine)
    (hs : subscripted slice false (.ref l) (.ref sl) = operate [.ref sl, .ref l] (getItem (.ref l) (.ref sl))) : wpAny (MM w) A (subscriptTail value slice (.ref l) (.ref sl)) Q E s :=
  tail_any (H.has r.mem).lst.typeIs PySem.F.slot_list_getitem.lookup (wpAny_getItem_list_slice (H.has r.mem).lst (H.has r'.mem) pl pu pk h0 (k _ _ (H.push (o := { cls := .type "list", data := .seq (slicePick vs.toArray lo hi st) }) (show lstC _ _ from ⟨0, rfl⟩) s.toks)) (by simpa using hz)) hs
inductive IsPt : Value → Option (Int × Tok) → Prop
  | none : IsPt .none none
  | int (i : Int) (t : Tok) : IsPt (.int i t) (some (i, t))
theorem IsPt.eq {v : Value} {p : Option (Int × Tok)} (h : IsPt v p) : v = partValue p := by cases h <;> rfl
theorem sl_str {x : Str} {sl : Addr} {a b : Value} {lo hi : Option (Int × Tok)} {Q : Value → Shared → Prop} (H : Inn s₀ led gs s) (k : ∀ t s', Inn s₀ led gs s' → Q (.str (Txt.slice x (lo.map (·.1)) (hi.map (·.1))) t) s')
    (r' : Row sl (slC a b .none) led) (pl : IsPt a lo) (pu : IsPt b hi) (hz : x.length ≤ sizeLine)
    (hs : subscripted slice false (.str x t) (.ref sl) = operate [.ref sl, .str x t] (getItem (.str x t) (.ref sl))) : wpAny (MM w) A (subscriptTail value slice (.str x t) (.ref sl)) Q E s := by
  refine tail_any (typeIs_str s x t) PySem.F.slot_str_getitem.lookup (wpAny_getItem_str_slice (l := lo) (u := hi) (st := none) (by obtain ⟨o, ho, h1, h2⟩ := H.has r'.mem; exact ⟨o, ho, h1, by rw [h2, pl.eq, pu.eq]; rfl⟩) rfl ?_) hs
  exact post_val_or_str ⟨Nat.le_trans (Txt.slice_le x _ _) hz, fun t' k' => k t' _ (H.tok _)⟩
theorem sb_str {x : Str} {i : Int} {Q : Value → Shared → Prop} (H : Inn s₀ led gs s) (k : ∀ t s', Inn s₀ led gs s' → Q (.str (Txt.item x i) t) s') (hr : fitsSsize i = true) (h1 : -(x.length : Int) ≤ i) (h2 : i < x.length)
    (hs : subscripted slice false (.str x t) (.int i u) = operate [.str x t, .int i u] (getItem (.str x t) (.int i u))) (ht : ∀ r, letTemporaryGo value (.str x t) r = pure ()) :
    wpAny (MM w) A (subscriptTail value slice (.str x t) (.int i u)) Q E s := PyProof.Rows.item_str hr h1 h2 (fun _ => k _ _ (H.tok _)) hs ht

/-! ### built-ins over lists of ints -/
theorem c_len_list {l : Addr} {vs : List Value} {Q : Value → Shared → Prop} (H : Inn s₀ led gs s) (k : ∀ t s', Inn s₀ led gs s' → Q (.int vs.length t) s') (r : Row l (lstC vs) led) (hz : vs.length ≤ sizeLine) : wpAny (MM w) A (call (.builtin "len") [.ref l]) Q E s := by
  refine Calls.call_len_list (H.has r.mem).lst (by have : sizeLine = 2 ^ 24 := rfl; simp; omega) ?_
  have := k (s.toks + 1) { s with toks := s.toks + 1 + 1 } (H.tok _)
  simpa using this
theorem c_len_str {x : Str} {Q : Value → Shared → Prop} (H : Inn s₀ led gs s) (k : ∀ t s', Inn s₀ led gs s' → Q (.int x.length t) s') (hz : x.length ≤ sizeLine) : wpAny (MM w) A (call (.builtin "len") [.str x t]) Q E s :=
  PyProof.Rows.len_str (by have : sizeLine = 2 ^ 24 := rfl; omega) (k _ _ (H.tok _))
theorem c_max {l : Addr} {vs : List Value} {ns : List Int} {Q : Value → Shared → Prop} (H : Inn s₀ led gs s) (hA : AOk A n) (k : ∀ M t s', M ∈ ns → (∀ a ∈ ns, a ≤ M) → Inn s₀ led gs s' → Q (.int M t) s') (r : Row l (lstC vs) led) (hi : Paired isI ns vs) (hne : 0 < ns.length) :
    wpAny (MM w) A (call (.builtin "max") [.ref l]) Q E s := by
  obtain ⟨xs, e⟩ := (intsAre_of hi).allInts.items
  have hns : ns = xs.toList.map (·.1) := by rw [← (intsAre_of hi).numsOf, ← nums_intItems, ← e]
  have hsz : 0 < xs.size := by
    have h3 := hne; rw [hns, List.length_map, Array.length_toList] at h3; exact h3
  have hl := (H.has r.mem).lst
  rw [e] at hl
  refine max_intList hA.h hl hsz fun v h' tk hv hk => ?_
  obtain ⟨t, rfl⟩ := intItems_at hv
  obtain ⟨h1, h2⟩ := argBest_gt (numAt xs) (xs.size - 1)
  refine k _ t _ ?_ (fun a ha => ?_) (H.keeps hk)
  · rw [hns, numAt_eq]; exact getD_mem (by rw [List.length_map, Array.length_toList]; omega)
  · rw [hns] at ha
    obtain ⟨j, hj, rfl⟩ := mem_getD ha
    rw [List.length_map, Array.length_toList] at hj
    rw [← numAt_eq]; exact h2 j (by omega)
theorem c_min {l : Addr} {vs : List Value} {ns : List Int} {Q : Value → Shared → Prop} (H : Inn s₀ led gs s) (hA : AOk A n) (k : ∀ M t s', M ∈ ns → (∀ a ∈ ns, M ≤ a) → Inn s₀ led gs s' → Q (.int M t) s') (r : Row l (lstC vs) led) (hi : Paired isI ns vs) (hne : 0 < ns.length) :
    wpAny (MM w) A (call (.builtin "min") [.ref l]) Q E s := by
  obtain ⟨xs, e⟩ := (intsAre_of hi).allInts.items
  have hns : ns = xs.toList.map (·.1) := by rw [← (intsAre_of hi).numsOf, ← nums_intItems, ← e]
  have hsz : 0 < xs.size := by
    have h3 := hne; rw [hns, List.length_map, Array.length_toList] at h3; exact h3
  have hl := (H.has r.mem).lst
  rw [e] at hl
  refine min_intList hA.h hl hsz fun v h' tk hv hk => ?_
  obtain ⟨t, rfl⟩ := intItems_at hv
  obtain ⟨h1, h2⟩ := argBest_lt (numAt xs) (xs.size - 1)
  refine k _ t _ ?_ (fun a ha => ?_) (H.keeps hk)
  · rw [hns, numAt_eq]; exact getD_mem (by rw [List.length_map, Array.length_toList]; omega)
  · rw [hns] at ha
    obtain ⟨j, hj, rfl⟩ := mem_getD ha
    rw [List.length_map, Array.length_toList] at hj
    rw [← numAt_eq]; exact h2 j (by omega)
theorem c_sum {l : Addr} {vs : List Value} {ns : List Int} {Q : Value → Shared → Prop} (H : Inn s₀ led gs s) (hA : AOk A n) (k : ∀ t s', Inn s₀ led gs s' → Q (.int ns.sum t) s') (r : Row l (lstC vs) led) (hi : Paired isI ns vs) :
    wpAny (MM w) A (call (.builtin "sum") [.ref l]) Q E s := by
  obtain ⟨xs, e⟩ := (intsAre_of hi).allInts.items
  have hns : ns = xs.toList.map (·.1) := by rw [← (intsAre_of hi).numsOf, ← nums_intItems, ← e]
  have hl := (H.has r.mem).lst
  rw [e] at hl
  refine sum_intListG hA.h hl fun h' tk t' hk => ?_
  have := k t' { s with heap := h', toks := tk } (H.keeps hk)
  rw [hns] at this
  rw [preSum_eq, List.take_of_length_le (by simp)]; exact this
theorem i_in {l : Addr} {vs : List Value} {ns : List Int} {i : Int} {Q : Value → Shared → Prop} (H : Inn s₀ led gs s) (k : Q (.bool (ns.any (· == i))) s) (r : Row l (lstC vs) led) (hi : Paired isI ns vs) :
    wpAny (MM w) A (compareOp .In (.int i t) (.ref l)) Q E s := in_list_ints (H.has r.mem).lst (intsAre_of hi) k
theorem c_sorted {l : Addr} {vs : List Value} {ns : List Int} {Q : Value → Shared → Prop} (H : Inn s₀ led gs s) (k : ∀ D out ns' s', Paired isI ns' out → ns'.Perm ns → ns'.Pairwise (· ≤ ·) → Inn s₀ ((D, lstC out) :: led) gs s' → Q (.ref D) s') (r : Row l (lstC vs) led) (hi : Paired isI ns vs) (hne : vs.length < 64) :
    wpAny (MM w) A (call (.builtin "sorted") [.ref l]) Q E s := by
  refine sorted_ints (H.has r.mem).lst (intsAre_of hi) hne fun out ns' h1 h2 h3 => ?_
  obtain ⟨e, he⟩ := sortedAll_at s.heap vs out
  exact k _ out.toList ns' _ (of_intsAre h1) h2 h3 (H.add (s' := { s with heap := sortedAll s.heap vs out }) (fun _ _ => sortedAll_old) (get?_none_of_size (Nat.le_succ _)) ⟨_, he, e, rfl⟩)
end
theorem lay_C10_1 : True := by
  k_with "cell_call.C10.1" => (first
  | (with_reducible refine e_slice ?_)
  | ((with_reducible show wpAny _ _ (PySem.call _ _) _ _ _); first
    | ((with_reducible refine' c_len_list ?kqlfA1 ?_ ?kqlfa ?kqlfb); (case kqlfA1 => with_reducible assumption); (case kqlfa => tb_rel); (case kqlfb => first | with_reducible assumption | exact Nat.le_of_ble_eq_true (by kernel_rfl!)); fold_depth)
    | ((with_reducible refine' c_len_str ?kqlfA1 ?_ ?kqlfb); (case kqlfA1 => with_reducible assumption); (case kqlfb => with_reducible assumption); fold_depth))
  | ((with_reducible show wpAny _ _ (subscriptTail _ _ _ _) _ _ _); first
    | ((with_reducible refine' sb_tuple ?kqlfA1 ?_ ?kqlfa ?kqlfb ?kqlfc ?kqlfd ?kqlfe ?kqlff); (case kqlfA1 => with_reducible assumption); (case kqlfa => tb_rel); (case kqlfb => decide); (case kqlfc => (simp only [List.length_cons, List.length_nil]; decide)); (case kqlfd => decide); (case kqlfe => rfl); (case kqlff => with_unfolding_all rfl))
    | ((with_reducible refine' sb_list ?kqlfA1 ?_ ?kqlfa ?kqlfb ?kqlfc ?kqlfd ?kqlfe); (case kqlfA1 => with_reducible assumption); (case kqlfa => tb_rel); (case kqlfb => first | decide | omega); (case kqlfc => first | decide | omega); (case kqlfd => first | with_reducible assumption | rfl); (case kqlfe => with_unfolding_all rfl))
    | ((with_reducible refine' sl_str ?kqlfA1 ?_ ?kqlfa ?kqlfb ?kqlfc ?kqlfd ?kqlfe); (case kqlfA1 => with_reducible assumption); (case kqlfa => tb_rel); (case kqlfb => first | with_reducible exact IsPt.none | exact IsPt.int _ _); (case kqlfc => first | with_reducible exact IsPt.none | exact IsPt.int _ _); (case kqlfd => with_reducible assumption); (case kqlfe => with_unfolding_all rfl); fold_depth))
  | (with_reducible refine ep_none ?_)
  | (with_reducible refine ep_some ?_)
  | ((with_reducible refine' n_slice ?kqlfA1 ?_); (case kqlfA1 => with_reducible assumption); f_fact)
  | fail "-")
  exact True.intro
local macro_rules | `(tactic| cell_call) => `(tactic| k_extra "cell_call.C10.1")
/-! ### C11 -/
noncomputable abbrev envC (fd : FuncData) (L a : Addr) (cs : List (Str × Addr)) : Env := newEnv fd.scope L fd.globals cs (fd.qualname ++ ".<locals>.") (some a) fd.code none fd.builtins
theorem loc_new {scope : Scope} {L g b : Addr} {cs : List (Str × Addr)} {q : Str} {f : Option Addr} {c : Value} {ar : Option Env} : (newEnv scope L g cs q f c ar b).locals = L := by cases ar <;> rfl
noncomputable def cellRows (cs : List (Str × Addr)) : Led := cs.map fun p => (p.2, celC none)

theorem bindL_local {k : Str → Option NameKind} : ∀ (b : Loc) (l : Loc) (m : Str → Option Value), (∀ x ∈ b, k x.1 = some .local) → (∀ y, m y = l.lookup y) → ∀ y, bindL k b m y = (b.reverse ++ l).lookup y
  | [], l, m, _, h, y => h y
  | (n, v) :: r, l, m, hb, h, y => by
    unfold bindL
    rw [if_pos (hb _ List.mem_cons_self), List.reverse_cons, List.append_assoc]
    refine bindL_local r ((n, v) :: l) _ (fun x hx => hb x (List.mem_cons_of_mem _ hx)) (fun y => ?_) y
    rw [List.lookup_cons]
    by_cases e : y = n
    · rw [if_pos e, beq_iff_eq.mpr e]
    · rw [if_neg e, beq_eq_false_iff_ne.mpr e]; exact h y
theorem bindC_local {k : Str → Option NameKind} : ∀ (b : Loc) (m : Str → Option Value), (∀ x ∈ b, k x.1 = some .local) → bindC k b m = m
  | [], m, _ => rfl
  | (n, v) :: r, m, hb => by
    unfold bindC
    rw [if_pos (hb _ List.mem_cons_self)]
    exact bindC_local r m fun x hx => hb x (List.mem_cons_of_mem _ hx)

theorem enterC {w : World} {A : Around} {E : Value → Shared → Prop} {s₀ s : Shared} {led : Led} {gs : GL} {mg mb : Str → Option Value} {Q : Value → Shared → Prop} {fa : Addr} {o : Obj} {fd : FuncData} {body : List Stmt} {vals : List Value} (rb : Loc) {n : Nat}
    (cs : Addr → List (Str × Addr)) (G : GG w mg mb s₀.heap) (hA : AOk A (n + 1)) (H : Inn s₀ led gs s) (ho : (hd.heap_1 w.params).lookup fa = some o) (hdat : o.data = .func fd) (hcd : codeIn (hd.heap_1 w.params) fd.code fd.qualname = true) (hbody : fd.body = .stmts body)
    (hbind : bindArgs fd ⟨vals, []⟩ = pure rb.reverse) (hclo : fd.closure = []) (hcs : ∀ L, cellsFrom (L + 1) fd.scope.names [] = cs L) (hloc : (rb.reverse.all fun x => decide (fd.scope.names.lookup x.1 = some .local)) = true)
    (hcn : ∀ L, ((cs L).map Prod.fst).Nodup)
    (h : ∀ L s', AOk (A.deeper (envC fd L fa (cs L))) n → Inn s₀ ((L, nsC rb) :: (cellRows (cs L) ++ led)) gs s' → wpAny (MM w) (A.deeper (envC fd L fa (cs L))) (execs body (envC fd L fa (cs L))) (fun fl s'' => Q (match fl with | .ret v => v | _ => .none) s'') (fun _ _ => False) s')
    (hco : fd.scope.isCoroutine = false) (hgen : fd.scope.isGenerator = false) (hk : fd.scope.kind = .function) :
    wpAny (MM w) A (call (.ref fa) vals) Q E s := by
  have G' := H.gg G
  have hl : ∀ x ∈ rb.reverse, fd.scope.names.lookup x.1 = some .local := locs hloc
  refine wpAny_call ?_
  refine codeAny_call_cells (fd := fd) (body := body) (binds := rb.reverse) hA.room (G'.k _ _ ho) hdat G'.nolimit (codeRec_of G'.k hcd) hbody hbind hclo (fun x hx => .inl (hl x hx)) (fun s₁ x => ?_) hco hgen hk
  have he : callEnvC fd s.heap.objs.size fa = envC fd s.heap.objs.size fa (cs s.heap.objs.size) := by unfold callEnvC; rw [hcs]
  rw [he] at x ⊢
  have hkl : ∀ y ∈ rb.reverse, (envC fd s.heap.objs.size fa (cs s.heap.objs.size)).kindOf y.1 = some .local := hl
  rw [bindC_local _ _ hkl] at x
  have hns : Has s₁.heap (s.heap.objs.size, nsC rb) := .of_ns x.toInCall.ns fun y v q => by
    rw [← q]
    rw [bindL_local rb.reverse [] (fun _ => none) hkl (fun y => rfl) y, List.reverse_reverse, List.append_nil]
  obtain ⟨h₁, tk, rfl⟩ := x.toInCall.same
  have key : Inn s₀ ((s.heap.objs.size, nsC rb) :: (cellRows (cs s.heap.objs.size) ++ led)) gs { s with heap := h₁, toks := tk } := by
    have hcells : ∀ n c, (n, c) ∈ cs s.heap.objs.size → h₁.IsCell c none ∧ s.heap.objs.size < c := fun n c hm => by
      refine ⟨?_, x.above n c hm⟩
      have hnd := hcn s.heap.objs.size
      have : ∀ {l : List (Str × Addr)}, (l.map Prod.fst).Nodup → (n, c) ∈ l → l.lookup n = some c := by
        intro l
        induction l with
        | nil => intro _ h; cases h
        | cons p r ih =>
          intro nd hm
          rw [List.map_cons, List.nodup_cons] at nd
          rcases List.mem_cons.mp hm with rfl | hm
          · rw [List.lookup_cons]; simp
          · rw [List.lookup_cons]
            have : (n == p.1) = false := by
              rw [beq_eq_false_iff_ne]; rintro rfl; exact nd.1 (List.mem_map.mpr ⟨_, hm, rfl⟩)
            rw [this]; exact ih nd.2 hm
      exact x.cell n c (this hnd hm)
    have base : ∀ b o, s₀.heap.get? b = some o → b < s.heap.objs.size := fun b o e => Heap.lt_size (H.keep b o e)
    have fresh : ∀ a, s.heap.objs.size ≤ a → s₀.heap.get? a = none := fun a ha => by
      cases q : s₀.heap.get? a with
      | none => rfl
      | some o => exact absurd (base a o q) (Nat.not_lt.mpr ha)
    have hH := H.keeps (s' := { s with heap := h₁, toks := tk }) x.toInCall.keep
    refine ⟨hH.keep, fun p hp => ?_, ?_, hH.os, hH.bare, hH.gl⟩
    · rcases List.mem_cons.mp hp with rfl | hp
      · exact ⟨hns, fresh _ (Nat.le_refl _)⟩
      · rcases List.mem_append.mp hp with hp | hp
        · obtain ⟨q, hq, rfl⟩ := List.mem_map.mp hp
          obtain ⟨h1, h2⟩ := hcells q.1 q.2 hq
          exact ⟨h1, fresh _ (Nat.le_of_lt h2)⟩
        · exact hH.ld p hp
    · rw [List.map_cons, List.map_append, List.nodup_cons, List.nodup_append]
      have e1 : (cellRows (cs s.heap.objs.size)).map Prod.fst = (cs s.heap.objs.size).map Prod.snd := by unfold cellRows; rw [List.map_map]; rfl
      have hlt : ∀ a ∈ led.map Prod.fst, a < s.heap.objs.size := fun a ha => by
        obtain ⟨p, hp, rfl⟩ := List.mem_map.mp ha
        obtain ⟨o, ho, _⟩ := (H.ld p hp).1
        exact Heap.lt_size ho
      have hgt : ∀ a ∈ (cs s.heap.objs.size).map Prod.snd, s.heap.objs.size < a := fun a ha => by
        obtain ⟨p, hp, rfl⟩ := List.mem_map.mp ha
        exact (hcells p.1 p.2 hp).2
      rw [e1]
      refine ⟨fun hm => ?_, ?_, H.nd, fun a ha b hb e => ?_⟩
      · rcases List.mem_append.mp hm with hm | hm
        · exact Nat.lt_irrefl _ (hgt _ hm)
        · exact Nat.lt_irrefl _ (hlt _ hm)
      · exact List.pairwise_map.mpr x.apart
      · subst e; exact Nat.lt_irrefl _ (Nat.lt_trans (hlt _ hb) (hgt _ ha))
  refine wpAny_mono (h s.heap.objs.size _ (hA.deeper _) key) (fun fl s' hq => ?_) fun _ _ f => f.elim
  cases fl <;> exact hq

section
variable {w : World} {A : Around} {E : Value → Shared → Prop} {s₀ s : Shared} {led led' : Led} {gs : GL} {env : Env} {pos : Pos}
theorem nm_cel {x : Str} {c : Addr} {v : Value} {cs : List (Str × Addr)} {Q : Value → Shared → Prop} (H : Inn s₀ led gs s) (k : Q v s) (hcs : env.cells = cs) (hc : cs.lookup x = some c) (hm : Row c (celC (some v)) led) (hk : env.scope.kind = .function) (hx : env.kindOf x = some .cell)
    (hd : (x == ("__debug__" : Str)) = false) : wpAny (MM w) A (eval (.Name x pos) env) Q E s := nm_cell H k (by rw [hcs]; exact hc) hm hk hx hd
theorem st_cel {x : Str} {c : Addr} {v : Value} {v₀ : Option Value} {cs : List (Str × Addr)} {Q : Unit → Shared → Prop} (H : Inn s₀ led gs s) (k : ∀ s', Inn s₀ led' gs s' → Q () s') (hcs : env.cells = cs) (hc : cs.lookup x = some c) (u : Upd c (celC v₀) (celC (some v)) led led')
    (hk : env.scope.kind = .function) (hx : env.kindOf x = some .cell) : wpAny (MM w) A (storeName env x v) Q E s := st_cell H k (by rw [hcs]; exact hc) u hk hx
theorem nm_local' {x : Str} {v : Value} {L : Addr} {l : Loc} {Q : Value → Shared → Prop} (H : Inn s₀ led gs s) (k : Q v s) (hL : env.locals = L) (hm : Row L (nsC l) led) (hv : l.lookup x = some v) (hk : env.scope.kind = .function) (hx : env.kindOf x = some .local)
    (hd : (x == ("__debug__" : Str)) = false) : wpAny (MM w) A (eval (.Name x pos) env) Q E s := nm_local H k hm hv hL hk hx hd
end
theorem lay_C11_1 : True := by
  k_with "cell_call.C11.1" => (first
  | ((with_reducible show wpAny _ _ (PySem.eval _ _) _ _ _); first
    | ((with_reducible refine' nm_cel ?kqlfA1 ?_ ?kqlfc ?kqlfa ?kqlfm ?kqlfo ?kqlfx ?kqlfd); (case kqlfA1 => with_reducible assumption); (case kqlfx => kernel_rfl!); (case kqlfc => first | with_reducible exact cel_comp | with_reducible exact cel_new); (case kqlfa => tb_start); (case kqlfo => rfl); (case kqlfd => decide +kernel); (case kqlfm => tb_rel))
    | ((with_reducible refine' nm_local' ?kqlfA1 ?_ ?kqlfL ?kqlfm ?kqlfv ?kqlfo ?kqlfx ?kqlfd); (case kqlfA1 => with_reducible assumption); (case kqlfL => with_reducible exact loc_new); (case kqlfx => kernel_rfl!); (case kqlfo => rfl); (case kqlfd => decide +kernel); (case kqlfm => tb_rel); (case kqlfv => tb_rel)))
  | ((with_reducible refine' st_cel ?kqlfA1 ?_ ?kqlfc ?kqlfa ?kqlfu ?kqlfo ?kqlfx); (case kqlfA1 => with_reducible assumption); (case kqlfx => kernel_rfl!); (case kqlfc => first | with_reducible exact cel_comp | with_reducible exact cel_new); (case kqlfa => tb_start); (case kqlfo => rfl); (case kqlfu => tb_rel); fold_lay)
  | ((with_reducible refine' st_local ?kqlfA1 ?_ ?kqlfu ?kqlfL ?kqlfo ?kqlfx); (case kqlfA1 => with_reducible assumption); (case kqlfL => with_reducible exact loc_new); (case kqlfx => kernel_rfl!); (case kqlfo => rfl); (case kqlfu => tb_rel); fold_lay)
  | fail "-")
  exact True.intro
local macro_rules | `(tactic| cell_call) => `(tactic| k_extra "cell_call.C11.1")
/-! ### C12 -/
section
variable {w : World} {A : Around} {E : Value → Shared → Prop} {s : Shared} {env : Env}
theorem ao_each {e : Expr} {r : List Expr} {v : Value} {vs : List Value} {Q : Unit → Shared → Prop} (k : wpAny (MM w) A (assign e env v) (fun _ s₁ => wpAny (MM w) A (assignInOrder ((assignEach r env).map (·.2)) vs) Q E s₁) E s)
    (he : assignEach (e :: r) env = (false, assign e env) :: assignEach r env) : wpAny (MM w) A (assignInOrder ((assignEach (e :: r) env).map (·.2)) (v :: vs)) Q E s := by
  rw [he]; exact wpAny_bind (wpAny_holding k)
theorem ao_none {Q : Unit → Shared → Prop} (k : Q () s) : wpAny (MM w) A (assignInOrder ((assignEach [] env).map (·.2)) []) Q E s := wpAny_pure k
end
theorem lay_C12_1 : True := by
  k_with "top_raise.C12.1" => ((clear H; intro D I s H))
  exact True.intro
local macro_rules | `(tactic| top_raise) => `(tactic| k_extra "top_raise.C12.1")
theorem lay_C12_2 : True := by
  k_with "cell_call.C12.2" => (first
  | ((with_reducible refine' mk_enum ?kqlfA1 ?_ ?kqlfr); (case kqlfA1 => with_reducible assumption); (case kqlfr => tb_rel); top_raise)
  | ((with_reducible refine' i_in ?kqlfA1 ?_ ?kqlfr ?kqlfa); (case kqlfA1 => with_reducible assumption); (case kqlfr => tb_rel); (case kqlfa => with_reducible assumption))
  | ((with_reducible refine' lc_use ?kqlfA1 ?_ ?kqlfw ?kqlfc ?kqlfs ?kqlfo ?kqlfn ?kqlfh); (case kqlfA1 => with_reducible assumption); (case kqlfw => kernel_rfl!); (case kqlfc => tb_start); (case kqlfs => intro _; rfl); (case kqlfo => rfl); (case kqlfn => decide +kernel); (case kqlfh => decide +kernel))
  | ((with_reducible show wpAny _ _ (PySem.assignInOrder _ _) _ _ _); first
    | ((with_reducible refine' ao_each ?_ ?kqlfa); (case kqlfa => rfl))
    | (with_reducible refine ao_none ?_))
  | ((with_reducible show wpAny _ _ (PySem.pyIter _) _ _ _); first
    | ((with_reducible refine' it_range ?kqlfA1 ?_ ?kqlfr ?kqlfa ?kqlfb); (case kqlfA1 => with_reducible assumption); (case kqlfr => tb_rel); (case kqlfa => first | decide | with_reducible assumption | omega); (case kqlfb => first | decide | omega); f_fact)
    | ((with_reducible refine' it_enum ?kqlfA1 ?_ ?kqlfr); (case kqlfA1 => with_reducible assumption); (case kqlfr => tb_rel)))
  | ((with_reducible refine' PyProof.Rows.Assign_Tuple ?_ ?kqlfa ?kqlfb); (case kqlfa => rfl); (case kqlfb => kernel_rfl!))
  | ((with_reducible refine' PyProof.Rows.Assign_Tuple_swapped ?_ ?kqlfa ?kqlfb); (case kqlfa => rfl); (case kqlfb => rfl))
  | (with_reducible refine wpAny_tests_one ?_)
  | fail "-")
  exact True.intro
local macro_rules | `(tactic| cell_call) => `(tactic| k_extra "cell_call.C12.2")
/-! ### G1 -/
section
noncomputable def pFew (hue wide : UInt64) : UInt64 := Float64.mul wide (Float64.sub (Float64.ofInt 1) (Float64.abs (Float64.sub (Float64.divmod (Float64.mul hue (Float64.ofInt 6)) (Float64.ofInt 2)).2 (Float64.ofInt 1))))
noncomputable def pList (hue wide top : UInt64) : List UInt64 := [top, Float64.add (Float64.sub top wide) (pFew hue wide), Float64.sub top wide]
noncomputable def pOut (x : UInt64) : Option Int := truncF (Float64.add (Float64.mul x (Float64.ofInt 2097152)) (Float64.ofInt 1))
theorem parts_ct {w : World} {A : Around} {n : Nat} {mg mb : Str → Option Value} {s₀ s : Shared} {led : Led} {gs : GL} {E : Value → Shared → Prop} {Q : Value → Shared → Prop} (G : GG w mg mb s₀.heap) (hA : AOk A (n + 3)) (H : Inn s₀ led gs s) {hue wide top : UInt64} {t1 t2 t3 : Tok} {f : UInt64 → Int}
    (hf : ∀ x ∈ pList hue wide top, pOut x = some (f x))
    (k : ∀ D vs s', Paired (fun x v => isI ((f x).fdiv 2) v) (pList hue wide top) vs → Inn s₀ ((D, lstC vs) :: led) gs s' → Q (.ref D) s') :
    wpAny (MM w) A (call (.ref 92) [.float hue t1, .float wide t2, .float top t3]) Q E s := by
  refine' enter (fd := fdParts) (rb := [(Str.ofString "top", .float top t3), (Str.ofString "wide", .float wide t2), (Str.ofString "hue", .float hue t1)]) G hA H ?ho ?hdat ?hcd ?hbody ?hbind ?hcell ?hloc ?h ?hco ?hgen ?hk
  kfm_turns
  clear H; intro L s hA H
  repeat' cell_call
  refine' LF_list0 (as := pList hue wide top) (F := isF) (fun x v => isI ((f x).fdiv 2) v) ?hF hA H ?ur rfl (by kernel_rfl!) ?hn (fun a v lc i ys s ha hv H => ?_) (fun lc ys s hP H => ?_)
  case ur => tb_rel
  case hF => exact .cons ⟨_, rfl⟩ (.cons ⟨_, rfl⟩ (.cons ⟨_, rfl⟩ .nil))
  case hn => exact Nat.le_of_ble_eq_true (by kernel_rfl!)
  · obtain ⟨t, rfl⟩ := hv
    have hfa := hf a ha
    unfold pOut at hfa
    repeat' cell_call
    exact ⟨⟨_, rfl⟩, H⟩
  · refine cp_none H (fun s H => ?_) .head
    exact k _ _ _ hP (H.pick (by tb_rel))
end
/-! ### G2 -/
section
noncomputable def sx (a : Int) : UInt64 := Float64.ofFrac (decide (a < 0) != decide ((16 : Int) < 0)) a.natAbs (16 : Int).natAbs
noncomputable def hueOfL (l : Int × Int × Int) : UInt64 := hsvH (sx l.1) (sx l.2.1) (sx l.2.2)
noncomputable def hueA (l : Int × Int × Int) : Option Int := truncF (Float64.add (Float64.mul (hueOfL l) (Float64.ofInt 6)) (Float64.ofInt 1))
noncomputable def hueB (l : Int × Int × Int) : Option Int := truncF (Float64.mul (hueOfL l) (Float64.ofInt 6))
noncomputable def strongOf (l : Int × Int × Int) : Int := (((hueA l).getD 0).fdiv 2).fmod 3
noncomputable def weakOf (l : Int × Int × Int) : Int := (((hueB l).getD 0).fdiv 2 + 2).fmod 3
noncomputable def hsvOk (r g b : UInt64) : Bool := (Float64.cmp (fmin (fmin r g) b) (fmax (fmax r g) b) == some Ordering.eq) || (!Float64.isZero (fmax (fmax r g) b) && !Float64.isZero (Float64.sub (fmax (fmax r g) b) (fmin (fmin r g) b)))
noncomputable def lightOk (l : Int × Int × Int) : Bool := !Float64.isInf (sx l.1) && !Float64.isInf (sx l.2.1) && !Float64.isInf (sx l.2.2) && hsvOk (sx l.1) (sx l.2.1) (sx l.2.2) && (hueA l).isSome && (hueB l).isSome
noncomputable def lampsOf (l : Int × Int × Int) (len : Nat) : List Int := if len = 1 then [strongOf l] else if len = 2 then [0, 1, 2].filter (fun x => x != weakOf l) else [0, 1, 2]
noncomputable def offOne (ls : List Int) (i a : Int) : Int := a - (if (ls.any (· == i)) = true then 1 else 0)
noncomputable def stepL (l : Int × Int × Int) (len : Nat) : Int × Int × Int := (offOne (lampsOf l len) 0 l.1, offOne (lampsOf l len) 1 l.2.1, offOne (lampsOf l len) 2 l.2.2)
noncomputable def negL (l : Int × Int × Int) : Bool := decide (l.1 < 0) || decide (l.2.1 < 0) || decide (l.2.2 < 0)
noncomputable def takenL : List Nat → Int × Int × Int → Bool
  | [], l => l.1 == 0 && l.2.1 == 0 && l.2.2 == 0
  | n :: r, l => if negL (stepL l n) = true then false else takenL r (stepL l n)
noncomputable def okL : List Nat → Int × Int × Int → Bool
  | [], l => true
  | n :: r, l => lightOk l && (negL (stepL l n) || okL r (stepL l n))
theorem sb_pick3 {w : World} {A : Around} {E : Value → Shared → Prop} {s₀ s : Shared} {led keep : Led} {gs : GL} {u : Tok} {value slice : Expr} {l Da Db Dc : Addr} {va vb vc : List Value} {As Bs Cs : List Int} {n : Nat} {Q : Value → Shared → Prop} (H : Inn s₀ led gs s) (hn : n = 1 ∨ n = 2 ∨ n = 3)
    (r : Row l (lstC [.ref Da, .ref Db, .ref Dc]) led) (pa : Pick ((Da, lstC va) :: keep) led) (pb : Pick ((Db, lstC vb) :: keep) led) (pc : Pick ((Dc, lstC vc) :: keep) led) (ha : Paired isI As va) (hb : Paired isI Bs vb) (hc : Paired isI Cs vc)
    (k : ∀ Dl lv, Paired isI (if n = 1 then As else if n = 2 then Bs else Cs) lv → Inn s₀ ((Dl, lstC lv) :: keep) gs s → Q (.ref Dl) s)
    (hs : ∀ i, subscripted slice false (.ref l) (.int i u) = operate [.ref l, .int i u] (getItem (.ref l) (.int i u))) : wpAny (MM w) A (subscriptTail value slice (.ref l) (.int ((n : Int) - 1) u)) Q E s := by
  rcases hn with rfl | rfl | rfl
  · exact sb_list H (k Da va ha (H.pick pa)) r (by decide) (by decide) rfl (hs _)
  · exact sb_list H (k Db vb hb (H.pick pb)) r (by decide) (by decide) rfl (hs _)
  · exact sb_list H (k Dc vc hc (H.pick pc)) r (by decide) (by decide) rfl (hs _)
theorem lamps_two (w : Int) : ((List.range 3).filter (fun j => ((j : Nat) : Int) != w)).map (fun j : Nat => (j : Int)) = [0, 1, 2].filter (fun x => x != w) := by
  have e : ([0, 1, 2] : List Int) = (List.range 3).map (fun j : Nat => (j : Int)) := rfl
  rw [e, List.filter_map]; rfl
theorem three_getD {x y z aj : Int} {j : Nat} (h : [x, y, z][j]? = some aj) : [x, y, z].getD j 0 = aj := by
  rw [List.getD_eq_getElem?_getD, h]; rfl
theorem mem3 {a x y z : Int} (h : a ∈ [x, y, z]) : a = x ∨ a = y ∨ a = z := by simpa using h
theorem neg_of_min {x y z M : Int} (h1 : M ∈ [x, y, z]) (h2 : ∀ a ∈ [x, y, z], M ≤ a) : decide (M < 0) = negL (x, y, z) := by
  have hx := h2 x (by simp); have hy := h2 y (by simp); have hz := h2 z (by simp)
  unfold negL
  rw [Bool.eq_iff_iff, Bool.or_eq_true, Bool.or_eq_true, decide_eq_true_eq, decide_eq_true_eq, decide_eq_true_eq, decide_eq_true_eq]
  refine ⟨fun h => ?_, fun h => ?_⟩
  · rcases mem3 h1 with rfl | rfl | rfl
    · exact .inl (.inl h)
    · exact .inl (.inr h)
    · exact .inr h
  · rcases h with (h | h) | h
    · exact Int.lt_of_le_of_lt hx h
    · exact Int.lt_of_le_of_lt hy h
    · exact Int.lt_of_le_of_lt hz h
theorem zero_of_max {x y z M : Int} (h0 : negL (x, y, z) = false) (h1 : M ∈ [x, y, z]) (h2 : ∀ a ∈ [x, y, z], a ≤ M) : (M == 0) = takenL [] (x, y, z) := by
  have hx := h2 x (by simp); have hy := h2 y (by simp); have hz := h2 z (by simp)
  unfold negL at h0
  rw [Bool.or_eq_false_iff, Bool.or_eq_false_iff, decide_eq_false_iff_not, decide_eq_false_iff_not, decide_eq_false_iff_not] at h0
  unfold takenL
  rw [Bool.eq_iff_iff, Bool.and_eq_true, Bool.and_eq_true, beq_iff_eq, beq_iff_eq, beq_iff_eq, beq_iff_eq]
  refine ⟨fun h => ?_, fun h => ?_⟩
  · subst h
    exact ⟨⟨Int.le_antisymm hx (Int.not_lt.mp h0.1.1), Int.le_antisymm hy (Int.not_lt.mp h0.1.2)⟩, Int.le_antisymm hz (Int.not_lt.mp h0.2)⟩
  · obtain ⟨⟨rfl, rfl⟩, rfl⟩ := h
    rcases mem3 h1 with h | h | h <;> exact h
theorem lightOk_open {x y z : Int} (h : lightOk (x, y, z) = true) : ¬Float64.isInf (Float64.ofFrac (decide (x < 0) != decide ((16 : Int) < 0)) x.natAbs (16 : Int).natAbs) = true ∧ ¬Float64.isInf (Float64.ofFrac (decide (y < 0) != decide ((16 : Int) < 0)) y.natAbs (16 : Int).natAbs) = true ∧
    ¬Float64.isInf (Float64.ofFrac (decide (z < 0) != decide ((16 : Int) < 0)) z.natAbs (16 : Int).natAbs) = true ∧
    ((Float64.cmp (fmin (fmin (sx x) (sx y)) (sx z)) (fmax (fmax (sx x) (sx y)) (sx z)) == some Ordering.eq) = false → Float64.isZero (fmax (fmax (sx x) (sx y)) (sx z)) = false ∧ Float64.isZero (Float64.sub (fmax (fmax (sx x) (sx y)) (sx z)) (fmin (fmin (sx x) (sx y)) (sx z))) = false) ∧
    hueA (x, y, z) = some ((hueA (x, y, z)).getD 0) ∧ hueB (x, y, z) = some ((hueB (x, y, z)).getD 0) := by
  unfold lightOk at h
  simp only [Bool.and_eq_true, Bool.not_eq_true'] at h
  obtain ⟨⟨⟨⟨⟨h1, h2⟩, h3⟩, h4⟩, h5⟩, h6⟩ := h
  refine ⟨by rw [show Float64.isInf (Float64.ofFrac _ _ _) = false from h1]; decide, by rw [show Float64.isInf (Float64.ofFrac _ _ _) = false from h2]; decide, by rw [show Float64.isInf (Float64.ofFrac _ _ _) = false from h3]; decide, fun hc => ?_, ?_, ?_⟩
  · unfold hsvOk at h4
    rw [hc, Bool.false_or, Bool.and_eq_true, Bool.not_eq_true', Bool.not_eq_true'] at h4
    exact h4
  · obtain ⟨v, e⟩ := Option.isSome_iff_exists.mp h5; rw [e]; rfl
  · obtain ⟨v, e⟩ := Option.isSome_iff_exists.mp h6; rw [e]; rfl
theorem taken_ct {w : World} {A : Around} {n : Nat} {mg mb : Str → Option Value} {s₀ s : Shared} {led : Led} {gs : GL} {E : Value → Shared → Prop} {Q : Value → Shared → Prop} (G : GG w mg mb s₀.heap) (hA : AOk A (n + 6)) (H : Inn s₀ led gs s) {la lr : Addr} {a b c : Int} {t1 t2 t3 : Tok} {rows : List Str} {rvs : List Value}
    (hla : Row la (lstC [.int a t1, .int b t2, .int c t3]) led) (hlr : Row lr (lstC rvs) led) (hrv : Paired isS rows rvs) (hlen : ∀ r ∈ rows, 1 ≤ r.length ∧ r.length ≤ 3) (hn : rvs.length ≤ 100) (h0 : rvs.length = 0 → negL (a, b, c) = false)
    (hok : okL (rows.map (·.length)) (a, b, c) = true)
    (k : ∀ s', Inn s₀ led gs s' → Q (.bool (takenL (rows.map (·.length)) (a, b, c))) s') :
    wpAny (MM w) A (call (.ref 97) [.ref la, .ref lr]) Q E s := by
  refine' enterC (fd := fdTaken) (rb := [(Str.ofString "rows", .ref lr), (Str.ofString "light", .ref la)]) (fun L => [(Str.ofString "lamps", L + 1 + 1), (Str.ofString "weak", L + 1)]) G hA H ?ho ?hdat ?hcd ?hbody ?hbind ?hclo ?hcs ?hloc ?hcn ?h ?hco ?hgen ?hk
  case ho => rfl
  case hdat => rfl
  case hcd => kernel_rfl!
  case hbody => rfl
  case hbind => kernel_rfl!
  case hclo => rfl
  case hcs => intro L; kernel_rfl!
  case hloc => kernel_rfl!
  case hcn => intro L; show [Str.ofString "lamps", Str.ofString "weak"].Nodup; decide +kernel
  case hco => rfl
  case hgen => rfl
  case hk => rfl
  clear H; intro L s hA H
  replace H : Inn s₀ ((L, nsC [(Str.ofString "rows", .ref lr), (Str.ofString "light", .ref la)]) :: (L + 1 + 1, celC none) :: (L + 1, celC none) :: led) gs s := H
  repeat' cell_call
  refine for_ix (n := rvs.length) (fun i s => ∃ (x y z : Int) (ta tb tc : Tok) (q : Addr) (v1 v2 : Option Value) (ledx : Led), Inn s₀ ((L, nsC [(Str.ofString "rows", .ref lr), (Str.ofString "light", .ref q)]) :: (L + 1 + 1, celC v1) :: (L + 1, celC v2) :: (D, liC lr i) :: ledx) gs s ∧
    Row q (lstC [.int x ta, .int y tb, .int z tc]) ledx ∧ Row lr (lstC rvs) ledx ∧ Pick led ledx ∧ (i = rvs.length → negL (x, y, z) = false) ∧ okL ((rows.drop i).map (·.length)) (x, y, z) = true ∧ takenL ((rows.drop i).map (·.length)) (x, y, z) = takenL (rows.map (·.length)) (a, b, c)) ?turn ?done ?h0
  case h0 => exact ⟨a, b, c, t1, t2, t3, la, none, none, led, H.pick (by tb_rel), hla, hlr, .all, fun e => h0 e.symm, hok, rfl⟩
  case done =>
    clear H; rintro s ⟨x, y, z, ta, tb, tc, q, v1, v2, ledx, H, hq, hr, hp, hneg, hokx, htk⟩
    refine nx_list_end H (hA.le (Nat.add_le_add_left (by decide) n : n + 4 ≤ n + 5)) (fun s H => ⟨rfl, ?_⟩) (by tb_rel) (by tb_rel) (Nat.le_refl _)
    repeat' cell_call
    refine c_max H hA (fun M t s hM1 hM2 H => ?_) (by tb_rel) (.cons ⟨_, rfl⟩ (.cons ⟨_, rfl⟩ (.cons ⟨_, rfl⟩ .nil))) (Nat.zero_lt_succ _)
    repeat' cell_call
    have hz := zero_of_max (hneg rfl) hM1 hM2
    rw [← hrv.length, List.drop_length] at htk
    have := k s (H.pick (.skip (.skip (.skip hp))))
    rw [← htk] at this
    rw [hz]; exact this
  case turn =>
    obtain ⟨J, rfl⟩ : ∃ J, J = D := ⟨_, rfl⟩
    clear H; rintro i s hi ⟨x, y, z, ta, tb, tc, q, v1, v2, ledx, H, hq, hr, hp, hneg, hokx, htk⟩
    intro Rq hRq
    obtain ⟨row, hrow, tr, hrt⟩ := paired_get hrv (List.getElem?_eq_getElem hi)
    have hdrop : rows.drop i = row :: rows.drop (i + 1) := by
      obtain ⟨h1, h2⟩ := List.getElem?_eq_some_iff.mp hrow
      rw [← h2]; exact List.drop_eq_getElem_cons h1
    rw [hdrop, List.map_cons] at hokx htk
    replace hokx : (lightOk (x, y, z) && (negL (stepL (x, y, z) row.length) || okL ((rows.drop (i + 1)).map (·.length)) (stepL (x, y, z) row.length))) = true := hokx
    replace htk : (if negL (stepL (x, y, z) row.length) = true then false else takenL ((rows.drop (i + 1)).map (·.length)) (stepL (x, y, z) row.length)) = takenL (rows.map (·.length)) (a, b, c) := htk
    rw [Bool.and_eq_true] at hokx
    obtain ⟨hok1, hok2⟩ := hokx
    obtain ⟨f1, f2, f3, f4, f5, f6⟩ := lightOk_open hok1
    refine nx_list H (fun s H => ?_) (by tb_rel) (by tb_rel) ((List.getElem?_eq_getElem hi).trans (congrArg some hrt))
    refine go_name ?_
    repeat' cell_call
    refine hsv_ct G (hA.le (Nat.add_le_add_left (by decide) n : n + 3 ≤ n + 5)) H f4 (fun D' s u1 u2 u3 H => ?_)
    repeat' cell_call
    refine g_int H (fun t s H => ?_) f5
    repeat' cell_call
    refine g_int H (fun t s H => ?_) f6
    repeat' cell_call
    refine LF_range (n := 3) (fun j => ((j : Nat) : Int) != weakOf (x, y, z)) (fun j v => isI (j : Nat) v) hA H rfl (by kernel_rfl!) (by decide) (fun j t lc ri ys s hj H => ?_) (fun j t lc ri ys s hj hp H => ?_) (fun lc ys s hP H => ?_)
    · refine wpAny_tests_one ?_
      repeat' cell_call
      exact ⟨rfl, H⟩
    · repeat' cell_call
      exact ⟨⟨_, rfl⟩, H⟩
    refine cp_none H (fun s H => ?_) .head
    have hr3 := hlen row (List.mem_of_getElem? hrow)
    have hrl : row.length ≤ sizeLine := Nat.le_trans hr3.2 (by decide)
    repeat' cell_call
    refine' sb_pick3 (keep := (L, _) :: (L + 1 + 1, _) :: (L + 1, _) :: (J, _) :: ledx) H (by omega) ?ur ?pa ?pb ?pc ?ha ?hb ?uhc ?kk ?hs
    case ur => tb_rel
    case pa => tb_rel
    case pb => tb_rel
    case pc => tb_rel
    case ha => exact .cons ⟨_, rfl⟩ .nil
    case hb => exact paired_map (fun j : Nat => (j : Int)) hP
    case uhc => exact .cons ⟨_, rfl⟩ (.cons ⟨_, rfl⟩ (.cons ⟨_, rfl⟩ .nil))
    case hs => intro i; with_unfolding_all rfl
    clear H; intro Dl lv hlv H
    rw [lamps_two] at hlv
    replace hlv : Paired isI (lampsOf (x, y, z) row.length) lv := hlv
    repeat' cell_call
    refine' LF_enum (as := [x, y, z]) (F := isI) (fun j v => isI (offOne (lampsOf (x, y, z) row.length) j ([x, y, z].getD j 0)) v) ?hF hA H ?ur rfl (by kernel_rfl!) (by kernel_rfl!) ?hn (fun j aj vj t lc e1 e2 ys s haj hv H => ?_) (fun lc ys s hP H => ?_)
    case ur => tb_rel
    case hF => exact .cons ⟨_, rfl⟩ (.cons ⟨_, rfl⟩ (.cons ⟨_, rfl⟩ .nil))
    case hn => exact Nat.le_of_ble_eq_true (by kernel_rfl!)
    · obtain ⟨tv, rfl⟩ := hv
      repeat' cell_call
      refine PyProof.Rows.split_bool (fun hb => ?_) (fun hb => ?_)
      · repeat' cell_call
        exact ⟨⟨_, by unfold offOne; rw [if_pos hb, three_getD haj]⟩, H⟩
      · repeat' cell_call
        exact ⟨⟨_, by unfold offOne; rw [if_neg (by rw [hb]; decide), three_getD haj]⟩, H⟩
    replace hP : Paired isI [offOne (lampsOf (x, y, z) row.length) 0 x, offOne (lampsOf (x, y, z) row.length) 1 y, offOne (lampsOf (x, y, z) row.length) 2 z] ys := paired_map (as := [0, 1, 2]) (fun j : Nat => offOne (lampsOf (x, y, z) row.length) j ([x, y, z].getD j 0)) hP
    refine cp_some (s₀ := s₀) ?_
    repeat' cell_call
    refine ⟨_, _, _, _, H, by tb_rel, fun s H => ?_⟩
    repeat' cell_call
    refine c_min H hA (fun M t s hM1 hM2 H => ?_) (by tb_rel) hP (Nat.zero_lt_succ _)
    repeat' cell_call
    rw [show decide (M < 0) = negL (stepL (x, y, z) row.length) from neg_of_min hM1 hM2]
    refine PyProof.Rows.split_bool (fun hb => ?_) (fun hb => ?_)
    · rw [if_pos hb] at htk
      repeat' cell_call
      have := k s (H.pick (.skip (.skip (.skip (.skip (.skip (.skip hp)))))))
      rw [← htk] at this
      exact this
    · rw [if_neg (by rw [hb]; decide)] at htk
      rw [hb, Bool.false_or] at hok2
      repeat' cell_call
      obtain ⟨ta', tb', tc', rfl⟩ : ∃ ta' tb' tc', ys = [.int (offOne (lampsOf (x, y, z) row.length) 0 x) ta', .int (offOne (lampsOf (x, y, z) row.length) 1 y) tb', .int (offOne (lampsOf (x, y, z) row.length) 2 z) tc'] := by
        cases hP with
        | cons h1 hP => cases hP with
          | cons h2 hP => cases hP with
            | cons h3 hP => cases hP; obtain ⟨_, rfl⟩ := h1; obtain ⟨_, rfl⟩ := h2; obtain ⟨_, rfl⟩ := h3; exact ⟨_, _, _, rfl⟩
      have H := H.prune (L := L) (l' := [(Str.ofString "rows", .ref lr), (Str.ofString "light", .ref D)]) (by tb_rel) (by tb_rel)
      exact ⟨_, _, _, _, _, _, D, _, _, _ :: ledx, H.pick (by tb_rel), .head, .tail hr, .skip hp, fun _ => hb, hok2, htk⟩
end
/-! ### C13 -/
section
variable {w : World} {A : Around} {E : Value → Shared → Prop} {s₀ s : Shared} {led led' : Led} {gs : GL} {env : Env} {n : Nat} {t u : Tok}
theorem str_len (x : Str) : x.length = x.cps.toList.length := by unfold Str.length; simp
theorem str_app (x y : Str) : (x ++ y).cps.toList = x.cps.toList ++ y.cps.toList := by show (x.cps ++ y.cps).toList = _; simp
theorem str_ext {x y : Str} (h : x.cps.toList = y.cps.toList) : x = y := by cases x; cases y; congr; exact Array.toList_inj.mp h
theorem app_len (x y : Str) : (x ++ y).length = x.length + y.length := by rw [str_len, str_app, List.length_append, ← str_len, ← str_len]
theorem app_nil_l {x y : Str} (h : (x.length == 0) = true) : x ++ y = y := str_ext (by rw [str_app, List.eq_nil_of_length_eq_zero (l := x.cps.toList) (by rw [← str_len]; exact beq_iff_eq.mp h)]; rfl)
theorem app_nil_r {x y : Str} (h : (y.length == 0) = true) : x ++ y = x := str_ext (by rw [str_app, List.eq_nil_of_length_eq_zero (l := y.cps.toList) (by rw [← str_len]; exact beq_iff_eq.mp h), List.append_nil])
theorem made_str {x y : Str} {Q : Value → Shared → Prop} (H : Inn s₀ led gs s) (k : ∀ t s', Inn s₀ led gs s' → Q (.str (x ++ y) t) s') (hz : x.length + y.length ≤ sizeLine) :
    (if x.length == 0 then Made.val (.str y u) else if y.length == 0 then Made.val (.str x t) else Made.str (x ++ y)).post Q s := by
  split
  · rename_i h; have := k u s H; rw [app_nil_l h] at this; exact this
  · split
    · rename_i h; have := k t s H; rw [app_nil_r h] at this; exact this
    · exact ⟨by rw [app_len]; exact hz, k _ _ (H.tok _)⟩
theorem s_add {x y : Str} {Q : Value → Shared → Prop} (H : Inn s₀ led gs s) (k : ∀ t s', Inn s₀ led gs s' → Q (.str (x ++ y) t) s') (hz : x.length + y.length ≤ sizeLine) : wpAny (MM w) A (binaryOp .Add (.str x t) (.str y u)) Q E s :=
  P.add_str (made_str H k hz)
theorem s_iadd {x y : Str} {Q : Value → Shared → Prop} (H : Inn s₀ led gs s) (k : ∀ t s', Inn s₀ led gs s' → Q (.str (x ++ y) t) s') (hz : x.length + y.length ≤ sizeLine) : wpAny (MM w) A (inplaceOp .Add (.str x t) (.str y u)) Q E s :=
  P.iadd_str (made_str H k hz)
theorem s_eq {x y : Str} {Q : Value → Shared → Prop} (k : Q (.bool (x.cps.toList == y.cps.toList)) s) : wpAny (MM w) A (compareOp .Eq (.str x t) (.str y u)) Q E s := P.eq_str k
theorem s_ne {x y : Str} {Q : Value → Shared → Prop} (k : Q (.bool (x.cps.toList != y.cps.toList)) s) : wpAny (MM w) A (compareOp .NotEq (.str x t) (.str y u)) Q E s := P.ne_str k
theorem ld_loc {L : Addr} {l : Loc} {x : Str} {v : Value} {Q : Value → Shared → Prop} (H : Inn s₀ led gs s) (k : Q v s) (hL : env.locals = L) (hm : Row L (nsC l) led) (hv : l.lookup x = some v) (hk : env.scope.kind = .function) (hx : env.kindOf x = some .local) : wpAny (MM w) A (loadName env x) Q E s := by
  subst hL
  obtain ⟨m, hm1, hm2⟩ := (H.has hm.mem).ns
  exact wpAny_loadName_local hk hx hm1 (hm2 _ _ hv) k
end
theorem lay_C13_1 : True := by
  k_with "cell_call.C13.1" => (first
  | ((with_reducible refine' s_add ?kqlfA1 ?_ ?kqlfa); (case kqlfA1 => with_reducible assumption); (case kqlfa => with_reducible assumption); fold_depth)
  | ((with_reducible show wpAny _ _ (PySem.compareOp _ _ _) _ _ _); first
    | (with_reducible refine s_eq ?_)
    | (with_reducible refine s_ne ?_))
  | ((with_reducible refine wpAny_AugAssign_Name ?_))
  | ((with_reducible refine' s_iadd ?kqlfA1 ?_ ?kqlfa); (case kqlfA1 => with_reducible assumption); (case kqlfa => with_reducible assumption); fold_depth)
  | ((with_reducible refine' ld_loc ?kqlfA1 ?_ ?kqlfL ?kqlfm ?kqlfv ?kqlfo ?kqlfx); (case kqlfA1 => with_reducible assumption); (case kqlfL => first | with_reducible exact loc_call | with_reducible exact loc_new); (case kqlfx => kernel_rfl!); (case kqlfo => rfl); (case kqlfm => tb_rel); (case kqlfv => tb_rel))
  | fail "-")
  exact True.intro
local macro_rules | `(tactic| cell_call) => `(tactic| k_extra "cell_call.C13.1")
/-! ### H1 -/
section
section
variable {w : World} {A : Around} {R : GenEnd} {Y : Protocol} {n : Nat} {s₀ : Shared} {c : Code} {fs : List Frame} {s : Shared} {env : Env}
  {K : Flow → Sem Fin} {H : Value → Sem Fin} {gd : Bool → Bool} {lv : List Value → List Value}

theorem seg_bw {α β : Type} {m : Sem α} {f : α → Sem β} {K : β → Sem Fin} (h : wpAny (MM w) (A.over c fs) m (fun a s' => Seg (MM w) A R Y n s₀ c ((f a).wrap K H gd lv) fs s') (fun _ _ => False) s) : Seg (MM w) A R Y n s₀ c ((m >>= f).wrap K H gd lv) fs s := by
  rw [Sem.bind_eq_wrap', Sem.wrap_wrap]
  exact seg_wrap (wpAny_mono h (fun _ _ x => x) fun _ _ f => f.elim)
theorem seg_st {st : Stmt} (h : wpAny (MM w) (A.over c fs) (exec st env) (fun f s' => Seg (MM w) A R Y n s₀ c (K f) fs s') (fun _ _ => False) s) : Seg (MM w) A R Y n s₀ c ((exec st env).wrap K H gd lv) fs s :=
  seg_wrap (wpAny_mono h (fun _ _ x => x) fun _ _ f => f.elim)
theorem seg_if {test : Expr} {body orelse : List Stmt} {pos : Pos} (h : wpAny (MM w) (A.over c fs) (isTrue test env (eval test env)) (fun b s' => if b = true then Seg (MM w) A R Y n s₀ c ((execs body env).wrap K H gd lv) fs s'
      else Seg (MM w) A R Y n s₀ c ((execs orelse env).wrap K H gd lv) fs s') (fun _ _ => False) s) : Seg (MM w) A R Y n s₀ c ((exec (.If test body orelse pos) env).wrap K H gd lv) fs s := by
  rw [arm_exec_If]
  refine seg_bw (wpAny_standAt (seg_bw (wpAny_mono h (fun b s' hb => ?_) fun _ _ f => f)))
  cases b with
  | true => rw [if_pos rfl] at hb ⊢; exact hb
  | false => rw [if_neg Bool.false_ne_true] at hb ⊢; exact hb
theorem seg_for {target iter : Expr} {body orelse : List Stmt} {pos : Pos} (hs : ∀ x, foldedSetIterable iter env x = pure x)
    (h : wpAny (MM w) (A.over c fs) (eval iter env) (fun x s₁ => wpAny (MM w) (A.over c fs) (pyIter x) (fun it s₂ => ∀ p, Seg (MM w) A R Y n s₀ (.forLoop target it body orelse env) ((MM w).den (.forLoop target it body orelse env))
      (.ret (fun r => ((match r with | .ok f => (.pure f : Sem Flow) | .error e => .raise e).onRaise fun (x : Value) => do
        if (← field x 1) == Value.none then unsupported "frame.own-activation:exception-without-traceback"
        setFlight x env.frame).wrap K H gd lv) none (gd false) (lv []) c p [] :: fs) s₂) (fun _ _ => False) s₁) (fun _ _ => False) s) :
    Seg (MM w) A R Y n s₀ c ((exec (.For target iter body orelse pos) env).wrap K H gd lv) fs s := by
  rw [exec_For]
  refine seg_bw (wpAny_standAt (seg_bw (wpAny_mono h (fun x s₁ h₁ => ?_) fun _ _ f => f)))
  refine seg_bw (wpAny_of_eq (hs x) (seg_bw (wpAny_standAt (seg_bw (wpAny_holding (wpAny_mono h₁ (fun it s₂ h₂ => ?_) fun _ _ f => f))))))
  exact seg_call h₂
theorem seg_turn {target : Expr} {it : Value} {body : List Stmt}
    (h : wpAny (MM w) (A.over (.forLoop target it body [] env) fs) (pyNext it) (fun r s₁ => match r with
      | none => Seg (MM w) A R Y n s₀ (.forLoop target it body [] env) (.pure (.again (.block [] env))) fs s₁
      | some v => wpAny (MM w) (A.over (.forLoop target it body [] env) fs) (letOwnedTupleGo target it v) (fun _ s₁' => wpAny (MM w) (A.over (.forLoop target it body [] env) fs) (assign target env v) (fun _ s₂ =>
          ∀ (H : Value → Sem Fin) (lv : List Value → List Value), Seg (MM w) A R Y n s₀ (.forLoop target it body [] env) ((execs body env).wrap (fun f => match f with
            | .next => .pure (.again (.forLoop target it body [] env))
            | .cont => .pure (.again (.forLoop target it body [] env))
            | .brk => .pure (.done .next)
            | .ret v => .pure (.done (.ret v))) H id lv) fs s₂) (fun _ _ => False) s₁') (fun _ _ => False) s₁) (fun _ _ => False) s) :
    Seg (MM w) A R Y n s₀ (.forLoop target it body [] env) ((MM w).den (.forLoop target it body [] env)) fs s := by
  show Seg (MM w) A R Y n s₀ _ ((forTurn target it body [] env).onRaise (fun x => do noteFrame x env; theTreesLotGoes x)) fs s
  rw [Sem.onRaise_eq_wrap]
  unfold forTurn
  refine seg_bw (wpAny_standAt (seg_bw (wpAny_onRaise (wpAny_mono h (fun r s₁ h₁ => ?_) fun _ _ f => f.elim))))
  cases r with
  | none => exact h₁
  | some v =>
    refine seg_bw (wpAny_mono h₁ (fun _ s₁' h₁' => seg_bw (wpAny_mono h₁' (fun _ s₂ h₂ => ?_) fun _ _ f => f)) fun _ _ f => f)
    rw [Sem.bind_eq_wrap', Sem.wrap_wrap]
    have := h₂ (fun e => Sem.wrap .pure (fun e => (do noteFrame e env; theTreesLotGoes e : Sem Unit).bind fun _ => .raise e) id id (.raise e : Sem Fin)) (fun l => id (id l))
    refine (Sem.wrap_congr (execs body env) _ _ (fun f => ?_) (fun e => rfl)) ▸ this
    cases f <;> rfl
end
end
/-! ### H2 -/
section
/-! ### all that stands beside some addresses -/
noncomputable def restL (s₀ s₁ : Shared) (own : List Addr) : Led := (List.range s₁.heap.objs.size).filterMap fun b => if (own.contains b || (s₀.heap.get? b).isSome) = true then none else (s₁.heap.get? b).map fun o => (b, eqC o)
theorem mem_restL {s₀ s₁ : Shared} {own : List Addr} {p : Addr × Cell} : p ∈ restL s₀ s₁ own ↔ p.1 ∉ own ∧ s₀.heap.get? p.1 = none ∧ ∃ o, s₁.heap.get? p.1 = some o ∧ p.2 = eqC o := by
  unfold restL
  rw [List.mem_filterMap]
  constructor
  · rintro ⟨b, hb, e⟩
    split at e
    · cases e
    · rename_i hc
      simp only [Bool.or_eq_true, List.contains_iff_mem, not_or, Option.isSome_iff_ne_none, ne_eq, Classical.not_not] at hc
      obtain ⟨o, ho, rfl⟩ := Option.map_eq_some_iff.mp e
      exact ⟨hc.1, hc.2, o, ho, rfl⟩
  · rintro ⟨h1, h2, o, h3, h4⟩
    refine ⟨p.1, List.mem_range.mpr (Heap.lt_size h3), ?_⟩
    rw [if_neg (by simp [h1, h2]), h3]
    show some (p.1, eqC o) = some p
    rw [← h4]
theorem nodup_restL {s₀ s₁ : Shared} {own : List Addr} : ((restL s₀ s₁ own).map Prod.fst).Nodup := by
  unfold restL
  rw [List.map_filterMap]
  refine List.Pairwise.filterMap _ (fun a a' hne b hb b' hb' => ?_) (List.nodup_range (n := s₁.heap.objs.size))
  have key : ∀ a b : Addr, (Option.map Prod.fst (if (own.contains a || (s₀.heap.get? a).isSome) = true then none else (s₁.heap.get? a).map fun o => ((a, eqC o) : Addr × Cell))) = some b → b = a := by
    intro a b h
    split at h
    · cases h
    · rw [Option.map_map] at h
      obtain ⟨o, _, e⟩ := Option.map_eq_some_iff.mp h
      exact e.symm
  rw [key a b hb, key a' b' hb']; exact hne
theorem to_rest {s₀ s₁ : Shared} {rows led : Led} {gs : GL} {own : List Addr} (H : Inn s₀ (rows ++ led) gs s₁) (hown : ∀ p ∈ rows, p.1 ∈ own) : Inn s₀ (rows ++ restL s₀ s₁ own) gs s₁ := by
  have nd := H.nd
  rw [List.map_append, List.nodup_append] at nd
  refine ⟨H.keep, fun p hp => ?_, ?_, H.os, H.bare, H.gl⟩
  · rcases List.mem_append.mp hp with hp | hp
    · exact H.ld p (List.mem_append_left _ hp)
    · obtain ⟨h1, h2, o, h3, h4⟩ := mem_restL.mp hp
      exact ⟨⟨o, h3, by rw [h4]; rfl⟩, h2⟩
  · rw [List.map_append, List.nodup_append]
    refine ⟨nd.1, nodup_restL, fun a ha b hb e => ?_⟩
    obtain ⟨p, hp, rfl⟩ := List.mem_map.mp ha
    obtain ⟨q, hq, rfl⟩ := List.mem_map.mp hb
    exact (mem_restL.mp hq).1 (e ▸ hown p hp)
theorem from_rest {s₀ s₁ s₂ : Shared} {rows led new : Led} {gs gs' : GL} {own : List Addr} (H : Inn s₀ (rows ++ led) gs s₁) (hled : ∀ p ∈ led, p.1 ∉ own) (H₂ : Inn s₀ (new ++ restL s₀ s₁ own) gs' s₂) : Inn s₀ (new ++ led) gs' s₂ := by
  have nd := H.nd
  rw [List.map_append, List.nodup_append] at nd
  have nd₂ := H₂.nd
  rw [List.map_append, List.nodup_append] at nd₂
  have inrest : ∀ p ∈ led, ∃ o, s₁.heap.get? p.1 = some o ∧ p.2 o ∧ (p.1, eqC o) ∈ restL s₀ s₁ own := fun p hp => by
    obtain ⟨⟨o, ho, hc⟩, hz⟩ := H.ld p (List.mem_append_right _ hp)
    exact ⟨o, ho, hc, mem_restL.mpr ⟨hled p hp, hz, o, ho, rfl⟩⟩
  refine ⟨H₂.keep, fun p hp => ?_, ?_, H₂.os, H₂.bare, H₂.gl⟩
  · rcases List.mem_append.mp hp with hp | hp
    · exact H₂.ld p (List.mem_append_left _ hp)
    · obtain ⟨o, ho, hc, hr⟩ := inrest p hp
      obtain ⟨h1, h2⟩ := H₂.ld _ (List.mem_append_right _ hr)
      exact ⟨⟨o, h1.eq, hc⟩, h2⟩
  · rw [List.map_append, List.nodup_append]
    refine ⟨nd₂.1, nd.2.1, fun a ha b hb e => ?_⟩
    obtain ⟨q, hq, rfl⟩ := List.mem_map.mp hb
    obtain ⟨o, _, _, hr⟩ := inrest q hq
    exact nd₂.2.2 a ha q.1 (List.mem_map.mpr ⟨_, hr, rfl⟩) e

noncomputable def siC (x : Str) (t : Tok) (i : Nat) : Cell := fun o => o.cls = .type (strIterType x) ∧ o.data = .fields #[.str x t, .int i 0]
noncomputable def gnC (g : Nat) : Cell := fun o => ∃ nm qn, o.cls = .type "generator" ∧ o.data = .fields #[.int g 0, nm, qn] ∧ o.slots = #[]

section
variable {w : World} {A : Around} {E : Value → Shared → Prop} {s₀ s : Shared} {led led' : Led} {gs : GL} {env : Env} {n : Nat}
theorem mk_enumS {x : Str} {t : Tok} {Q : Value → Shared → Prop} (H : Inn s₀ led gs s) (k : ∀ s', Inn s₀ ((s.heap.objs.size + 1, enC s.heap.objs.size 0) :: (s.heap.objs.size, siC x t 0) :: led) gs s' → Q (.ref (s.heap.objs.size + 1)) s') : wpAny (MM w) A (call (.type "enumerate") [.str x t]) Q E s :=
  call_enumerate_str fun h' h1 h2 h3 h4 => k _ (by
    have g1 := (Inn.add (s' := { s with heap := h' }) H h4 (get?_none_of_size (Nat.le_refl _)) (show Has h' (s.heap.objs.size, siC x t 0) from h2))
    refine ⟨g1.keep, fun p hp => ?_, ?_, g1.os, g1.bare, g1.gl⟩
    · rcases List.mem_cons.mp hp with rfl | hp
      · refine ⟨⟨_, h1, _, rfl⟩, ?_⟩
        cases q : s₀.heap.get? (s.heap.objs.size + 1) with
        | none => rfl
        | some o => exact absurd (Heap.lt_size (H.keep _ _ q)) (Nat.not_lt.mpr (Nat.le_succ _))
      · exact g1.ld p hp
    · rw [List.map_cons, List.nodup_cons]
      refine ⟨fun hm => ?_, g1.nd⟩
      rcases List.mem_cons.mp hm with e | hm
      · exact absurd e (Nat.succ_ne_self _)
      · obtain ⟨p, hp, e⟩ := List.mem_map.mp hm
        obtain ⟨o, ho, _⟩ := (H.ld p hp).1
        have := Heap.lt_size ho
        rw [show p.1 = s.heap.objs.size + 1 from e] at this; exact absurd this (Nat.not_lt.mpr (Nat.le_succ _)))

theorem draws_str (hA : A.handled = none) (I : Addr) (x : Str) (t : Tok) : Draws (Challenge.rw_wz0010_01.row.prog) w A I [I] x.cps.size (SignAt x) (fun i h => h.IsStrIter I (strIterType x) x t i) := by
  unfold strIterType
  cases ha : x.cps.all (· < 128)
  · exact Draws.strWide hA I x t
  · exact Draws.strAscii hA I x t
theorem nx_enumS {I D : Addr} {x : Str} {tx : Tok} {i : Nat} {r₁ : Led} {elts : List Expr} {x1 : Nat} {pos : Pos} {X : Shared → Prop} {Z : Value → Shared → Prop} (hA : A.handled = none) (H : Inn s₀ ((D, enC I i) :: (I, siC x tx i) :: r₁) gs s) (hi : i < x.cps.size)
    (k : ∀ T t t' c s', x.cps[i]? = some c → Inn s₀ ((T, tupC [.int i t, .str ⟨#[c]⟩ t']) :: (D, enC I (i + 1)) :: (I, siC x tx (i + 1)) :: r₁) gs s' → Z (.ref T) s') :
    wpAny (MM w) A (pyNext (.ref D)) (fun r s₁ => match r with
      | none => X s₁
      | some v => wpAny (MM w) A (letOwnedTupleGo (.Tuple elts x1 pos) (.ref D) v) (fun _ s₁' => Z v s₁') (fun _ _ => False) s₁) (fun _ _ => False) s := by
  have hne : D ≠ I := H.ne .head .head
  have W := WalksT.enumerateD (draws_str (A := A.in1) (w := w) hA I x tx) D hne (by simpa using hne) (by simp)
  obtain ⟨o, ho, old, rfl⟩ := H.has List.mem_cons_self
  have hit : s.heap.IsStrIter I (strIterType x) x tx i := H.has (List.mem_cons_of_mem _ List.mem_cons_self)
  refine W.item i s _ _ hi ⟨⟨old, ho⟩, hit⟩ fun T vals h' tk hP hT hTup hM hk => ?_
  refine W.go elts x1 pos i T _ _ _ hM fun h'' hst hk2 => ?_
  obtain ⟨⟨old', he⟩, hit'⟩ := hst
  obtain ⟨t, v, ⟨c, u, hc, rfl⟩, rfl⟩ := hP
  refine k T t u c _ hc ?_
  have hTw := W.apart i T _ hM
  have hTup2 : h''.IsTuple T #[.int i t, .str ⟨#[c]⟩ u] := let ⟨oT, h1, h2⟩ := hTup; ⟨oT, hk2 _ _ hTw h1, h2⟩
  have hTn : s.heap.get? T = none := get?_none_of_size hT
  have g : Inn s₀ ((D, enC I (i + 1)) :: (I, siC x tx (i + 1)) :: r₁) gs { s with heap := h'', toks := tk } :=
    H.upds (ws := [(D, enC I i, enC I (i + 1)), (I, siC x tx i, siC x tx (i + 1))]) ⟨_, .head, _, .tail .head, rfl⟩
      (fun b o hb e => by
        have hb' : b ∉ [D, I] := by
          simp only [List.mem_cons, List.not_mem_nil, or_false, not_or]
          exact ⟨hb _ List.mem_cons_self, hb _ (List.mem_cons_of_mem _ List.mem_cons_self)⟩
        exact hk2 b o hb' (hk b o hb' e)) (fun y hy => by
        rcases List.mem_cons.mp hy with rfl | hy
        · exact ⟨_, he, _, rfl⟩
        · rcases List.mem_cons.mp hy with rfl | hy
          · exact hit'
          · cases hy)
  refine ⟨g.keep, fun p hp => ?_, ?_, g.os, g.bare, g.gl⟩
  · rcases List.mem_cons.mp hp with rfl | hp
    · refine ⟨hTup2, ?_⟩
      show s₀.heap.get? T = none
      cases q : s₀.heap.get? T with
      | none => rfl
      | some o => rw [H.keep _ _ q] at hTn; cases hTn
    · exact g.ld p hp
  · rw [List.map_cons, List.nodup_cons]
    refine ⟨fun hm => ?_, g.nd⟩
    obtain ⟨p, hp, e⟩ := List.mem_map.mp (show T ∈ ((D, enC I i) :: (I, siC x tx i) :: r₁).map Prod.fst from hm)
    obtain ⟨o, ho, _⟩ := (H.ld p hp).1
    rw [show p.1 = T from e, hTn] at ho; cases ho
theorem nx_enumS_end {I D : Addr} {x : Str} {tx : Tok} {i : Nat} {r₁ : Led} {Q : Option Value → Shared → Prop} (hA : A.handled = none) (H : Inn s₀ ((D, enC I i) :: (I, siC x tx i) :: r₁) gs s) (hi : i = x.cps.size)
    (k : ∀ s', Inn s₀ r₁ gs s' → Q none s') : wpAny (MM w) A (pyNext (.ref D)) Q E s := by
  subst hi
  have hne : D ≠ I := H.ne .head .head
  have W := WalksT.enumerateD (draws_str (A := A.in1) (w := w) hA I x tx) D hne (by simpa using hne) (by simp)
  obtain ⟨o, ho, old, rfl⟩ := H.has List.mem_cons_self
  have hit : s.heap.IsStrIter I (strIterType x) x tx x.cps.size := H.has (List.mem_cons_of_mem _ List.mem_cons_self)
  refine W.done s _ _ ⟨⟨old, ho⟩, hit⟩ fun h' tk hk => k _ ?_
  have nd := H.nd
  rw [List.map_cons, List.map_cons, List.nodup_cons, List.nodup_cons] at nd
  refine ⟨fun b o e => hk b o (fun hm => ?_) (H.keep b o e), fun p hp => ⟨(H.ld p (List.mem_cons_of_mem _ (List.mem_cons_of_mem _ hp))).1.keeps fun o e => hk _ o (fun hm => ?_) e, (H.ld p (List.mem_cons_of_mem _ (List.mem_cons_of_mem _ hp))).2⟩, nd.2.2, H.os, H.bare, H.gl⟩
  · rcases List.mem_cons.mp hm with rfl | hm
    · have := (H.ld _ List.mem_cons_self).2; rw [e] at this; cases this
    · rw [List.mem_singleton.mp hm] at e
      have := (H.ld _ (List.mem_cons_of_mem _ List.mem_cons_self)).2; rw [e] at this; cases this
  · rcases List.mem_cons.mp hm with e | hm
    · exact nd.1 (List.mem_cons_of_mem _ (List.mem_map.mpr ⟨p, hp, e⟩))
    · exact nd.2.1 (List.mem_map.mpr ⟨p, hp, List.mem_singleton.mp hm⟩)
end
end
/-! ### H3 -/
section
noncomputable def escL : Nat → Bool → List Nat → List (Nat × List Nat)
  | k, e, [] => if e = true then [(k - 1, [92])] else []
  | k, true, c :: r => (k, [92, c]) :: escL (k + 1) false r
  | k, false, c :: r => if c = 92 then escL (k + 1) true r else (k, [c]) :: escL (k + 1) false r
/-- does a text end behind a lone backslash? -/
noncomputable def endE : Bool → List Nat → Bool
  | e, [] => e
  | true, c :: r => endE false r
  | false, c :: r => endE (c == 92) r
noncomputable def gY (Its : List (Nat × List Nat)) (s₀ : Shared) (own : List Addr) (gs : GL) : Protocol := fun m s₁ v s₂ kap =>
  ∃ T t t' it rows', Its[Its.length - 1 - m]? = some it ∧ v = .ref T ∧ rows'.map Prod.fst = own ∧ Inn s₀ ((T, tupC [.int (it.1 : Nat) t, .str ⟨it.2.toArray⟩ t']) :: (rows' ++ restL s₀ s₁ own)) gs s₂ ∧
    ∀ led s₃, Inn s₀ (rows' ++ led) gs s₃ → kap (.send .none) s₃
noncomputable def gP (s₀ : Shared) (own : List Addr) (gs : GL) (m : Nat) (s₁ s₂ : Shared) : Prop := m = 0 ∧ Inn s₀ (restL s₀ s₁ own) gs s₂
noncomputable abbrev gR (s₀ : Shared) (own : List Addr) (gs : GL) : GenEnd := fun m s₁ r s₂ => r = .ok (.ret .none) ∧ gP s₀ own gs m s₁ s₂

section
variable {w : World} {A : Around} {R : GenEnd} {Y : Protocol} {n : Nat} {fs : List Frame} {s : Shared} {env : Env}
theorem seg_loop {target : Expr} {it : Value} {body : List Stmt} (I : Nat → Nat → Shared → Shared → Prop)
    (turn : ∀ m n s₀ s, (∀ m' n' s₀' s', m' < m → I m' n' s₀' s' → Seg (MM w) A R Y n' s₀' (.forLoop target it body [] env) (.pure (.again (.forLoop target it body [] env))) fs s') → I m n s₀ s →
      wpAny (MM w) (A.over (.forLoop target it body [] env) fs) (pyNext it) (fun r s₁ => match r with
      | none => Seg (MM w) A R Y n s₀ (.forLoop target it body [] env) (.pure (.again (.block [] env))) fs s₁
      | some v => wpAny (MM w) (A.over (.forLoop target it body [] env) fs) (letOwnedTupleGo target it v) (fun _ s₁' => wpAny (MM w) (A.over (.forLoop target it body [] env) fs) (assign target env v) (fun _ s₂ =>
          ∀ (H : Value → Sem Fin) (lv : List Value → List Value), Seg (MM w) A R Y n s₀ (.forLoop target it body [] env) ((execs body env).wrap (fun f => match f with
            | .next => .pure (.again (.forLoop target it body [] env))
            | .cont => .pure (.again (.forLoop target it body [] env))
            | .brk => .pure (.done .next)
            | .ret v => .pure (.done (.ret v))) H id lv) fs s₂) (fun _ _ => False) s₁') (fun _ _ => False) s₁) (fun _ _ => False) s) :
    ∀ m n s₀ s, I m n s₀ s → Seg (MM w) A R Y n s₀ (.forLoop target it body [] env) ((MM w).den (.forLoop target it body [] env)) fs s := by
  intro m
  induction m using Nat.strongRecOn with
  | ind m ih => exact fun n s₀ s hI => seg_turn (turn m n s₀ s (fun m' n' s₀' s' hm hI' => seg_again rfl (ih m' hm n' s₀' s' hI')) hI)
end
theorem n_intZ {w : World} {A : Around} {E : Value → Shared → Prop} {s₀ s : Shared} {led : Led} {gs : GL} {env : Env} {pos : Pos} {kk : Nat} {i : Int} {Q : Value → Shared → Prop} (H : Inn s₀ led gs s) (k : ∀ t s', Inn s₀ led gs s' → s'.heap.objs.size = s.heap.objs.size → Q (.int i t) s') : wpAny (MM w) A (eval (.Constant (.int i) kk pos) env) Q E s :=
  wpAny_Constant_int (k _ _ (H.tok _) rfl)
theorem st_localZ {w : World} {A : Around} {E : Value → Shared → Prop} {s₀ s : Shared} {led led' : Led} {gs : GL} {env : Env} {L : Addr} {l : Loc} {x : Str} {v : Value} {Q : Unit → Shared → Prop} (H : Inn s₀ led gs s) (k : ∀ s', Inn s₀ led' gs s' → s'.heap.objs.size = s.heap.objs.size → Q () s') (u : Upd L (nsC l) (nsC ((x, v) :: l)) led led') (hL : env.locals = L) (hk : env.scope.kind = .function) (hx : env.kindOf x = some .local) :
    wpAny (MM w) A (storeName env x v) Q E s := by
  subst hL
  obtain ⟨m, hm1, hm2⟩ := (H.has u.mem).ns
  refine wpAny_storeName_local hx hm1 (fun h' hn hs => k _ (H.upd u (fun b o hb e => (hs.2 b hb).trans e) (.of_ns hn fun y v' q => ?_)) hs.1) (by rw [hk]; rfl)
  rw [List.lookup_cons] at q
  by_cases h : y = x
  · rw [beq_iff_eq.mpr h] at q; rw [if_pos h]; exact q
  · rw [beq_eq_false_iff_ne.mpr h] at q; rw [if_neg h]; exact hm2 _ _ q
theorem with_aok {α : Type} {w : World} {A : Around} {E : Value → Shared → Prop} {s : Shared} {t : Sem α} {Q : α → Shared → Prop} {n : Nat} (h : AOk A n) (k : AOk A n → wpAny (MM w) A t Q E s) : wpAny (MM w) A t Q E s := k h
theorem drop_cons {α : Type} {Its : List α} {n : Nat} {a : α} {r : List α} (hn : n ≤ Its.length) (h : Its.drop (Its.length - n) = a :: r) : ∃ m, n = m + 1 ∧ m ≤ Its.length ∧ Its[Its.length - 1 - m]? = some a ∧ Its.drop (Its.length - m) = r := by
  cases n with
  | zero => rw [Nat.sub_zero, List.drop_length] at h; cases h
  | succ m =>
    have h1 := congrArg List.head? h
    have h2 := congrArg List.tail h
    rw [List.head?_drop] at h1
    rw [List.tail_drop, List.tail_cons, ← Nat.sub_sub, Nat.sub_add_cancel (Nat.le_sub_of_add_le (Nat.add_comm m 1 ▸ hn))] at h2
    exact ⟨m, rfl, Nat.le_of_succ_le hn, by rw [Nat.sub_sub, Nat.add_comm 1 m]; exact h1, h2⟩
theorem drop_nil' {α : Type} {Its : List α} {n : Nat} (hn : n ≤ Its.length) (h : Its.drop (Its.length - n) = []) : n = 0 := by
  cases n with
  | zero => rfl
  | succ m => exact absurd (List.drop_eq_nil_iff.mp h) (Nat.not_le_of_lt (Nat.sub_lt (Nat.lt_of_lt_of_le (Nat.succ_pos m) hn) (Nat.succ_pos m)))
theorem om_aok1 {d n u : Nat} (h : d + (n + 1) ≤ u) : d + 0 + 1 + n ≤ u := by omega
theorem om_aok2 {d n : Nat} (h : d + 8 * (n + 1) ≤ 1000) : d + 0 + 3 + 8 * n ≤ 1000 := by omega
theorem om_aok3 {d n : Nat} (h : d + (n + 2) ≤ 400) : d + 1 + 0 + n ≤ 400 := by omega
theorem om_aok4 {d n c : Nat} (h : d + 8 * (n + 2) ≤ 1000) (hc : c ≤ 3) : d + 3 + c + 8 * n ≤ 1000 := by omega
theorem aok_over2 {A : Around} {n : Nat} (h : AOk A (n + 2)) {target : Expr} {it : Value} {body orelse b0 : List Stmt} {env env0 : Env} {k : Result → Sem Fin} {gd : Bool} {lv : List Value} {p : Pos} {kp : List Value} : AOk (A.over (.forLoop target it body orelse env) [.ret k none gd lv (.func b0 env0) p kp]) n := by
  refine ⟨h.h, ?_, ?_⟩
  · have := h.d
    exact om_aok3 this
  · have := h.u
    show A.units + unitsOf [(Code.func b0 env0, p)] + (Code.forLoop target it body orelse env).cUnits + 8 * n ≤ 1000
    have h2 : (Code.forLoop target it body orelse env).cUnits ≤ 3 := by
      first | exact Nat.le_refl _ | decide | (show _ ≤ 3; exact Nat.zero_le _) | (show 0 ≤ 3; exact Nat.zero_le 3) | (show 1 ≤ 3; decide)
    exact om_aok4 this h2
theorem aok_over1 {A : Around} {n : Nat} (h : AOk A (n + 1)) (body : List Stmt) (env : Env) : AOk (A.over (.func body env) []) n := by
  refine ⟨h.h, ?_, ?_⟩
  · have := h.d
    exact om_aok1 this
  · have := h.u
    show A.units + 0 + _ + 8 * n ≤ 1000
    have hc : (Code.func body env).cUnits = 3 := rfl
    rw [hc]; exact om_aok2 this
theorem gen_run {w : World} {A : Around} {n₀ : Nat} {mg mb : Str → Option Value} {s₀ s₁ : Shared} {led : Led} {gs : GL} {x : Str} {tx : Tok} {Lg : Addr} (G : GG w mg mb s₀.heap) (hA : AOk A (n₀ + 3)) (H : Inn s₀ ((Lg, nsC [(Str.ofString "addr", .str x tx)]) :: led) gs s₁) (hend : endE false x.cps.toList = false) {body : List Stmt} (hb : fdIter.body = .stmts body) :
    Seg (MM w) A (gR s₀ [Lg, s₁.heap.objs.size + 1, s₁.heap.objs.size] gs) (gY (escL 0 false x.cps.toList) s₀ [Lg, s₁.heap.objs.size + 1, s₁.heap.objs.size] gs) (escL 0 false x.cps.toList).length s₁ (.func body (callEnv fdIter Lg 21)) ((MM w).den (.func body (callEnv fdIter Lg 21))) [] s₁ := by
  have H := to_rest (own := [Lg, s₁.heap.objs.size + 1, s₁.heap.objs.size]) (rows := [(Lg, nsC [(Str.ofString "addr", .str x tx)])]) H (by simp)
  replace H : Inn s₀ ((Lg, nsC [(Str.ofString "addr", .str x tx)]) :: restL s₀ s₁ [Lg, s₁.heap.objs.size + 1, s₁.heap.objs.size]) gs s₁ := H
  cases hb
  refine seg_func ?_
  refine seg_execs_cons (seg_st ?_)
  cell_call
  refine n_intZ H (fun t s H hz1 => ?_)
  refine st_localZ H (fun s H hz2 => ?_) (by tb_rel) loc_call rfl (by kernel_rfl!)
  refine seg_execs_cons (seg_st ?_)
  cell_call
  refine n_bool ?_
  refine st_localZ H (fun s H hz3 => ?_) (by tb_rel) loc_call rfl (by kernel_rfl!)
  refine seg_execs_cons (seg_for (by intro _; rfl) ?_)
  repeat' cell_call
  refine mk_enumS H (fun s H => ?_)
  rw [hz3, hz2, hz1] at H ⊢
  clear hz3 hz2 hz1
  generalize hown : [Lg, s₁.heap.objs.size + 1, s₁.heap.objs.size] = own at H ⊢
  generalize hD : s₁.heap.objs.size + 1 = Dn at H hown ⊢
  generalize hI : s₁.heap.objs.size = I at H hown ⊢
  generalize hIts : escL 0 false x.cps.toList = Its
  repeat' cell_call
  intro p
  refine seg_loop (fun m n s₀' s => ∃ k e p tp, k ≤ x.cps.size ∧ m = x.cps.size - k ∧ p = ((k - 1 : Nat) : Int) ∧ n ≤ Its.length ∧ Its.drop (Its.length - n) = escL k e (x.cps.toList.drop k) ∧ endE e (x.cps.toList.drop k) = false ∧
    Inn s₀ ((Lg, nsC [(Str.ofString "escape", .bool e), (Str.ofString "pos", .int p tp)]) :: (Dn, enC I k) :: (I, siC x tx k) :: restL s₀ s₀' own) gs s) (fun m n s₀' s IH hI => ?_) _ _ _ _ ⟨0, false, 0, t, Nat.zero_le _, rfl, rfl, Nat.le_refl _, ?_, ?_, ?_⟩
  · obtain ⟨k, e, p, tp, hk, rfl, rfl, hn, hits, hen, H⟩ := hI
    by_cases hlt : k < x.cps.size
    · refine with_aok (aok_over2 (n := n₀) (hA.le (Nat.le_succ _))) (fun hA2 => ?_)
      refine nx_enumS hA2.h (H.pick (by tb_rel)) hlt (fun T t t' c s hc H => ?_)
      have hdrop : x.cps.toList.drop k = c :: x.cps.toList.drop (k + 1) := by
        obtain ⟨h1, h2⟩ := Array.getElem?_eq_some_iff.mp hc
        rw [← h2, List.drop_eq_getElem_cons (by simpa using h1)]; simp
      rw [hdrop] at hits hen
      have hz : (Str.ofString "\\").length + (⟨#[c]⟩ : Str).length ≤ sizeLine := by
        rw [show (Str.ofString "\\").length = 1 from by decide +kernel]; show 1 + 1 ≤ sizeLine; decide
      have hs2 : Str.ofString "\\" ++ (⟨#[c]⟩ : Str) = ⟨[92, c].toArray⟩ := str_ext (by rw [str_app, show (Str.ofString "\\").cps.toList = [92] from by decide +kernel]; rfl)
      repeat' cell_call
      intro HH lv
      refine seg_execs_cons (seg_if ?_)
      repeat' cell_call
      cases e with
      | true =>
        rw [if_pos rfl]
        have e1 : escL k true (c :: x.cps.toList.drop (k + 1)) = (k, [92, c]) :: escL (k + 1) false (x.cps.toList.drop (k + 1)) := rfl
        rw [e1] at hits
        obtain ⟨m, rfl, hm, hhead, htail⟩ := drop_cons hn hits
        refine seg_execs_cons (seg_Expr_Yield rfl rfl rfl ?_ rfl rfl)
        refine wpAny_mono (Q := _) (E := fun _ _ => False) ?_ (fun _ _ q => q) fun _ _ f => f.elim
        repeat' cell_call
        intro kap hkap
        rw [hs2] at H
        have H := H.prune (L := Lg) (l' := [(Str.ofString "escape", .bool true), (Str.ofString "pos", .int (k : Nat) _)]) (by tb_rel) (by tb_rel)
        refine ⟨_, _, _, (k, [92, c]), [(Lg, _), (Dn, _), (I, _)], hhead, rfl, hown, H.pick (show Pick (_ :: _ :: _ :: _ :: restL s₀ s₀' own) _ from by tb_rel), fun led s₃ H => hkap .none s₃ ?_⟩
        have H := to_rest (own := own) H (by subst hown; simp)
        replace H : Inn s₀ (_ :: _ :: _ :: restL s₀ s₃ own) gs s₃ := H
        refine seg_execs_cons (seg_st ?_)
        repeat' cell_call
        have H := H.prune (L := Lg) (l' := [(Str.ofString "escape", .bool false), (Str.ofString "pos", .int (k : Nat) _)]) (by tb_rel) (by tb_rel)
        exact IH (x.cps.size - (k + 1)) m s₃ _ (Nat.sub_succ_lt_self _ _ hlt) ⟨k + 1, false, _, _, hlt, rfl, rfl, hm, htail, hen, H.pick (by tb_rel)⟩
      | false =>
        rw [if_neg Bool.false_ne_true]
        refine seg_execs_cons (seg_if ?_)
        repeat' cell_call
        by_cases hc92 : c = 92
        · subst hc92
          rw [if_pos (by rfl)]
          have e1 : escL k false (92 :: x.cps.toList.drop (k + 1)) = escL (k + 1) true (x.cps.toList.drop (k + 1)) := rfl
          rw [e1] at hits
          refine seg_execs_cons (seg_st ?_)
          repeat' cell_call
          have H := H.prune (L := Lg) (l' := [(Str.ofString "escape", .bool true), (Str.ofString "pos", .int (k : Nat) _)]) (by tb_rel) (by tb_rel)
          exact IH (x.cps.size - (k + 1)) n s₀' _ (Nat.sub_succ_lt_self _ _ hlt) ⟨k + 1, true, _, _, hlt, rfl, rfl, hn, hits, hen, H.pick (by tb_rel)⟩
        · rw [if_neg (by rw [show (Str.ofString "\\").cps.toList = [92] from by decide +kernel]; simp [hc92])]
          have e1 : escL k false (c :: x.cps.toList.drop (k + 1)) = (k, [c]) :: escL (k + 1) false (x.cps.toList.drop (k + 1)) := by
            show (if c = 92 then _ else _) = _; rw [if_neg hc92]
          rw [e1] at hits
          obtain ⟨m, rfl, hm, hhead, htail⟩ := drop_cons hn hits
          refine seg_execs_cons (seg_Expr_Yield rfl rfl rfl ?_ rfl rfl)
          refine wpAny_mono (Q := _) (E := fun _ _ => False) ?_ (fun _ _ q => q) fun _ _ f => f.elim
          repeat' cell_call
          intro kap hkap
          have H := H.prune (L := Lg) (l' := [(Str.ofString "escape", .bool false), (Str.ofString "pos", .int (k : Nat) _)]) (by tb_rel) (by tb_rel)
          refine ⟨_, _, _, (k, [c]), [(Lg, _), (Dn, _), (I, _)], hhead, rfl, hown, H.pick (show Pick (_ :: _ :: _ :: _ :: restL s₀ s₀' own) _ from by tb_rel), fun led s₃ H => hkap .none s₃ ?_⟩
          have H := to_rest (own := own) H (by subst hown; simp)
          replace H : Inn s₀ (_ :: _ :: _ :: restL s₀ s₃ own) gs s₃ := H
          exact IH (x.cps.size - (k + 1)) m s₃ _ (Nat.sub_succ_lt_self _ _ hlt) ⟨k + 1, false, _, _, hlt, rfl, rfl, hm, htail, by have := hen; rw [show endE false (c :: x.cps.toList.drop (k + 1)) = endE (c == 92) (x.cps.toList.drop (k + 1)) from rfl, beq_eq_false_iff_ne.mpr hc92] at this; exact this, H⟩
    · have hke : k = x.cps.size := Nat.le_antisymm hk (Nat.le_of_not_lt hlt)
      refine with_aok (aok_over2 (n := n₀) (hA.le (Nat.le_succ _))) (fun hA2 => ?_)
      refine nx_enumS_end hA2.h (H.pick (by tb_rel)) hke (fun s H => ?_)
      refine seg_again rfl (seg_leaf (.ok .next) ?_)
      subst hke
      rw [List.drop_of_length_le (Nat.le_of_eq Array.length_toList)] at hits hen
      have he : e = false := hen
      subst he
      have hn0 : n = 0 := drop_nil' hn hits
      subst hn0
      refine seg_execs_cons (seg_if ?_)
      repeat' cell_call
      rw [if_neg Bool.false_ne_true]
      exact seg_end (.ok (.ret .none)) ⟨rfl, rfl, H.pick (.skip .all)⟩
  · rw [Nat.sub_self, List.drop_zero, List.drop_zero]; exact hIts.symm
  · exact hend
  · exact (H.prune (L := Lg) (l' := [(Str.ofString "escape", .bool false), (Str.ofString "pos", .int 0 t)]) (by tb_rel) (by tb_rel)).pick (by tb_rel)
end
/-! ### H4 -/
section
section
variable {prog : Program} {w : World} {A : Around} {E : Value → Shared → Prop} {s : Shared}
/-- next() of a generator function's generator, and what it leaves is bare -/
theorem nextGen {a : Addr} {g n : Nat} {st : GenState} {P : Nat → Shared → Shared → Prop} {Y : Protocol} {Q : Option Value → Shared → Prop} (hh : A.handled = none) (hl : s.heap.NoLimit) (hroom : A.depth < recursionLimit) (hg : s.heap.IsGen a g) (hgs : s.gens[g]? = some st)
    (hgo : st.Goes (model prog w) A.in1 (fun n s₀ r s₁ => r = .ok (.ret .none) ∧ P n s₀ s₁) Y n (.send .none) (s.setGen g .running))
    (hY : ∀ v s₁ st', st'.bare = true → Y (n - 1) (s.setGen g .running) v s₁ (fun r' s'' => match n with
        | 0 => False
        | m + 1 => st'.Goes (model prog w) A.in1 (fun n s₀ r s₁ => r = .ok (.ret .none) ∧ P n s₀ s₁) Y m r' s'') → Q (some v) (s₁.setGen g st'))
    (hP : ∀ s₁, P n (s.setGen g .running) s₁ → ∀ h', (∀ b o, s₁.heap.get? b = some o → h'.get? b = some o) → Q none { s₁.setGen g .finished with heap := h' }) : wpAny (model prog w) A (pyNext (.ref a)) Q E s := by
  have wake : wpAny (model prog w) A.in1 (Builtin.Generator.genWake (.ref a) (.send .none)) (fun f s' => ∃ v, f = .done (.ret v) ∧ Q (some v) s')
      (fun e s' => wpAny (model prog w) A (isInstance e (.type "StopIteration")) (fun b s'' => if b = true then Q none s'' else False) E s') s := by
    unfold Builtin.Generator.genWake
    refine wpAny_bind (wpAny_holding (wpAny_genNumber hg (wpAny_bind (wpAny_genState hgs ?_))))
    cases st with
    | running => exact hgo.elim
    | finished => exact hgo.elim
    | _ =>
      refine wpAny_bind (wpAny_roomToWake hl hroom ?_)
      show wpAny _ A.in1 (.resume g (.send .none) [] _) _ _ s
      refine wpAny_resumeQ hgs hgo (fun x s₁ hx => ?_) (fun v s₁ st' hb hv => wpAny_pure ⟨v, rfl, hY v s₁ st' hb hv⟩)
      obtain ⟨rfl, hp⟩ := hx
      show wpAny _ A.in1 (newExc (.type "StopIteration") [] >>= _) _ _ _
      refine wpAny_bind ?_
      simp only [newExc, newTuple]
      refine wpAny_bind (wpAny_newObj_type ?_ (by size_fits))
      refine wpAny_bind (m := firstArgMember _ _) (wpAny_of_eq (a := Value.none) (by first | rfl | (simp only [firstArgMember]; rfl)) ?_)
      refine wpAny_newObj_type ?_ (by size_fits)
      simp only [raiseNew]
      refine wpAny_bind (wpAny_bind (wpAny_handled ?_))
      first | rw [show A.in1.handled = none from hh] | rw [hh]
      refine wpAny_throw ?_
      refine wpAny_isInstance (T := "StopIteration") (b := true) ⟨_, Heap.get?_push_size _ rfl, rfl⟩ isSubtype_stop ?_
      exact hP s₁ hp _ fun b o hb => Heap.get?_push_of_some _ (Heap.get?_push_of_some _ hb)
  unfold pyNext
  refine wpAny_bind (wpAny_attempt (wpAny_callSpecial?_slot (name := Str.ofString "__next__") hg.typeIs slot_gen_next
    (wpAny_call_entry slot_gen_next hg.typeIs entry_gen_next ?_ (args_gen_next _))))
  show wpAny _ A.in1 (Builtin.Generator.genWake (.ref a) (.send .none)) _ _ s
  refine wpAny_mono wake (fun f s' hf => ?_) (fun e s' he => ?_)
  · obtain ⟨v, rfl, hq⟩ := hf
    exact ⟨v, rfl, wpAny_pure hq⟩
  · refine wpAny_bind (wpAny_mono he (fun b s'' hb => ?_) fun _ _ f => f)
    cases b with
    | true => rw [if_pos rfl] at hb; exact wpAny_pure hb
    | false => rw [if_neg Bool.false_ne_true] at hb; exact hb.elim
end

theorem bare_set {gens : Array GenState} {g : Nat} {x : GenState} (h : AllBare gens) (hx : x.bare = true) : AllBare (gens.setIfInBounds g x) := by
  intro y hy
  obtain ⟨i, hi, rfl⟩ := Array.mem_iff_getElem.mp hy
  rw [Array.getElem_setIfInBounds]
  split
  · exact hx
  · exact h _ (Array.getElem_mem (by simpa using hi))
  · simpa using hi
theorem Inn.setGen {s₀ s : Shared} {led : Led} {g : Nat} {st st' : GenState} (H : Inn s₀ led [(g, st)] s) (hb : st'.bare = true) : Inn s₀ led [(g, st')] (s.setGen g st') :=
  ⟨H.keep, H.ld, H.nd, H.os, bare_set H.bare hb, fun p hp => by
    rcases List.mem_cons.mp hp with rfl | hp
    · exact setGen_self (H.gl _ List.mem_cons_self)
    · cases hp⟩

inductive GLive (w : World) (A : Around) (s₀ : Shared) (x : Str) (g : Nat) : Nat → GenState → Led → Prop
  | fresh {Lg : Addr} {tx : Tok} {body : List Stmt} (hb : fdIter.body = .stmts body) : GLive w A s₀ x g 0 (.fresh (.func body (callEnv fdIter Lg 21))) [(Lg, nsC [(Str.ofString "addr", .str x tx)])]
  | live {j : Nat} {st : GenState} {rows : Led} {own : List Addr} (hr : rows.map Prod.fst = own)
      (h : ∀ led s, Inn s₀ (rows ++ led) [(g, .running)] s → st.Goes (MM w) A.in1 (fun n s₀' r s₁ => r = .ok (.ret .none) ∧ gP s₀ own [(g, .running)] n s₀' s₁) (gY (escL 0 false x.cps.toList) s₀ own [(g, .running)]) ((escL 0 false x.cps.toList).length - j) (.send .none) s) :
      GLive w A s₀ x g j st rows

section
variable {w : World} {A : Around} {E : Value → Shared → Prop} {s₀ s : Shared} {led rows : Led} {mg mb : Str → Option Value} {n : Nat}
/-- at the resumption: the addresses that are the generator's own -/
theorem GLive.at {x : Str} {g j : Nat} {st : GenState} {a : Addr} (L : GLive w A s₀ x g j st rows) (G : GG w mg mb s₀.heap) (hA : AOk A (n + 4)) (hend : endE false x.cps.toList = false) (H : Inn s₀ (rows ++ led) [(g, st)] s) :
    ∃ own, (∀ p ∈ led, p.1 ∉ own) ∧ st.Goes (MM w) A.in1 (fun n s₀' r s₁ => r = .ok (.ret .none) ∧ gP s₀ own [(g, .running)] n s₀' s₁) (gY (escL 0 false x.cps.toList) s₀ own [(g, .running)]) ((escL 0 false x.cps.toList).length - j) (.send .none) (s.setGen g .running) := by
  have H₁ : Inn s₀ (rows ++ led) [(g, .running)] (s.setGen g .running) := H.setGen rfl
  have nd := H.nd
  rw [List.map_append, List.nodup_append] at nd
  cases L with
  | @fresh Lg tx body hb =>
    refine ⟨[Lg, s.heap.objs.size + 1, s.heap.objs.size], fun p hp hm => ?_, rfl, gen_run G hA.in1 H₁ hend hb⟩
    obtain ⟨o, ho, _⟩ := (H.ld p (List.mem_append_right _ hp)).1
    have hlt := Heap.lt_size ho
    simp only [List.mem_cons, List.not_mem_nil, or_false] at hm
    rcases hm with e | e | e
    · exact nd.2.2 Lg (by simp) p.1 (List.mem_map.mpr ⟨p, hp, rfl⟩) e.symm
    · rw [e] at hlt; exact absurd hlt (Nat.not_lt.mpr (Nat.le_succ _))
    · rw [e] at hlt; exact Nat.lt_irrefl _ hlt
  | @live _ _ _ own hr h =>
    refine ⟨own, fun p hp hm => ?_, h led _ H₁⟩
    rw [← hr] at hm
    exact nd.2.2 p.1 hm p.1 (List.mem_map.mpr ⟨p, hp, rfl⟩) rfl
theorem gen_ix {l j : Nat} (h : j < l) : l - 1 - (l - j - 1) = j ∧ l - j = (l - (j + 1)) + 1 := by omega
theorem nx_gen {x : Str} {g j : Nat} {st : GenState} {a : Addr} {it : Nat × List Nat} {Q : Option Value → Shared → Prop} (L : GLive w A s₀ x g j st rows) (G : GG w mg mb s₀.heap) (hA : AOk A (n + 4)) (hend : endE false x.cps.toList = false) (H : Inn s₀ (rows ++ (a, gnC g) :: led) [(g, st)] s)
    (hj : (escL 0 false x.cps.toList)[j]? = some it)
    (k : ∀ T t t' st' rows' s', GLive w A s₀ x g (j + 1) st' rows' → Inn s₀ (rows' ++ (T, tupC [.int (it.1 : Nat) t, .str ⟨it.2.toArray⟩ t']) :: (a, gnC g) :: led) [(g, st')] s' → Q (some (.ref T)) s') :
    wpAny (MM w) A (pyNext (.ref a)) Q E s := by
  obtain ⟨own, hled, hgo⟩ := L.at (a := a) G hA hend H
  obtain ⟨o, ho, nm, qn, h1, h2, h3⟩ := H.has (List.mem_append_right _ List.mem_cons_self)
  have hlt := (List.getElem?_eq_some_iff.mp hj).1
  refine nextGen hA.h (H.gg G).nolimit hA.room ⟨o, nm, qn, ho, h1, h2, h3⟩ (H.gl _ List.mem_cons_self) hgo (fun v s₁ st' hb hv => ?_) (fun s₁ hp h' hk => ?_)
  · obtain ⟨T, t, t', it', rows', hit, rfl, hrows, H₂, hcont⟩ := hv
    have hidx : (escL 0 false x.cps.toList).length - 1 - ((escL 0 false x.cps.toList).length - j - 1) = j := (gen_ix hlt).1
    rw [hidx, hj] at hit
    cases hit
    have H₁ : Inn s₀ (rows ++ (a, gnC g) :: led) [(g, .running)] (s.setGen g .running) := H.setGen rfl
    have H₃ := from_rest (rows := rows) (new := (T, tupC [.int (it.1 : Nat) t, .str ⟨it.2.toArray⟩ t']) :: rows') H₁ hled H₂
    have H₄ := H₃.setGen hb
    refine k T t t' st' rows' _ (.live hrows fun led' s' H' => ?_) (H₄.pick pick_in)
    have hc := hcont led' s' H'
    rw [(gen_ix hlt).2] at hc
    exact hc
  · exact absurd hp.1 (Nat.sub_ne_zero_of_lt hlt)
theorem nx_gen_end {x : Str} {g j : Nat} {st : GenState} {a : Addr} {Q : Option Value → Shared → Prop} (L : GLive w A s₀ x g j st rows) (G : GG w mg mb s₀.heap) (hA : AOk A (n + 4)) (hend : endE false x.cps.toList = false) (H : Inn s₀ (rows ++ (a, gnC g) :: led) [(g, st)] s)
    (hj : j = (escL 0 false x.cps.toList).length) (k : ∀ s', Inn s₀ led [] s' → Q none s') : wpAny (MM w) A (pyNext (.ref a)) Q E s := by
  obtain ⟨own, hled, hgo⟩ := L.at (a := a) G hA hend H
  obtain ⟨o, ho, nm, qn, h1, h2, h3⟩ := H.has (List.mem_append_right _ List.mem_cons_self)
  refine nextGen hA.h (H.gg G).nolimit hA.room ⟨o, nm, qn, ho, h1, h2, h3⟩ (H.gl _ List.mem_cons_self) hgo (fun v s₁ st' hb hv => ?_) (fun s₁ hp h' hk => ?_)
  · obtain ⟨T, t, t', it', rows', hit, rfl, hrows, H₂, hcont⟩ := hv
    have hc := hcont _ _ ((H₂.pick (.skip .all)))
    rw [show (escL 0 false x.cps.toList).length - j = 0 by omega] at hc
    exact hc.elim
  · have H₁ : Inn s₀ (rows ++ (a, gnC g) :: led) [(g, .running)] (s.setGen g .running) := H.setGen rfl
    have H₃ := from_rest (rows := rows) (new := []) H₁ hled (by simpa using hp.2)
    have H₄ := (H₃.setGen (st' := .finished) rfl)
    exact k _ (((H₄.pick (show Pick led ([] ++ (a, gnC g) :: led) from .skip .all)).noGens).keeps hk)
theorem it_gen {a : Addr} {g : Nat} {gs : GL} {Q : Value → Shared → Prop} (H : Inn s₀ led gs s) (k : Q (.ref a) s) (r : Row a (gnC g) led) : wpAny (MM w) A (pyIter (.ref a)) Q E s := by
  obtain ⟨o, ho, nm, qn, h1, h2, h3⟩ := H.has r.mem
  exact wpAny_pyIter_gen ⟨o, nm, qn, ho, h1, h2, h3⟩ k
/-- the generator is made -/
theorem mk_gen {x : Str} {t : Tok} {Q : Value → Shared → Prop} (G : GG w mg mb s₀.heap) (hA : AOk A (n + 1)) (H : Inn s₀ led [] s) (k : ∀ D g st rows s', GLive w A s₀ x g 0 st rows → Inn s₀ (rows ++ (D, gnC g) :: led) [(g, st)] s' → Q (.ref D) s') : wpAny (MM w) A (call (.ref 21) [.str x t]) Q E s := by
  have G' := H.gg G
  obtain ⟨body, hb⟩ : ∃ body, fdIter.body = .stmts body := ⟨_, rfl⟩
  refine wpAny_call ?_
  refine codeAny_call_generator (fd := fdIter) (o := _) (body := body) hA.room (G'.k 21 _ rfl) rfl rfl rfl hb (codeRec_of G'.k (by kernel_rfl!)) ?_
  have hbind : BindsTo s fdIter ⟨[.str x t], []⟩ [(Str.ofString "addr", .str x t)] := BindsTo.of_eq (by kernel_rfl!)
  refine hbind _ _ _ _ ?_
  refine wpAny_newFunctionEnv (by decide +kernel) (locs (by kernel_rfl!)) (fun h' h1 h2 => ?_) rfl
  have keep : ∀ b o, s.heap.get? b = some o → h'.get? b = some o := fun b o e => h2.extBut b o (Nat.ne_of_lt (Heap.lt_size e)) (Heap.get?_push_of_some _ e)
  refine ⟨G'.nolimit.keeps keep, ?_⟩
  have H₁ : Inn s₀ ((s.heap.objs.size, nsC [(Str.ofString "addr", .str x t)]) :: led) [] { s with heap := h' } := H.add (s' := { s with heap := h' }) keep (get?_none_of_size (Nat.le_refl _)) (.of_ns h1 fun _ _ q => q)
  have H₂ := H₁.push (o := { cls := .type "generator", data := .fields #[.int s.gens.size 0, .str fdIter.name (s.toks + 1), .str fdIter.qualname (s.toks + 1 + 1)] }) (c := gnC s.gens.size) ⟨_, _, rfl, rfl, rfl⟩ (s.toks + 1 + 1 + 1)
  refine k h'.objs.size s.gens.size _ _ _ (.fresh (Lg := s.heap.objs.size) (tx := t) hb) ?_
  have H₃ := H₂.pick (show Pick ([(s.heap.objs.size, nsC [(Str.ofString "addr", .str x t)])] ++ (h'.objs.size, gnC s.gens.size) :: led) _ from pick_swap)
  refine ⟨H₃.keep, H₃.ld, H₃.nd, H₃.os, fun y hy => ?_, fun p hp => ?_⟩
  · rcases Array.mem_push.mp hy with hy | rfl
    · exact H.bare y hy
    · rfl
  · rcases List.mem_cons.mp hp with rfl | hp
    · exact Array.getElem?_push_size ..
    · cases hp
end
end
/-! ### C14 -/
open PySem.Builtin PySem.Builtin.Str
theorem strs_values : ∀ (l : List (Str × Tok)), Paired isS (l.map (·.1)) (strValues l)
  | [] => .nil
  | (x, t) :: r => .cons ⟨t, rfl⟩ (strs_values r)
section
variable {w : World} {A : Around} {E : Value → Shared → Prop} {s₀ s : Shared} {led led' : Led} {gs : GL} {env : Env} {n : Nat} {t u : Tok} {x y : Str}
theorem push_strs {l : List (Str × Tok)} {xs : List Str} {Q : Value → Shared → Prop} (H : Inn s₀ led gs s) (k : ∀ D vs s', Paired isS xs vs → Inn s₀ ((D, lstC vs) :: led) gs s' → Q (.ref D) s') (e : l.map (·.1) = xs) (tk : Nat) :
    Q (.ref s.heap.objs.size) { s with toks := tk, heap := s.heap.push { cls := .type "list", data := .seq (strValues l).toArray } } :=
  k _ _ _ (e ▸ strs_values l) (H.push (show lstC (strValues l) _ from ⟨0, rfl⟩) tk)
theorem s_split {Q : Value → Shared → Prop} (H : Inn s₀ led gs s) (k : ∀ D vs s', Paired isS (Txt.split x y) vs → Inn s₀ ((D, lstC vs) :: led) gs s' → Q (.ref D) s') (hy : (y.length == 0) = false) (hx : x.length ≤ sizeLine)
    (hz : (partsBetween x (occurrences x y 0 x.length (x.length + 1)) y.length).length ≤ sizeLine) : wpAny (MM w) A (call (.builtin "str.split") [.str x t, .str y u]) Q E s := by
  cases h1 : (decide (x.length < y.length) || decide (strKind x < strKind y))
  · cases hf : (occurrences x y 0 x.length (x.length + 1)).isEmpty
    · refine call_meets PySem.F.slot_str_split (typeIs_str _ _ _) PySem.F.entry_str_split (PySem.F.args_str_split_2 _ _) (meets_str_split_sep x y t u h1 hy hf hx hz) ?_
      show wants Q E _ { s with toks := _, heap := s.heap.push { cls := .type "list", data := .seq (strsFrom s.toks (partsBetween x (occurrences x y 0 x.length (x.length + 1)) y.length)).toArray } }
      rw [strsFrom_eq]
      exact push_strs H k ((numbered_texts _ _).trans ((if_neg (ne_true_of_eq_false h1)).trans (if_neg (ne_true_of_eq_false hf))).symm) _
    · exact call_meets PySem.F.slot_str_split (typeIs_str _ _ _) PySem.F.entry_str_split (PySem.F.args_str_split_2 _ _) (meets_str_split_not_found x y t u h1 hy hf)
        (push_strs (l := [(x, t)]) H k ((if_neg (ne_true_of_eq_false h1)).trans (if_pos hf)).symm s.toks)
  · exact call_meets PySem.F.slot_str_split (typeIs_str _ _ _) PySem.F.entry_str_split (PySem.F.args_str_split_2 _ _) (meets_str_split_cannot_occur x y t u h1)
      (push_strs (l := [(x, t)]) H k (if_pos h1).symm s.toks)
theorem s_lines {Q : Value → Shared → Prop} (H : Inn s₀ led gs s) (k : ∀ D vs s', Paired isS (Txt.lines x) vs → Inn s₀ ((D, lstC vs) :: led) gs s' → Q (.ref D) s') (hx : x.length ≤ sizeLine) (hz : (lineCuts x).length ≤ sizeLine) : wpAny (MM w) A (call (.builtin "str.splitlines") [.str x t]) Q E s := by
  refine call_meets PySem.F.slot_str_splitlines (typeIs_str _ _ _) PySem.F.entry_str_splitlines (PySem.F.args_str_splitlines_1 _) (meets_str_splitlines x t hx hz) ?_
  cases hw : lineCuts x == [(0, x.length)]
  · simp only [Bool.false_eq_true, if_false]
    rw [strsFrom_eq]
    exact push_strs (l := numbered s.toks (linesOf x)) H k ((numbered_texts _ _).trans (if_neg (ne_true_of_eq_false hw)).symm) _
  · simp only [if_true]
    exact push_strs (l := [(x, t)]) H k (if_pos hw).symm s.toks

theorem gm_str {name : String} {id : String} {pl : Sem Bool} {Q : Value × List Value → Shared → Prop} (k : Q (.builtin id, [.str x t]) s) (h : ∀ Q : Value × List Value → Shared → Prop, Q (.builtin id, [.str x t]) s → wpAny (MM w) A (getMethod (.str x t) name pl) Q E s) : wpAny (MM w) A (getMethod (.str x t) name pl) Q E s := h Q k
theorem gm_append {D : Addr} {vs : List Value} {pl : Sem Bool} {Q : Value × List Value → Shared → Prop} (H : Inn s₀ led gs s) (k : Q (.builtin "list.append", [.ref D]) s) (r : Row D (lstC vs) led) : wpAny (MM w) A (getMethod (.ref D) "append" pl) Q E s := by
  obtain ⟨n, e⟩ := (H.has r.mem).pln
  exact Calls.getMethod_list_append e rfl rfl k
theorem s_join {D : Addr} {vs : List Value} {xs : List Str} {Q : Value → Shared → Prop} (H : Inn s₀ led gs s) (k : ∀ t s', Inn s₀ led gs s' → Q (.str (Txt.join x xs) t) s') (r : Row D (lstC vs) led) (hi : Paired isS xs vs) (hz : (xs.map (·.length)).sum + xs.length * x.length ≤ 16777216) :
    wpAny (MM w) A (call (.builtin "str.join") [.str x t, .ref D]) Q E s :=
  PyProof.Rows.join_list (H.has r.mem).lst (strsAre_of hi) hz fun t' k' => k _ _ (H.tok _)
theorem s_lower {Q : Value → Shared → Prop} (H : Inn s₀ led gs s) (k : ∀ t s', Inn s₀ led gs s' → Q (.str (Txt.lower x) t) s') (hx : x.length ≤ 5592405) : wpAny (MM w) A (call (.builtin "str.lower") [.str x t]) Q E s :=
  SCL.lower hx fun _ => k _ _ (H.tok _)
theorem s_upper {Q : Value → Shared → Prop} (H : Inn s₀ led gs s) (k : ∀ t s', Inn s₀ led gs s' → Q (.str (Txt.upper x) t) s') (hx : x.length ≤ 5592405) : wpAny (MM w) A (call (.builtin "str.upper") [.str x t]) Q E s :=
  SCL.upper hx fun _ => k _ _ (H.tok _)
theorem s_capitalize {Q : Value → Shared → Prop} (H : Inn s₀ led gs s) (k : ∀ t s', Inn s₀ led gs s' → Q (.str (Txt.capitalize x) t) s') (hx : x.length ≤ 5592405) : wpAny (MM w) A (call (.builtin "str.capitalize") [.str x t]) Q E s :=
  SCL.capitalize hx fun _ _ _ => k _ _ (H.tok _)
theorem s_lstrip {Q : Value → Shared → Prop} (H : Inn s₀ led gs s) (k : ∀ t s', Inn s₀ led gs s' → Q (.str (Txt.lstrip x) t) s') (hx : x.length ≤ sizeLine) : wpAny (MM w) A (call (.builtin "str.lstrip") [.str x t]) Q E s :=
  SC.lstrip (hsz := hx) fun _ _ => k _ _ (H.tok _)
theorem s_rstrip {Q : Value → Shared → Prop} (H : Inn s₀ led gs s) (k : ∀ t s', Inn s₀ led gs s' → Q (.str (Txt.rstrip x) t) s') (hx : x.length ≤ sizeLine) : wpAny (MM w) A (call (.builtin "str.rstrip") [.str x t]) Q E s :=
  SC.rstrip (hsz := hx) fun _ _ => k _ _ (H.tok _)
theorem s_endswith {Q : Value → Shared → Prop} (k : Q (.bool (Txt.endswith x y)) s) : wpAny (MM w) A (call (.builtin "str.endswith") [.str x t, .str y u]) Q E s := SC.endswith k
theorem s_in {Q : Value → Shared → Prop} (k : Q (.bool (Txt.contains x y)) s) : wpAny (MM w) A (compareOp .In (.str y u) (.str x t)) Q E s := SB.contains k
theorem s_notin {Q : Value → Shared → Prop} (k : Q (.bool (!Txt.contains x y)) s) : wpAny (MM w) A (compareOp .NotIn (.str y u) (.str x t)) Q E s := SB.notContains k
theorem if_tt {P R : Prop} (h : P) : if true = true then P else R := h
theorem if_ff {P R : Prop} (h : R) : if false = true then P else R := h
theorem if_nt {P R : Prop} (h : R) : if (!true) = true then P else R := h
theorem if_nf {P R : Prop} (h : P) : if (!false) = true then P else R := h
theorem cl_app1 {f a : Value} {vs : List Value} {Q : Value → Shared → Prop} (k : wpAny (MM w) A (call f (a :: vs)) Q E s) : wpAny (MM w) A (call f ([a] ++ vs)) Q E s := k
theorem has_one (x : Str) (c : Nat) : Txt.contains x ⟨#[c]⟩ = decide (c ∈ x.cps.toList) := StrLaws.found_one x c
end
theorem lay_C14_1 : True := by
  k_with "cell_call.C14.1" => (first
  | ((with_reducible show wpAny _ _ (PySem.call _ _) _ _ _); first
    | ((with_reducible refine' c_append ?kqlfA1 ?_ ?kqlfu ?kqlfz); (case kqlfA1 => with_reducible assumption); (case kqlfu => tb_rel); (case kqlfz => with_reducible assumption); fold_lay)
    | (with_reducible refine s_endswith ?_)
    | ((with_reducible refine' s_lower ?kqlfA1 ?_ ?kqlfz); (case kqlfA1 => with_reducible assumption); (case kqlfz => with_reducible assumption); fold_depth)
    | ((with_reducible refine' s_upper ?kqlfA1 ?_ ?kqlfz); (case kqlfA1 => with_reducible assumption); (case kqlfz => with_reducible assumption); fold_depth)
    | ((with_reducible refine' s_lstrip ?kqlfA1 ?_ ?kqlfz); (case kqlfA1 => with_reducible assumption); (case kqlfz => with_reducible assumption); fold_depth)
    | ((with_reducible refine' s_rstrip ?kqlfA1 ?_ ?kqlfz); (case kqlfA1 => with_reducible assumption); (case kqlfz => with_reducible assumption); fold_depth)
    | (with_reducible refine cl_app1 ?_))
  | ((with_reducible show wpAny _ _ (PySem.compareOp _ _ _) _ _ _); first
    | (with_reducible refine s_in ?_)
    | (with_reducible refine s_notin ?_))
  | ((with_reducible show wpAny _ _ (PySem.getMethod _ _ _) _ _ _); first
    | (with_reducible refine GM.join ?_)
    | (with_reducible refine GM.split ?_)
    | (with_reducible refine GM.lower ?_)
    | (with_reducible refine GM.upper ?_)
    | (with_reducible refine GM.lstrip ?_)
    | (with_reducible refine GM.rstrip ?_)
    | (with_reducible refine GM.endswith ?_)
    | (with_reducible refine GM.splitlines ?_)
    | ((with_reducible refine' gm_append ?kqlfA1 ?_ ?kqlfr); (case kqlfA1 => with_reducible assumption); (case kqlfr => tb_rel)))
  | (with_reducible refine PyProof.Rows.is_none_none ?_)
  | (with_reducible refine PyProof.Rows.is_int_none ?_)
  | (with_reducible refine if_tt ?_)
  | (with_reducible refine if_ff ?_)
  | (with_reducible refine if_nt ?_)
  | (with_reducible refine if_nf ?_)
  | fail "-")
  exact True.intro
local macro_rules | `(tactic| cell_call) => `(tactic| k_extra "cell_call.C14.1")
/-! ### S1 -/
section
section
variable {w : World} {A : Around} {E : Value → Shared → Prop} {s₀ s : Shared} {led rows : Led} {mg mb : Str → Option Value} {n : Nat}
theorem perm_fr {fr rows led : Led} {p : Addr × Cell} : (rows ++ p :: (fr ++ led)).Perm (fr ++ p :: (rows ++ led)) := by
  have h1 : (rows ++ p :: (fr ++ led)).Perm (p :: (rows ++ (fr ++ led))) := List.perm_middle
  have h2 : (fr ++ p :: (rows ++ led)).Perm (p :: (fr ++ (rows ++ led))) := List.perm_middle
  refine h1.trans (.trans (.cons _ ?_) h2.symm)
  rw [← List.append_assoc, ← List.append_assoc]
  exact List.Perm.append_right _ List.perm_append_comm
theorem nx_genF (fr : Led) {x : Str} {g j : Nat} {st : GenState} {a : Addr} {it : Nat × List Nat} {Q : Option Value → Shared → Prop} (L : GLive w A s₀ x g j st rows) (G : GG w mg mb s₀.heap) (hA : AOk A (n + 4)) (hend : endE false x.cps.toList = false) (H : Inn s₀ (fr ++ (a, gnC g) :: (rows ++ led)) [(g, st)] s)
    (hj : (escL 0 false x.cps.toList)[j]? = some it)
    (k : ∀ T t t' st' rows' s', GLive w A s₀ x g (j + 1) st' rows' → Inn s₀ ((T, tupC [.int (it.1 : Nat) t, .str ⟨it.2.toArray⟩ t']) :: (fr ++ (a, gnC g) :: (rows' ++ led))) [(g, st')] s' → Q (some (.ref T)) s') :
    wpAny (MM w) A (pyNext (.ref a)) Q E s :=
  nx_gen L G hA hend (H.pick (pick_of perm_fr)) hj fun T t t' st' rows' s' L' H' => k T t t' st' rows' s' L' (H'.pick (pick_of (by
    have h1 : (rows' ++ (T, tupC [.int (it.1 : Nat) t, .str ⟨it.2.toArray⟩ t']) :: (a, gnC g) :: (fr ++ led)).Perm ((T, tupC [.int (it.1 : Nat) t, .str ⟨it.2.toArray⟩ t']) :: (rows' ++ (a, gnC g) :: (fr ++ led))) := List.perm_middle
    exact (List.Perm.cons _ perm_fr.symm).trans h1.symm)))
theorem nx_genF_end (fr : Led) {x : Str} {g j : Nat} {st : GenState} {a : Addr} {Q : Option Value → Shared → Prop} (L : GLive w A s₀ x g j st rows) (G : GG w mg mb s₀.heap) (hA : AOk A (n + 4)) (hend : endE false x.cps.toList = false) (H : Inn s₀ (fr ++ (a, gnC g) :: (rows ++ led)) [(g, st)] s)
    (hj : j = (escL 0 false x.cps.toList).length) (k : ∀ s', Inn s₀ (fr ++ led) [] s' → Q none s') : wpAny (MM w) A (pyNext (.ref a)) Q E s :=
  nx_gen_end L G hA hend (H.pick (pick_of perm_fr)) hj k
theorem mk_genF {x : Str} {t : Tok} {Q : Value → Shared → Prop} (fr : Led) (G : GG w mg mb s₀.heap) (hA : AOk A (n + 1)) (H : Inn s₀ (fr ++ led) [] s) (k : ∀ D g st rows s', GLive w A s₀ x g 0 st rows → Inn s₀ (fr ++ (D, gnC g) :: (rows ++ led)) [(g, st)] s' → Q (.ref D) s') : wpAny (MM w) A (call (.ref 21) [.str x t]) Q E s :=
  mk_gen G hA H fun D g st rows s' hL H => k D g st rows s' hL (H.pick (pick_of perm_fr.symm))
theorem go_gen {elts : List Expr} {x1 : Nat} {pos : Pos} {a T : Addr} {g : Nat} {gs : GL} {Q : Unit → Shared → Prop} (H : Inn s₀ led gs s) (k : Q () s) (r : Row a (gnC g) led) : wpAny (MM w) A (letOwnedTupleGo (.Tuple elts x1 pos) (.ref a) (.ref T)) Q E s := by
  obtain ⟨o, ho, nm, qn, h1, h2, h3⟩ := H.has r.mem
  unfold letOwnedTupleGo
  refine wpAny_bind (wpAny_load ho ?_)
  rw [h1, h2]
  show wpAny _ A (if (["enumerate", "zip", "dict_itemiterator", "dict_reverseitemiterator", "odict_iterator", "itertools.zip_longest", "itertools.pairwise"].contains "generator" && _) = true then _ else _) Q E s
  rw [if_neg (by
    intro h
    rw [show (["enumerate", "zip", "dict_itemiterator", "dict_reverseitemiterator", "odict_iterator", "itertools.zip_longest", "itertools.pairwise"].contains "generator") = false from by decide, Bool.false_and] at h
    cases h)]
  exact wpAny_pure k
end

noncomputable def stStep (x : Str) (q : Nat × Option Nat × List Str) (i : Nat × List Nat) : Nat × Option Nat × List Str :=
  if i.2 = [34] then (match q.2.1 with
    | none => (q.1, some i.1, q.2.2)
    | some o => (i.1 + 1, none, if q.1 = o then q.2.2 else q.2.2 ++ [Txt.slice x (some q.1) (some o)])) else q
noncomputable def stripRun (x : Str) : Nat × Option Nat × List Str := (escL 0 false x.cps.toList).foldl (stStep x) (0, none, [])
noncomputable def stripS (x : Str) : Str := if 34 ∈ x.cps.toList then Txt.join (Str.ofString "") ((stripRun x).2.2 ++ (if (stripRun x).1 < x.length then [Txt.slice x (some (stripRun x).1) none] else [])) else x
noncomputable def posV (o : Option Nat) (t : Tok) : Value := match o with | none => .none | some k => .int (k : Nat) t

theorem foldl_bound (x : Str) : ∀ (l : List (Nat × List Nat)) (q : Nat × Option Nat × List Str), (∀ y ∈ q.2.2, y.length ≤ x.length) → (l.foldl (stStep x) q).2.2.length ≤ q.2.2.length + l.length ∧ ∀ y ∈ (l.foldl (stStep x) q).2.2, y.length ≤ x.length
  | [], q, h => ⟨Nat.le_refl _, h⟩
  | i :: r, q, h => by
    have step : (stStep x q i).2.2.length ≤ q.2.2.length + 1 ∧ ∀ y ∈ (stStep x q i).2.2, y.length ≤ x.length := by
      unfold stStep
      split
      · split
        · exact ⟨Nat.le_succ _, h⟩
        · dsimp only
          split
          · exact ⟨Nat.le_succ _, h⟩
          · refine ⟨by simp, fun y hy => ?_⟩
            rcases List.mem_append.mp hy with hy | hy
            · exact h y hy
            · rw [List.mem_singleton.mp hy]; exact Txt.slice_le x _ _
      · exact ⟨Nat.le_succ _, h⟩
    obtain ⟨h1, h2⟩ := foldl_bound x r (stStep x q i) step.2
    exact ⟨by rw [List.foldl_cons, List.length_cons]; omega, h2⟩
theorem escL_len : ∀ (l : List Nat) (k : Nat) (e : Bool), (escL k e l).length ≤ l.length + 1
  | [], k, e => by unfold escL; split <;> simp
  | c :: r, k, true => by
    show (_ :: escL (k + 1) false r).length ≤ _
    have := escL_len r (k + 1) false; simp only [List.length_cons]; omega
  | c :: r, k, false => by
    show (if c = 92 then escL (k + 1) true r else _ :: escL (k + 1) false r).length ≤ _
    split
    · have := escL_len r (k + 1) true; simp only [List.length_cons]; omega
    · have := escL_len r (k + 1) false; simp only [List.length_cons]; omega
theorem join_room {x : Str} {xs : List Str} (hx : x.length ≤ 1000) (h1 : ∀ y ∈ xs, y.length ≤ x.length) (h2 : xs.length ≤ 1003) : (xs.map (·.length)).sum + xs.length * (Str.ofString "").length ≤ 16777216 := by
  have e := StrLaws.sumLen_le xs h1
  have e1 : xs.length * x.length ≤ 1003 * 1000 := Nat.mul_le_mul h2 hx
  rw [show (Str.ofString "").length = 0 from by decide +kernel, Nat.mul_zero, Nat.add_zero]
  exact Nat.le_trans e (Nat.le_trans e1 (by decide))
theorem strip_ct {w : World} {A : Around} {n : Nat} {mg mb : Str → Option Value} {s₀ s : Shared} {led : Led} {E : Value → Shared → Prop} {Q : Value → Shared → Prop} (G : GG w mg mb s₀.heap) (hA : AOk A (n + 6)) (H : Inn s₀ led [] s) {x : Str} {tx : Tok} (hx : x.length ≤ 1000) (hend : endE false x.cps.toList = false)
    (k : ∀ t s', Inn s₀ led [] s' → Q (.str (stripS x) t) s') : wpAny (MM w) A (call (.ref 28) [.str x tx]) Q E s := by
  refine' enter (fd := fdStrip) (rb := [(Str.ofString "addr", .str x tx)]) G hA H ?ho ?hdat ?hcd ?hbody ?hbind ?hcell ?hloc ?h ?hco ?hgen ?hk
  kfm_turns
  clear H; intro L s hA H
  have hxs : x.length ≤ sizeLine := Nat.le_trans hx (by decide)
  repeat' cell_call
  rw [show Str.ofString "\"" = ⟨#[34]⟩ from by decide +kernel, has_one]
  by_cases h34 : 34 ∈ x.cps.toList
  · have hS : stripS x = Txt.join (Str.ofString "") ((stripRun x).2.2 ++ (if (stripRun x).1 < x.length then [Txt.slice x (some (stripRun x).1) none] else [])) := if_pos h34
    rw [hS] at k
    rw [if_neg (by simp [h34])]
    repeat' cell_call
    obtain ⟨Dr, rfl⟩ : ∃ Dr, Dr = D := ⟨_, rfl⟩
    refine mk_genF [_, _] G (hA.le (Nat.add_le_add_left (by decide) n : n + 1 ≤ n + 5)) H (fun Dg g gst rows s hL H => ?_)
    replace H : Inn s₀ (_ :: _ :: (Dg, gnC g) :: (rows ++ led)) _ s := H
    refine it_gen (g := g) H ?_ (by tb_rel)
    refine for_ix (n := (escL 0 false x.cps.toList).length) (fun j s => ∃ st op to gst rows rvs ta, GLive w (A.deeper (callEnv fdStrip L 28)) s₀ x g j gst rows ∧
      Inn s₀ ((Dr, lstC rvs) :: (L, nsC [(Str.ofString "result", .ref Dr), (Str.ofString "open_pos", posV op to), (Str.ofString "start", .int (st : Nat) ta), (Str.ofString "addr", .str x tx)]) :: (Dg, gnC g) :: (rows ++ led)) [(g, gst)] s ∧
      Paired isS ((((escL 0 false x.cps.toList).take j).foldl (stStep x) (0, none, [])).2.2) rvs ∧ (((escL 0 false x.cps.toList).take j).foldl (stStep x) (0, none, [])).1 = st ∧ (((escL 0 false x.cps.toList).take j).foldl (stStep x) (0, none, [])).2.1 = op) ?turn ?done ?h0
    case h0 => exact ⟨0, none, 0, gst, rows, [], _, hL, (H.prune (L := L) (l' := [(Str.ofString "result", .ref Dr), (Str.ofString "open_pos", .none), (Str.ofString "start", .int 0 _), (Str.ofString "addr", .str x tx)]) (by tb_rel) (by tb_rel)).pick (by tb_rel), .nil, rfl, rfl⟩
    case done =>
      clear H; rintro s ⟨st, op, to, gst, rows, rvs, ta, hL, H, hP, hst, hop⟩
      refine nx_genF_end [_, _] hL G (hA.le (Nat.add_le_add_left (by decide) n : n + 4 ≤ n + 5)) hend H rfl (fun s H => ⟨rfl, ?_⟩)
      replace H : Inn s₀ (_ :: _ :: led) [] s := H
      have hrun : stripRun x = (st, op, (stripRun x).2.2) := by
        rw [List.take_length] at hst hop
        exact Prod.ext hst (Prod.ext hop rfl)
      rw [List.take_length] at hP
      replace hP : Paired isS (stripRun x).2.2 rvs := hP
      have hb := foldl_bound x (escL 0 false x.cps.toList) (0, none, []) (fun y hy => (nomatch hy))
      have hl := escL_len x.cps.toList 0 false
      have hlx : x.cps.toList.length ≤ 1000 := by rw [← str_len]; exact hx
      have hrl : (stripRun x).2.2.length ≤ 1001 := by
        exact Nat.le_trans hb.1 (Nat.le_trans (Nat.le_of_eq (Nat.zero_add _)) (Nat.le_trans hl (Nat.succ_le_succ hlx)))
      have hrv : rvs.length ≤ sizeLine := by rw [← hP.length]; exact Nat.le_trans hrl (by decide)
      repeat' cell_call
      refine PyProof.Rows.split_bool (fun hb1 => ?_) (fun hb1 => ?_)
      · have hlt : (stripRun x).1 < x.length := by
          rw [hrun]; exact Int.ofNat_lt.mp (of_decide_eq_true hb1)
        rw [if_pos hlt] at k
        repeat' cell_call
        refine s_join H (fun t s H => ?_) (by tb_rel) (hP.snoc ⟨_, rfl⟩) (join_room hx (fun y hy => ?_) ?_)
        · have hk := k t s (H.pick (by tb_rel))
          rw [hrun] at hk ⊢
          exact hk
        · rcases List.mem_append.mp hy with hy | hy
          · exact hb.2 y hy
          · rw [List.mem_singleton.mp hy]; exact Txt.slice_le x _ _
        · rw [List.length_append, List.length_singleton]; exact Nat.le_trans (Nat.succ_le_succ hrl) (by decide)
      · have hlt : ¬ (stripRun x).1 < x.length := by
          rw [hrun]; exact fun h => of_decide_eq_false hb1 (Int.ofNat_lt.mpr h)
        rw [if_neg hlt, List.append_nil] at k
        repeat' cell_call
        refine s_join H (fun t s H => ?_) (by tb_rel) hP (join_room hx hb.2 (Nat.le_trans hrl (by decide)))
        exact k t s (H.pick (by tb_rel))
    case turn =>
      clear H; rintro j s hj ⟨st, op, to, gst, rows, rvs, ta, hL, H, hP, hst, hop⟩
      intro Rq hRq
      refine nx_genF [_, _] hL G (hA.le (Nat.add_le_add_left (by decide) n : n + 4 ≤ n + 5)) hend H (List.getElem?_eq_getElem hj) (fun T t1 t2 gst' rows' s hL H => ?_)
      replace H : Inn s₀ (_ :: _ :: _ :: (Dg, gnC g) :: (rows' ++ led)) _ s := H
      refine go_gen (g := g) H ?_ (by tb_rel)
      have hstep : ((escL 0 false x.cps.toList).take (j + 1)).foldl (stStep x) (0, none, []) = stStep x (((escL 0 false x.cps.toList).take j).foldl (stStep x) (0, none, [])) (escL 0 false x.cps.toList)[j] := by
        rw [List.take_succ_eq_append_getElem hj, List.foldl_append]; rfl
      have hq : ((escL 0 false x.cps.toList).take j).foldl (stStep x) (0, none, []) = (st, op, (((escL 0 false x.cps.toList).take j).foldl (stStep x) (0, none, [])).2.2) := Prod.ext hst (Prod.ext hop rfl)
      generalize hres : (((escL 0 false x.cps.toList).take j).foldl (stStep x) (0, none, [])).2.2 = res at hP hq
      rw [hq] at hstep
      have hrv : rvs.length ≤ sizeLine := by
        have hb := (foldl_bound x ((escL 0 false x.cps.toList).take j) (0, none, []) (fun y hy => (nomatch hy))).1
        have hl := escL_len x.cps.toList 0 false
        have hlx : x.cps.toList.length ≤ 1000 := by rw [← str_len]; exact hx
        rw [hres, List.length_take] at hb
        rw [← hP.length]
        exact Nat.le_trans (Nat.le_trans hb (Nat.le_trans (Nat.le_of_eq (Nat.zero_add _)) (Nat.le_trans (Nat.min_le_right ..) (Nat.le_trans hl (Nat.succ_le_succ hlx))))) (by decide)
      generalize (escL 0 false x.cps.toList)[j] = it at H hstep ⊢
      repeat' cell_call
      by_cases hch : it.2 = [34]
      · have hif : ((⟨it.2.toArray⟩ : Str).cps.toList == (⟨#[34]⟩ : Str).cps.toList) = true := by rw [hch]; rfl
        rw [if_pos hif]
        cases op with
        | none =>
          have e1 : stStep x (st, none, res) it = (st, some it.1, res) := by unfold stStep; rw [if_pos hch]
          rw [e1] at hstep
          simp only [posV] at H
          repeat' cell_call
          have H := H.prune (L := L) (l' := [(Str.ofString "result", .ref Dr), (Str.ofString "open_pos", .int (it.1 : Nat) t1), (Str.ofString "start", .int (st : Nat) ta), (Str.ofString "addr", .str x tx)]) (by tb_rel) (by tb_rel)
          exact ⟨st, some it.1, t1, gst', rows', rvs, ta, hL, H.pick (by tb_rel), by rw [hstep]; exact hP, by rw [hstep], by rw [hstep]⟩
        | some o =>
          simp only [posV] at H
          repeat' cell_call
          refine PyProof.Rows.split_bool (fun hb1 => ?_) (fun hb1 => ?_)
          · have hne : st ≠ o := by rintro rfl; simp at hb1
            have e1 : stStep x (st, some o, res) it = (it.1 + 1, none, res ++ [Txt.slice x (some st) (some o)]) := by unfold stStep; rw [if_pos hch]; simp only [if_neg hne]
            rw [e1] at hstep
            repeat' cell_call
            rw [show ((it.1 : Int) + 1) = ((it.1 + 1 : Nat) : Int) from rfl] at H
            have H := H.prune (L := L) (l' := [(Str.ofString "result", .ref Dr), (Str.ofString "open_pos", .none), (Str.ofString "start", .int ((it.1 + 1 : Nat) : Int) _), (Str.ofString "addr", .str x tx)]) (by tb_rel) (by tb_rel)
            exact ⟨it.1 + 1, none, 0, gst', rows', _, _, hL, H.pick (by tb_rel), by rw [hstep]; exact hP.snoc ⟨_, rfl⟩, by rw [hstep], by rw [hstep]⟩
          · have hne : st = o := by have := hb1; simp at this; exact Int.ofNat.inj this
            have e1 : stStep x (st, some o, res) it = (it.1 + 1, none, res) := by unfold stStep; rw [if_pos hch]; simp only [if_pos hne]
            rw [e1] at hstep
            repeat' cell_call
            rw [show ((it.1 : Int) + 1) = ((it.1 + 1 : Nat) : Int) from rfl] at H
            have H := H.prune (L := L) (l' := [(Str.ofString "result", .ref Dr), (Str.ofString "open_pos", .none), (Str.ofString "start", .int ((it.1 + 1 : Nat) : Int) _), (Str.ofString "addr", .str x tx)]) (by tb_rel) (by tb_rel)
            exact ⟨it.1 + 1, none, 0, gst', rows', _, _, hL, H.pick (by tb_rel), by rw [hstep]; exact hP, by rw [hstep], by rw [hstep]⟩
      · have hif : ¬ ((⟨it.2.toArray⟩ : Str).cps.toList == (⟨#[34]⟩ : Str).cps.toList) = true := by
          intro h; exact hch (by simpa using h)
        have e1 : stStep x (st, op, res) it = (st, op, res) := by unfold stStep; rw [if_neg hch]
        rw [e1] at hstep
        rw [if_neg hif]
        repeat' cell_call
        have H := H.prune (L := L) (l' := [(Str.ofString "result", .ref Dr), (Str.ofString "open_pos", posV op to), (Str.ofString "start", .int (st : Nat) ta), (Str.ofString "addr", .str x tx)]) (by tb_rel) (by tb_rel)
        exact ⟨st, op, to, gst', rows', rvs, ta, hL, H.pick (by tb_rel), by rw [hstep]; exact hP, by rw [hstep], by rw [hstep]⟩
  · have hS : stripS x = x := if_neg h34
    rw [hS] at k
    rw [if_pos (by simp [h34])]
    repeat' cell_call
    exact k _ _ (H.pick (by tb_rel))
end
/-! ### S2 -/
section
theorem pick_of_sub : ∀ {rows led : Led}, Pick led (rows ++ led)
  | [], led => .all
  | _ :: r, led => .skip pick_of_sub
noncomputable def chkL : List (Nat × List Nat) → Int → Bool
  | [], o => o == 0
  | i :: r, o => if i.2 = [40] then chkL r (o + 1) else if i.2 = [41] then (if o - 1 < 0 then false else chkL r (o - 1)) else chkL r o
noncomputable def chkS (x : Str) : Bool := chkL (escL 0 false (stripS x).cps.toList) 0
structure LineOk (x : Str) : Prop where
  len : x.length ≤ 1000
  fin : endE false x.cps.toList = false
  len' : (stripS x).length ≤ 1000
  fin' : endE false (stripS x).cps.toList = false
theorem check_ct {w : World} {A : Around} {n : Nat} {mg mb : Str → Option Value} {s₀ s : Shared} {led : Led} {E : Value → Shared → Prop} {Q : Value → Shared → Prop} (G : GG w mg mb s₀.heap) (hA : AOk A (n + 8)) (H : Inn s₀ led [] s) {x : Str} {tx : Tok} (hx : LineOk x)
    (k : ∀ s', Inn s₀ led [] s' → Q (.bool (chkS x)) s') : wpAny (MM w) A (call (.ref 35) [.str x tx]) Q E s := by
  refine' enter (fd := fdCheck) (rb := [(Str.ofString "addr", .str x tx)]) G hA H ?ho ?hdat ?hcd ?hbody ?hbind ?hcell ?hloc ?h ?hco ?hgen ?hk
  kfm_turns
  clear H; intro L s hA H
  repeat' cell_call
  refine strip_ct G (hA.le (Nat.add_le_add_left (by decide) n : n + 6 ≤ n + 7)) H hx.len hx.fin (fun ty s H => ?_)
  repeat' cell_call
  refine mk_genF [_] G (hA.le (Nat.add_le_add_left (by decide) n : n + 1 ≤ n + 7)) H (fun Dg g gst rows s hL H => ?_)
  replace H : Inn s₀ (_ :: (Dg, gnC g) :: (rows ++ led)) _ s := H
  refine it_gen (g := g) H ?_ (by tb_rel)
  refine for_ix (n := (escL 0 false (stripS x).cps.toList).length) (fun j s => ∃ (o : Int) (gst : GenState) (rows : Led) (ta : Tok), GLive w (A.deeper (callEnv fdCheck L 35)) s₀ (stripS x) g j gst rows ∧
      Inn s₀ ((L, nsC [(Str.ofString "opens", .int o ta)]) :: (Dg, gnC g) :: (rows ++ led)) [(g, gst)] s ∧ chkL ((escL 0 false (stripS x).cps.toList).drop j) o = chkS x) ?turn ?done ?h0
  case h0 => exact ⟨0, gst, rows, _, hL, (H.prune (L := L) (l' := [(Str.ofString "opens", .int 0 _)]) (by tb_rel) (by tb_rel)).pick (by tb_rel), rfl⟩
  case done =>
    clear H; rintro s ⟨o, gst, rows, ta, hL, H, hc⟩
    refine nx_genF_end [_] hL G (hA.le (Nat.add_le_add_left (by decide) n : n + 4 ≤ n + 7)) hx.fin' H rfl (fun s H => ⟨rfl, ?_⟩)
    replace H : Inn s₀ (_ :: led) [] s := H
    repeat' cell_call
    rw [List.drop_length] at hc
    have := k _ (H.pick (by tb_rel))
    rw [← hc] at this
    exact this
  case turn =>
    clear H; rintro j s hj ⟨o, gst, rows, ta, hL, H, hc⟩
    intro Rq hRq
    refine nx_genF [_] hL G (hA.le (Nat.add_le_add_left (by decide) n : n + 4 ≤ n + 7)) hx.fin' H (List.getElem?_eq_getElem hj) (fun T t1 t2 gst' rows' s hL H => ?_)
    replace H : Inn s₀ (_ :: _ :: (Dg, gnC g) :: (rows' ++ led)) _ s := H
    refine go_gen (g := g) H ?_ (by tb_rel)
    rw [List.drop_eq_getElem_cons hj] at hc
    generalize (escL 0 false (stripS x).cps.toList)[j] = it at H hc ⊢
    rw [show chkL (it :: (escL 0 false (stripS x).cps.toList).drop (j + 1)) o = if it.2 = [40] then chkL ((escL 0 false (stripS x).cps.toList).drop (j + 1)) (o + 1) else if it.2 = [41] then (if o - 1 < 0 then false else chkL ((escL 0 false (stripS x).cps.toList).drop (j + 1)) (o - 1)) else chkL ((escL 0 false (stripS x).cps.toList).drop (j + 1)) o from rfl] at hc
    repeat' cell_call
    by_cases h40 : it.2 = [40]
    · rw [if_pos h40] at hc
      rw [if_pos (by rw [h40]; decide +kernel)]
      repeat' cell_call
      exact ⟨_, gst', rows', _, hL, (H.prune (L := L) (l' := [(Str.ofString "opens", .int (o + 1) _)]) (by tb_rel) (by tb_rel)).pick (by tb_rel), hc⟩
    · rw [if_neg h40] at hc
      rw [if_neg (by rw [show (Str.ofString "(").cps.toList = [40] from by decide +kernel]; simpa using h40)]
      repeat' cell_call
      by_cases h41 : it.2 = [41]
      · rw [if_pos h41] at hc
        rw [if_pos (by rw [h41]; decide +kernel)]
        repeat' cell_call
        refine PyProof.Rows.split_bool (fun hb1 => ?_) (fun hb1 => ?_)
        · rw [if_pos (of_decide_eq_true hb1)] at hc
          repeat' cell_call
          have := k _ (H.noGens.pick (show Pick led (_ :: _ :: _ :: (rows' ++ led)) from .skip (.skip (.skip (pick_of_sub)))))
          rw [← hc] at this
          exact this
        · rw [if_neg (of_decide_eq_false hb1)] at hc
          repeat' cell_call
          exact ⟨_, gst', rows', _, hL, (H.prune (L := L) (l' := [(Str.ofString "opens", .int (o - 1) _)]) (by tb_rel) (by tb_rel)).pick (by tb_rel), hc⟩
      · rw [if_neg h41] at hc
        rw [if_neg (by rw [show (Str.ofString ")").cps.toList = [41] from by decide +kernel]; simpa using h41)]
        repeat' cell_call
        exact ⟨o, gst', rows', _, hL, (H.prune (L := L) (l' := [(Str.ofString "opens", .int o _)]) (by tb_rel) (by tb_rel)).pick (by tb_rel), hc⟩
end
/-! ### S3 -/
section
noncomputable def badS : Str := Str.ofString "('', '')"
noncomputable def keptS (x : Str) : Str := if chkS x = true then x else badS
theorem pre_ct {w : World} {A : Around} {n : Nat} {mg mb : Str → Option Value} {s₀ s : Shared} {led : Led} {E : Value → Shared → Prop} {Q : Value → Shared → Prop} (G : GG w mg mb s₀.heap) (hA : AOk A (n + 10)) (H : Inn s₀ led [] s) {la : Addr} {vs : List Value} {xs : List Str} (r : Row la (lstC vs) led) (hxs : Paired isS xs vs) (hn : vs.length ≤ 100)
    (hx : ∀ x ∈ xs, LineOk x) (k : ∀ D ys s', Paired isS (xs.map keptS) ys → Inn s₀ ((D, lstC ys) :: led) [] s' → Q (.ref D) s') : wpAny (MM w) A (call (.ref 42) [.ref la]) Q E s := by
  refine' enter (fd := fdPre) (rb := [(Str.ofString "email_header_fields", .ref la)]) G hA H ?ho ?hdat ?hcd ?hbody ?hbind ?hcell ?hloc ?h ?hco ?hgen ?hk
  kfm_turns
  clear H; intro L s hA H
  cell_call
  cell_call
  cell_call
  cell_call
  refine n_list H (fun Dr s H => ?_) (Nat.zero_le _)
  repeat' cell_call
  refine for_ix (n := vs.length) (fun j s => ∃ ys, Inn s₀ ((L, nsC [(Str.ofString "accepted_values", .ref Dr)]) :: (Dr, lstC ys) :: (D, liC la j) :: led) [] s ∧ Paired isS ((xs.take j).map keptS) ys) ?turn ?done ?h0
  case h0 => exact ⟨[], (H.prune (L := L) (l' := [(Str.ofString "accepted_values", .ref Dr)]) (by tb_rel) (by tb_rel)).pick (by tb_rel), .nil⟩
  case done =>
    clear H; rintro s ⟨ys, H, hP⟩
    refine nx_list_end H hA (fun s H => ⟨rfl, ?_⟩) (by tb_rel) (by tb_rel) (Nat.le_refl _)
    repeat' cell_call
    rw [← hxs.length, List.take_length] at hP
    exact k Dr ys s hP (H.pick (by tb_rel))
  case turn =>
    clear H; rintro j s hj ⟨ys, H, hP⟩
    intro Rq hRq
    obtain ⟨x, hjx, t, hv⟩ := paired_get hxs (List.getElem?_eq_getElem hj)
    have hys : ys.length ≤ sizeLine := by
      rw [← hP.length, List.length_map, List.length_take]
      have e1 := hxs.length
      exact Nat.le_trans (show min j xs.length ≤ 100 by omega) (by decide)
    have htake : xs.take (j + 1) = xs.take j ++ [x] := by
      obtain ⟨h1, h2⟩ := List.getElem?_eq_some_iff.mp hjx
      rw [List.take_succ_eq_append_getElem h1, h2]
    obtain ⟨J, rfl⟩ : ∃ J, J = D := ⟨_, rfl⟩
    refine nx_list H (fun s H => ?_) (by tb_rel) (by tb_rel) ((List.getElem?_eq_getElem hj).trans (congrArg some hv))
    refine go_name ?_
    repeat' cell_call
    refine check_ct G (hA.le (Nat.add_le_add_left (by decide) n : n + 8 ≤ n + 9)) H (hx x (List.mem_of_getElem? hjx)) (fun s H => ?_)
    cases hc : chkS x with
    | true =>
      have hkx : keptS x = x := if_pos hc
      repeat' cell_call
      have H := H.prune (L := L) (l' := [(Str.ofString "accepted_values", .ref Dr)]) (by tb_rel) (by tb_rel)
      exact ⟨_, H.pick (by tb_rel), by rw [htake, List.map_append]; exact hP.snoc ⟨_, by rw [hkx]⟩⟩
    | false =>
      have hkx : keptS x = badS := if_neg (by rw [hc]; decide)
      repeat' cell_call
      have H := H.prune (L := L) (l' := [(Str.ofString "accepted_values", .ref Dr)]) (by tb_rel) (by tb_rel)
      exact ⟨_, H.pick (by tb_rel), by rw [htake, List.map_append]; exact hP.snoc ⟨_, by rw [hkx]; rfl⟩⟩
end
/-! ### M1 -/
section
variable {w : World} {A : Around} {E : Value → Shared → Prop} {s₀ s : Shared} {led led' : Led} {gs : GL} {env : Env} {n : Nat} {t u : Tok}
theorem setLast {l : Addr} {vs : List Value} {a b : Value} {Q : Unit → Shared → Prop} (H : Inn s₀ led gs s) (k : ∀ s', Inn s₀ led' gs s' → Q () s') (up : Upd l (lstC (vs ++ [a])) (lstC (vs ++ [b])) led led') : wpAny (MM w) A (setItem (.ref l) (.int (-1) t) b) Q E s := by
  obtain ⟨ne, ho⟩ := (H.has up.mem).pln
  have hl : s.heap.IsList l (vs ++ [a]).toArray := ⟨_, ho, rfl, ne, rfl⟩
  unfold setItem
  try with_reducible refine wpAny_holding ?_
  first | refine wpAny_bind (wpAny_pure ?_) | skip
  refine wpAny_bind (wpAny_sequenceKey hl.typeIs (by decide) ?_)
  refine wpAny_bind (wpAny_callSpecial?_slot (name := Str.ofString "__setitem__") hl.typeIs slot_list_setitem
    (wpAny_call_entry slot_list_setitem hl.typeIs entry_list_setitem ?_ (args_list_setitem _ _ _)))
  show wpAny _ _ (Builtin.List.listSubscript? (.int (-1) t) >>= _) _ _ s
  refine wpAny_bind (wpAny_listSubscript_int (fitsIndex_neg (by decide) (by decide)) ?_)
  have hsz : (vs ++ [a]).toArray.size = vs.length + 1 := by simp
  have hidx : seqIndex? (-1) (vs ++ [a]).toArray.size = some vs.length := by
    rw [seqIndex_neg (by decide) (by rw [hsz]; omega), hsz]
    congr 1; omega
  have hx : (vs ++ [a]).toArray[vs.length]? = some a := by simp
  show wpAny _ _ ((Builtin.List.listItems (.ref l) >>= fun xs => pure ((seqIndex? (-1) xs.size).bind fun i => xs[i]?.map (i, ·))) >>= _) _ _ s
  refine wpAny_bind (wpAny_bind ?_)
  show wpAny _ _ (seqItems? (.ref l) >>= _) _ _ s
  refine wpAny_bind (wpAny_seqItems ho rfl (wpAny_pure (wpAny_pure ?_)))
  rw [hidx]
  simp only [Option.bind_some, hx, Option.map_some]
  have hset : (vs ++ [a]).toArray.setIfInBounds vs.length b = (vs ++ [b]).toArray := by
    apply Array.toList_inj.mp
    simp
  have hfin : (s.heap.update l (Obj.mapSeq (·.setIfInBounds vs.length b))).PlainList l (vs ++ [b]).toArray := by
    rw [← hset]
    exact ⟨_, Heap.get?_update_self _ ho (Obj.isFreed_of_seq (xs := (vs ++ [a]).toArray.setIfInBounds vs.length b) rfl)⟩
  have fin := k { s with heap := s.heap.update l (Obj.mapSeq (·.setIfInBounds vs.length b)) } (H.upd up (fun b' o hb e => ((Heap.SameBut.update ..).2 b' hb).trans e) (.of_lst hfin))
  show wpAny _ _ (setSeqItemAt l vs.length b >>= _) _ _ s
  refine wpAny_bind (wpAny_setSeqItemAt ho rfl ?_)
  first
    | exact wpAny_bind (wpAny_pure (wpAny_pure ⟨.none, rfl, wpAny_pure fin⟩))
    | exact wpAny_pure ⟨.none, rfl, wpAny_pure fin⟩
theorem chr_le {c : Nat} (h : c ≤ 1000) : (decide ((c : Int) < 0) || decide ((c : Int) > 0x10FFFF)) = false := by
  rw [decide_eq_false (Int.not_lt.mpr (Int.natCast_nonneg _)), decide_eq_false (p := (c : Int) > 0x10FFFF) (Int.not_lt.mpr (Int.le_trans (Int.ofNat_le.mpr h) (by decide)))]; rfl
theorem minus_one (n : Nat) : (-1 : Int) + ((n + 1 : Nat) : Int) = n := by omega
theorem getLast {l : Addr} {vs : List Value} {v : Value} {Q : Value → Shared → Prop} (H : Inn s₀ led gs s) (k : Q v s) (r : Row l (lstC (vs ++ [v])) led) : wpAny (MM w) A (getItem (.ref l) (.int (-1) t)) Q E s :=
  wpAny_getItem_list_neg (H.has r.mem).lst (by decide) (by simp; omega) (by decide) (by
    have : (-1 + ((vs ++ [v]).toArray.size : Int)).toNat = vs.length := by
      rw [List.size_toArray, List.length_append]
      show (-1 + ((vs.length + 1 : Nat) : Int)).toNat = _
      rw [minus_one, Int.toNat_natCast]
    rw [this]; simp) k
theorem sb_last {l : Addr} {vs : List Value} {v : Value} {value slice : Expr} {Q : Value → Shared → Prop} (H : Inn s₀ led gs s) (k : Q v s) (r : Row l (lstC (vs ++ [v])) led) (hs : subscripted slice false (.ref l) (.int (-1) u) = operate [.ref l, .int (-1) u] (getItem (.ref l) (.int (-1) u))) : wpAny (MM w) A (subscriptTail value slice (.ref l) (.int (-1) u)) Q E s :=
  tail_any (H.has r.mem).lst.typeIs PySem.F.slot_list_getitem.lookup (getLast H k r) hs
theorem i_neg {i : Int} {Q : Value → Shared → Prop} (H : Inn s₀ led gs s) (k : ∀ t s', Inn s₀ led gs s' → Q (.int (-i) t) s') : wpAny (MM w) A (unaryOp .USub (.int i t)) Q E s := P.neg_int (k _ _ (H.tok _))
theorem c_chr {i : Int} {Q : Value → Shared → Prop} (H : Inn s₀ led gs s) (k : ∀ t s', Inn s₀ led gs s' → Q (.str ⟨#[i.toNat]⟩ t) s') (hi : (decide (i < 0) || decide (i > 0x10FFFF)) = false) : wpAny (MM w) A (call (.builtin "chr") [.int i t]) Q E s := P.chr_of_int hi (k _ _ (H.tok _))
theorem c_isi_int {i : Int} {Q : Value → Shared → Prop} (H : Inn s₀ led gs s) (k : ∀ s', Inn s₀ led gs s' → Q (.bool false) s') : wpAny (MM w) A (call (.builtin "isinstance") [.int i t, .type "str"]) Q E s := IsiPair.int_str (k _ (H.tok _))
theorem c_isi_str {x : Str} {Q : Value → Shared → Prop} (k : Q (.bool true) s) : wpAny (MM w) A (call (.builtin "isinstance") [.str x t, .type "str"]) Q E s := IsiPair.str_str k
theorem t_list {l : Addr} {vs : List Value} {Q : Bool → Shared → Prop} (H : Inn s₀ led gs s) (k : ∀ s', Inn s₀ led gs s' → Q (!vs.isEmpty) s') (r : Row l (lstC vs) led) (hz : vs.length ≤ sizeLine) : wpAny (MM w) A (truthy (.ref l)) Q E s := by
  refine wpAny_truthy_list (H.has r.mem).lst (by have : sizeLine = 2 ^ 24 := rfl; simp; omega) ?_
  have := k { s with toks := s.toks + 1 + 1 } (H.tok _)
  simpa using this
end
theorem lay_M1_1 : True := by
  k_with "cell_call.M1.1" => (first
  | ((with_reducible show wpAny _ _ (PySem.call _ _) _ _ _); first
    | ((with_reducible refine' c_isi_int ?kqlfA1 ?_); (case kqlfA1 => with_reducible assumption); fold_lay)
    | (with_reducible refine c_isi_str ?_)
    | ((with_reducible refine' c_chr ?kqlfA1 ?_ ?kqlfr); (case kqlfA1 => with_reducible assumption); (case kqlfr => with_reducible assumption); fold_depth))
  | ((with_reducible refine' t_list ?kqlfA1 ?_ ?kqlfr ?kqlfz); (case kqlfA1 => with_reducible assumption); (case kqlfr => tb_rel); (case kqlfz => with_reducible assumption); fold_lay)
  | ((with_reducible refine' sb_last ?kqlfA1 ?_ ?kqlfr ?kqlfs); (case kqlfA1 => with_reducible assumption); (case kqlfr => tb_rel); (case kqlfs => with_unfolding_all rfl))
  | ((with_reducible refine' i_neg ?kqlfA1 ?_); (case kqlfA1 => with_reducible assumption); fold_depth)
  | ((with_reducible refine' PyProof.Rows.wpAny_AugAssign_Subscript_any ?_ ?kqlfa); (case kqlfa => intro _ _ _; rfl))
  | ((with_reducible refine' getLast ?kqlfA1 ?_ ?kqlfr); (case kqlfA1 => with_reducible assumption); (case kqlfr => tb_rel))
  | fail "-")
  exact True.intro
local macro_rules | `(tactic| cell_call) => `(tactic| k_extra "cell_call.M1.1")
theorem Row.upd {a : Addr} {c : Cell} {led : Led} (r : Row a c led) (c' : Cell) : ∃ led', Upd a c c' led led' := by
  induction r with
  | head => exact ⟨_, .head⟩
  | tail _ ih => obtain ⟨l, h⟩ := ih; exact ⟨_, .tail h⟩
theorem paired_snoc_inv {α β : Type} {F : α → β → Prop} {as : List α} {a : α} : ∀ {vs : List β}, Paired F (as ++ [a]) vs → ∃ ws b, vs = ws ++ [b] ∧ F a b ∧ Paired F as ws := by
  induction as with
  | nil => intro vs p; cases p with
    | cons h t => cases t; exact ⟨[], _, rfl, h, .nil⟩
  | cons x as ih => intro vs p; cases p with
    | cons h t =>
      obtain ⟨ws, b, e, h1, h2⟩ := ih t
      exact ⟨_ :: ws, b, by rw [e]; rfl, h1, .cons h h2⟩
/-- _max_append's rule, the limit 3 -/
noncomputable def maxA (rows : List Str) (x : Str) : List Str :=
  match rows.reverse with
  | [] => [Txt.lstrip x]
  | y :: r => if y.length + x.length ≤ 3 then r.reverse ++ [y ++ x] else rows ++ [Txt.lstrip x]
theorem empty_app (x : Str) : Str.ofString "" ++ x = x := app_nil_l (by decide +kernel)
theorem max_ct {w : World} {A : Around} {n : Nat} {mg mb : Str → Option Value} {s₀ s : Shared} {led led' : Led} {gs : GL} {E : Value → Shared → Prop} {Q : Value → Shared → Prop} (G : GG w mg mb s₀.heap) (hA : AOk A (n + 4)) (H : Inn s₀ led gs s) {lr : Addr} {vs : List Value} {rows : List Str} {v : Value} {x : Str} {tm : Tok}
    (hrows : Paired isS rows vs) (hn : rows.length ≤ 1000) (hl : ∀ y ∈ rows, y.length ≤ 1000) (hx : x.length ≤ 1000)
    (hv : (∃ t, v = .str x t) ∨ (∃ (c : Nat) (t : Tok), v = .int c t ∧ x = ⟨#[c]⟩ ∧ c ≤ 1000)) (rr : Row lr (lstC vs) led)
    (k : ∀ vs' led' s', Upd lr (lstC vs) (lstC vs') led led' → Paired isS (maxA rows x) vs' → Inn s₀ led' gs s' → Q .none s') :
    wpAny (MM w) A (call (.ref 64) [.ref lr, v, .int 3 tm]) Q E s := by
  refine' enter (fd := fdMax) (rb := [(Str.ofString "extra", .str (Str.ofString "") 273), (Str.ofString "maxlen", .int 3 tm), (Str.ofString "s", v), (Str.ofString "L", .ref lr)]) G hA H ?ho ?hdat ?hcd ?hbody ?hbind ?hcell ?hloc ?h ?hco ?hgen ?hk
  case ho => rfl
  case hdat => rfl
  case hcd => kernel_rfl!
  case hbody => rfl
  case hbind => exact BindsTo.of_defaults rfl ((H.gg G).k 57 _ rfl) rfl rfl rfl
  case hcell => decide +kernel
  case hloc => kernel_rfl!
  case hco => rfl
  case hgen => rfl
  case hk => rfl
  clear H; intro L s hA H
  have hz : (Str.ofString "").length + x.length ≤ sizeLine := by rw [show (Str.ofString "").length = 0 from by decide +kernel]; exact Nat.le_trans (Nat.le_trans (Nat.le_of_eq (Nat.zero_add _)) hx) (by decide)
  have hxs : x.length ≤ sizeLine := Nat.le_trans hx (by decide)
  have hvs : vs.length ≤ sizeLine := by rw [← hrows.length]; exact Nat.le_trans hn (by decide)
  refine wpAny_execs_cons ?_
  refine wpAny_mono (Q := fun f s' => f = .next ∧ ∃ t', Inn s₀ ((L, nsC [(Str.ofString "extra", .str (Str.ofString "") 273), (Str.ofString "maxlen", .int 3 tm), (Str.ofString "s", .str x t'), (Str.ofString "L", .ref lr)]) :: led) gs s') (E := fun _ _ => False) ?_ (fun f s h => ?_) (fun _ _ f => f)
  · rcases hv with ⟨t', rfl⟩ | ⟨c, t', rfl, rfl, hc⟩
    · repeat' cell_call
      exact ⟨rfl, t', H⟩
    · have hcr : (decide ((c : Int) < 0) || decide ((c : Int) > 0x10FFFF)) = false := chr_le hc
      repeat' cell_call
      rw [Int.toNat_natCast] at H
      exact ⟨rfl, _, (H.prune (L := L) (l' := [(Str.ofString "extra", .str (Str.ofString "") 273), (Str.ofString "maxlen", .int 3 tm), (Str.ofString "s", .str ⟨#[c]⟩ _), (Str.ofString "L", .ref lr)]) (by tb_rel) (by tb_rel)).pick (by tb_rel)⟩
  clear H; obtain ⟨rfl, t', H⟩ := h
  repeat' cell_call
  rcases List.eq_nil_or_concat rows with rfl | ⟨r0, y, rfl⟩
  · cases hrows
    rw [if_pos (show (!!([] : List Value).isEmpty) = true from rfl)]
    repeat' cell_call
    obtain ⟨led1, hu⟩ := rr.upd (lstC ([] ++ [.str (Txt.lstrip x) _]))
    refine c_append H (fun s H => ?_) (.tail hu) (Nat.zero_le _)
    repeat' cell_call
    exact k _ _ _ hu (.cons ⟨_, rfl⟩ .nil) (H.pick (.skip .all))
  · rw [List.concat_eq_append] at *
    obtain ⟨ws, vy, rfl, ⟨ty, rfl⟩, hws⟩ := paired_snoc_inv hrows
    rw [if_neg (by simp)]
    have hys : y.length ≤ sizeLine := Nat.le_trans (hl y (by simp)) (by decide)
    have hrev : (r0 ++ [y]).reverse = y :: r0.reverse := by simp
    have hmax : maxA (r0 ++ [y]) x = if y.length + x.length ≤ 3 then r0 ++ [y ++ x] else (r0 ++ [y]) ++ [Txt.lstrip x] := by unfold maxA; rw [hrev]; simp only [List.reverse_reverse]
    repeat' cell_call
    refine PyProof.Rows.split_bool (fun hb => ?_) (fun hb => ?_)
    · have hle : y.length + x.length ≤ 3 := Int.ofNat_le.mp (of_decide_eq_true hb)
      rw [hmax, if_pos hle] at k
      repeat' cell_call
      rw [empty_app]
      refine s_iadd H (fun tn s H => ?_) (Nat.le_trans hle (by decide))
      obtain ⟨led1, hu⟩ := rr.upd (lstC (ws ++ [.str (y ++ x) tn]))
      refine setLast H (fun s H => ?_) (.tail hu)
      repeat' cell_call
      exact k _ _ _ hu (hws.snoc ⟨_, rfl⟩) (H.pick (.skip .all))
    · have hle : ¬ y.length + x.length ≤ 3 := fun h => of_decide_eq_false hb (Int.ofNat_le.mpr h)
      rw [hmax, if_neg hle] at k
      repeat' cell_call
      obtain ⟨led1, hu⟩ := rr.upd (lstC ((ws ++ [.str y ty]) ++ [.str (Txt.lstrip x) _]))
      refine c_append H (fun s H => ?_) (.tail hu) hvs
      repeat' cell_call
      exact k _ _ _ hu (hrows.snoc ⟨_, rfl⟩) (H.pick (.skip .all))
/-! ### M2 -/
section
/-! ### map -/
theorem mro_map : mroOf (.type "map") = pure [.type "map", .type "object"] := by rw [mroOf_type]; kernel_rfl
theorem lookup_map_new : typeLookup (.type "map") "__new__" = pure (some (.builtin "map.__new__")) := by rw [typeLookup_type, builtinLookup_eq_fast]; kernel_rfl
theorem slot_map_init : Slot "map" "__init__" "object.__init__" :=
  .of (owner := "object") (n := "__init__") (by rw [typeLookup_type, builtinLookup_eq_fast]; kernel_rfl) (by decide +kernel) (by decide +kernel) (by decide +kernel)
    (by first | exact .inl (by decide +kernel) | exact .inr (by decide +kernel)) (by rw [isSubtype_type]; kernel_rfl)
theorem slot_map_iter : Slot "map" "__iter__" "map.__iter__" :=
  .of (owner := "map") (n := "__iter__") (by rw [typeLookup_type, builtinLookup_eq_fast]; kernel_rfl) (by decide +kernel) (by decide +kernel) (by decide +kernel)
    (by first | exact .inl (by decide +kernel) | exact .inr (by decide +kernel)) (by rw [isSubtype_type]; kernel_rfl)
theorem slot_map_next : Slot "map" "__next__" "map.__next__" :=
  .of (owner := "map") (n := "__next__") (by rw [typeLookup_type, builtinLookup_eq_fast]; kernel_rfl) (by decide +kernel) (by decide +kernel) (by decide +kernel)
    (by first | exact .inl (by decide +kernel) | exact .inr (by decide +kernel)) (by rw [isSubtype_type]; kernel_rfl)
theorem called_map : TypeCalled "map" "map.__new__" "object.__init__" :=
  ⟨by decide +kernel, by decide +kernel, ⟨_, _, mro_map⟩, madeBy_type mro_map lookup_map_new (by decide +kernel), by decide +kernel, by rw [isSubtype_type]; kernel_rfl, slot_map_init⟩
theorem typeCall_map_2 (a b : Value) : checkTypeCall "map" ⟨[a, b], []⟩ = pure () := by kernel_rfl
theorem newCall_map_2 (a b : Value) : checkBuiltinCall "map.__new__" ⟨[.type "map", a, b], []⟩ = pure () := by kernel_rfl
theorem entry_map_new : entryFor table "map.__new__" = some Builtin.«map.__new__» := entryFor_of_tree (by kernel_rfl)
theorem entry_map_next : entryFor table "map.__next__" = some Builtin.«map.__next__» := entryFor_of_tree (by kernel_rfl)
theorem entry_map_iter : entryFor table "map.__iter__" = some Builtin.«dict_keyiterator.__iter__» :=
  entryFor_alias (id' := "dict_keyiterator.__iter__") (by rw [fastTable_eq_tree]; kernel_rfl) (by first | rfl | decide +kernel | (unfold String.splitOn; simp +decide [String.splitOnAux])) (by decide +kernel) (by rw [fastTable_eq_tree]; kernel_rfl)
theorem args_map_next_1 (a : Value) : argsOk "map.__next__" ⟨[a], []⟩ := by unfold argsOk; kernel_rfl
theorem args_map_iter_1 (a : Value) : argsOk "map.__iter__" ⟨[a], []⟩ := by unfold argsOk; kernel_rfl
theorem sub_map : isSubtype (.type "map") (.type "map") = pure true := by rw [isSubtype_type]; kernel_rfl
theorem map_no_len : typeLookup (.type "map") "__len__" = pure none := by rw [typeLookup_type, builtinLookup_eq_fast]; kernel_rfl
theorem map_no_hint : typeLookup (.type "map") "__length_hint__" = pure none := by rw [typeLookup_type, builtinLookup_eq_fast]; kernel_rfl

noncomputable abbrev mapO (T : Addr) : Obj := { cls := .type "map", dict := none, data := .fields #[.ref T, .builtin "str.capitalize"], slots := #[] }
structure MapAt (h : Heap) (D T I l : Addr) (i : Nat) (xs : Array Value) : Prop where
  d : h.get? D = some (mapO T)
  t : h.get? T = some { cls := .type "tuple", data := .seq #[.ref I] }
  i : h.IsListIter I l i
  l : h.IsList l xs
noncomputable abbrev mapH1 (h : Heap) (l : Addr) : Heap := h.push { cls := .type "list_iterator", data := .fields #[.ref l, .int 0 0] }
noncomputable abbrev mapH2 (h : Heap) (l : Addr) : Heap := (mapH1 h l).push { cls := .type "tuple", data := .seq #[.ref h.objs.size] }
noncomputable abbrev mapH3 (h : Heap) (l : Addr) : Heap := (mapH2 h l).push (mapO (mapH1 h l).objs.size)
theorem meets_map_new (l : Addr) (xs : Array Value) :
    Meets (Builtin.«map.__new__» ⟨[.type "map", .builtin "str.capitalize", .ref l], []⟩) (fun _ R s => s.heap.IsList l xs ∧
      R (.ok (.ret (.ref (mapH2 s.heap l).objs.size))) { s with heap := mapH3 s.heap l }) :=
  .of_wp fun prog w A R s h => by
    obtain ⟨hp, g, d, tk, os⟩ := s; obtain ⟨hl1, h⟩ := h
    have hsub := sub_map
    have hL1 : Heap.IsList (Shared.heap ⟨hp, g, d, tk, os⟩) l xs := hl1
    wp_walk using wpAny_pyIter_list hL1
    exact ⟨_, rfl, h⟩
section
variable {prog : Program} {w : World} {A : Around} {E : Value → Shared → Prop} {s : Shared}
theorem call_map {l : Addr} {xs : Array Value} {Q : Value → Shared → Prop} (hl : s.heap.IsList l xs)
    (h : ∀ h', MapAt h' (s.heap.objs.size + 2) (s.heap.objs.size + 1) s.heap.objs.size l 0 xs → h'.objs.size = s.heap.objs.size + 3 → (∀ c o, s.heap.get? c = some o → h'.get? c = some o) → Q (.ref (s.heap.objs.size + 2)) { s with heap := h' }) :
    wpAny (model prog w) A (call (.type "map") [.builtin "str.capitalize", .ref l]) Q E s := by
  refine callType_new called_map (by decide) (typeCall_map_2 _ _) (newCall_map_2 _ _) (fun obj => F.args_object_init_3 obj _ _) entry_map_new (meets_map_new l xs) ⟨hl, ?_⟩
  have z1 : (mapH1 s.heap l).objs.size = s.heap.objs.size + 1 := Heap.size_push ..
  have z2 : (mapH2 s.heap l).objs.size = s.heap.objs.size + 2 := by rw [Heap.size_push, z1]
  have z3 : (mapH3 s.heap l).objs.size = s.heap.objs.size + 3 := by rw [Heap.size_push, z2]
  have g3 : (mapH3 s.heap l).get? (mapH2 s.heap l).objs.size = some _ := Heap.get?_push_size _ rfl
  have g2 : (mapH3 s.heap l).get? (mapH1 s.heap l).objs.size = some _ := Heap.get?_push_of_some _ (Heap.get?_push_size _ rfl)
  have g1 : (mapH3 s.heap l).get? s.heap.objs.size = some _ := Heap.get?_push_of_some _ (Heap.get?_push_of_some _ (Heap.get?_push_size _ rfl))
  have g0 : ∀ c o, s.heap.get? c = some o → (mapH3 s.heap l).get? c = some o := fun c o x => Heap.get?_push_of_some _ (Heap.get?_push_of_some _ (Heap.get?_push_of_some _ x))
  show _ ∧ _
  rw [z2, z1] at g3
  rw [z1] at g2
  rw [z2]
  exact ⟨⟨_, g3, rfl⟩, h _ ⟨g3, g2, ⟨_, g1, rfl, rfl⟩, hl.at fun o e => g0 _ o e⟩ z3 g0⟩
theorem map_next {D T I l : Addr} {i : Nat} {xs : Array Value} {y : Str} {t : Tok} {Q : Value → Shared → Prop} (hD : D ≠ I) (M : MapAt s.heap D T I l i xs) (hx : xs[i]? = some (.str y t)) (hy : y.length ≤ 5592405)
    (k : ∀ t' h' tk, h'.IsListIter I l (i + 1) → Heap.SameBut I s.heap h' → Q (.str (Txt.capitalize y) t') { s with heap := h', toks := tk }) :
    wpAny (model prog w) A (Builtin.«map.__next__» ⟨[.ref D], []⟩) (fun fin s' => ∃ v, fin = .done (.ret v) ∧ Q v s') E s := by
  show wpAny _ _ (field (.ref D) 0 >>= _) _ _ _
  refine wpAny_bind (wpAny_field M.d rfl (x := .ref T) rfl ?_)
  refine wpAny_bind (wpAny_seqItems M.t rfl ?_)
  refine wpAny_bind ?_
  simp only [List.forIn_toArray, List.forIn_cons, List.forIn_nil]
  refine wpAny_bind (wpAny_bind (wpAny_holding ?_))
  refine wpAny_nextOf_list_item M.i M.l hx fun h1 hi1 hs1 => wpAny_pure (wpAny_pure ?_)
  refine wpAny_bind (wpAny_field (hs1.extBut _ _ hD M.d) rfl (x := .builtin "str.capitalize") rfl ?_)
  refine wpAny_bind (wpAny_holding (SCL.capitalize hy fun _ t' tk => ?_))
  refine wpAny_bind (wpAny_letGo (wpAny_pure ⟨_, rfl, k _ _ _ hi1 hs1⟩))
theorem Walks_map (hh : A.handled = none) {D T I l : Addr} {xs : Array Value} (hD : D ≠ I) (hT : T ≠ I) (hl : l ≠ I) (hs : ∀ (i : Nat) (v : Value), xs[i]? = some v → ∃ y t, v = Value.str y t ∧ y.length ≤ 5592405) :
    Walks prog w A D [D, T, I, l] [I] xs.size (fun i v => ∃ y t t', xs[i]? = some (Value.str y t) ∧ v = Value.str (Txt.capitalize y) t') (fun i h => MapAt h D T I l i xs) where
  sub := fun b hb => by simp at hb; simp [hb]
  frame := fun i h h' M hk => ⟨hk _ (by simp) _ M.d, hk _ (by simp) _ M.t, M.i.at fun o e => hk _ (by simp) o e, M.l.at fun o e => hk _ (by simp) o e⟩
  item := fun i s Q E hi M hQ => by
    obtain ⟨y, t, e, hy⟩ := hs i _ (Array.getElem?_eq_getElem hi)
    have hTy : s.TypeIs (.ref D) "map" := ⟨_, M.d, rfl⟩
    unfold pyNext
    refine wpAny_bind (wpAny_attempt (wpAny_callSpecial?_slot (name := Str.ofString "__next__") hTy slot_map_next (wpAny_call_entry slot_map_next hTy entry_map_next ?_ (args_map_next_1 _))))
    refine map_next hD M ((Array.getElem?_eq_getElem hi).trans (congrArg some e)) hy fun t' h' tk h1 h2 => wpAny_pure (hQ _ h' tk ⟨_, _, _, (Array.getElem?_eq_getElem hi).trans (congrArg some e), rfl⟩ ?_ fun b o hb x => h2.extBut _ _ (fun e => hb (by simp [e])) x)
    exact ⟨h2.extBut _ _ hD M.d, h2.extBut _ _ hT M.t, h1, M.l.extBut h2.extBut hl⟩
  done := fun s Q E M hQ => by
    have hTy : s.TypeIs (.ref D) "map" := ⟨_, M.d, rfl⟩
    unfold pyNext
    refine wpAny_bind (wpAny_attempt (wpAny_callSpecial?_slot (name := Str.ofString "__next__") hTy slot_map_next (wpAny_call_entry slot_map_next hTy entry_map_next ?_ (args_map_next_1 _))))
    show wpAny _ _ (field (.ref D) 0 >>= _) _ _ _
    refine wpAny_bind (wpAny_field M.d rfl (x := .ref T) rfl ?_)
    refine wpAny_bind (wpAny_seqItems M.t rfl ?_)
    refine wpAny_bind ?_
    simp only [List.forIn_toArray, List.forIn_cons, List.forIn_nil]
    refine wpAny_bind (wpAny_bind (wpAny_holding ?_))
    refine wpAny_nextOf_list_end hh M.i M.l (Array.getElem?_eq_none (Nat.le_refl _)) fun h' e hs' he => ?_
    obtain ⟨o, ho, hc⟩ := he
    refine wpAny_bind (wpAny_isInstance (T := "StopIteration") (b := true) ⟨o, ho, hc⟩ isSubtype_stop ?_)
    exact wpAny_pure (hQ _ _ fun b o hb x => hs' _ _ (fun e => hb (by simp [e])) x)
  self := fun i s Q E M hQ => by
    have hTy : s.TypeIs (.ref D) "map" := ⟨_, M.d, rfl⟩
    refine wpAny_pyIter_slot hTy slot_map_iter (wpAny_call_entry slot_map_iter hTy entry_map_iter ?_ (args_map_iter_1 _))
    show wpAny _ _ (ret (.ref D)) _ _ s
    exact wpAny_pure ⟨_, rfl, "map", _, hTy, slot_map_next.lookup, hQ⟩
end

theorem Inn.drop2 {s₀ s s' : Shared} {led led' : Led} {gs : GL} {a b : Addr} {c d : Cell} (H : Inn s₀ led gs s) (u : Pick ((a, c) :: (b, d) :: led') led) (hs : ∀ x o, x ≠ a → x ≠ b → s.heap.get? x = some o → s'.heap.get? x = some o) (ho : s'.os = s.os) (hg : s'.gens = s.gens) : Inn s₀ led' gs s' := by
  have H := H.pick u
  have nd := H.nd
  rw [List.map_cons, List.nodup_cons, List.map_cons, List.nodup_cons] at nd
  have ha := (H.ld _ List.mem_cons_self).2
  have hb := (H.ld _ (List.mem_cons_of_mem _ List.mem_cons_self)).2
  have hne : ∀ p ∈ led', p.1 ≠ a ∧ p.1 ≠ b := fun p hp => ⟨fun e => nd.1 (List.mem_cons_of_mem _ (List.mem_map.mpr ⟨p, hp, e⟩)), fun e => nd.2.1 (List.mem_map.mpr ⟨p, hp, e⟩)⟩
  refine ⟨fun x o e => hs x o (fun q => ?_) (fun q => ?_) (H.keep x o e), fun p hp => ?_, nd.2.2, ho.trans H.os, hg ▸ H.bare, hg ▸ H.gl⟩
  · rw [q] at e; rw [show s₀.heap.get? a = none from ha] at e; cases e
  · rw [q] at e; rw [show s₀.heap.get? b = none from hb] at e; cases e
  · have h := H.ld p (List.mem_cons_of_mem _ (List.mem_cons_of_mem _ hp))
    exact ⟨h.1.keeps fun o e => hs _ o (hne p hp).1 (hne p hp).2 e, h.2⟩
noncomputable def mpC (T : Addr) : Cell := fun o => o = mapO T
noncomputable def mtC (I : Addr) : Cell := fun o => o = { cls := .type "tuple", data := .seq #[.ref I] }
section
variable {w : World} {A : Around} {E : Value → Shared → Prop} {s₀ s : Shared} {led led' : Led} {gs : GL} {n : Nat}
theorem mk_map {l : Addr} {vs : List Value} {Q : Value → Shared → Prop} (H : Inn s₀ led gs s) (k : ∀ D T I s', Inn s₀ ((D, mpC T) :: (T, mtC I) :: (I, liC l 0) :: led) gs s' → Q (.ref D) s') (r : Row l (lstC vs) led) :
    wpAny (MM w) A (call (.type "map") [.builtin "str.capitalize", .ref l]) Q E s :=
  call_map (H.has r.mem).lst fun h' M hz hk => k _ _ _ _ (by
    have none0 : ∀ j, s.heap.objs.size ≤ j → s.heap.get? j = none := fun j hj => get?_none_of_size hj
    have none1 : ∀ j, s.heap.objs.size ≤ j → s₀.heap.get? j = none := fun j hj => by
      cases q : s₀.heap.get? j with
      | none => rfl
      | some o => have := H.keep _ _ q; rw [none0 j hj] at this; cases this
    have g := H.keeps (s' := { s with heap := h' }) hk
    have nm : ∀ j, s.heap.objs.size ≤ j → j ∉ led.map Prod.fst := fun j hj hm => by
      obtain ⟨p, hp, e⟩ := List.mem_map.mp hm
      obtain ⟨o, ho, _⟩ := (H.ld p hp).1
      rw [e, none0 j hj] at ho; cases ho
    obtain ⟨oI, hI, hI1, hI2⟩ := M.i
    refine ⟨g.keep, fun p hp => ?_, ?_, g.os, g.bare, g.gl⟩
    · rcases List.mem_cons.mp hp with rfl | hp
      · exact ⟨⟨_, M.d, rfl⟩, none1 _ (by omega)⟩
      rcases List.mem_cons.mp hp with rfl | hp
      · exact ⟨⟨_, M.t, rfl⟩, none1 _ (by omega)⟩
      rcases List.mem_cons.mp hp with rfl | hp
      · exact ⟨⟨_, hI, hI1, hI2⟩, none1 _ (Nat.le_refl _)⟩
      · exact g.ld p hp
    · rw [List.map_cons, List.nodup_cons, List.map_cons, List.nodup_cons, List.map_cons, List.nodup_cons]
      refine ⟨?_, ?_, nm _ (Nat.le_refl _), g.nd⟩
      · intro hm
        rcases List.mem_cons.mp hm with e | hm
        · have : s.heap.objs.size + 2 = s.heap.objs.size + 1 := e; omega
        rcases List.mem_cons.mp hm with e | hm
        · have : s.heap.objs.size + 2 = s.heap.objs.size := e; omega
        · exact nm _ (by omega) hm
      · intro hm
        rcases List.mem_cons.mp hm with e | hm
        · have : s.heap.objs.size + 1 = s.heap.objs.size := e; omega
        · exact nm _ (by omega) hm)
theorem items_paired {xs : List Str} {vs : List Value} (hp : Paired isS xs vs) : ∀ {acc : Array Value}, ItemsOf (fun i v => ∃ y t t', vs.toArray[i]? = some (Value.str y t) ∧ v = Value.str (Txt.capitalize y) t') acc vs.toArray.size → Paired isS (xs.map Txt.capitalize) acc.toList := by
  intro acc h
  have key : ∀ (xs : List Str) (vs : List Value) (ac : List Value), Paired isS xs vs → ac.length = vs.length → (∀ (i : Nat) (v : Value), ac[i]? = some v → ∃ y t t', vs[i]? = some (Value.str y t) ∧ v = Value.str (Txt.capitalize y) t') → Paired isS (xs.map Txt.capitalize) ac := by
    intro xs vs ac hp
    induction hp generalizing ac with
    | nil => intro hz _; cases ac with
      | nil => exact .nil
      | cons => cases hz
    | cons h t ih =>
      intro hz hv
      cases ac with
      | nil => cases hz
      | cons v ac =>
        obtain ⟨y, t1, t2, e1, e2⟩ := hv 0 v rfl
        obtain ⟨t3, e3⟩ := h
        simp at e1
        rw [e3] at e1; cases e1
        refine .cons ⟨_, e2⟩ (ih ac (by simpa using hz) fun i v e => ?_)
        obtain ⟨y, t1, t2, e1, e2⟩ := hv (i + 1) v (by simpa using e)
        exact ⟨y, t1, t2, by simpa using e1, e2⟩
  exact key xs vs acc.toList hp (by simpa using h.1) fun i v e => by
    obtain ⟨y, t, t', e1, e2⟩ := h.2 i v (by simpa using e)
    exact ⟨y, t, t', by simpa using e1, e2⟩
theorem join_map {D T I l : Addr} {vs : List Value} {xs : List Str} {x : Str} {t : Tok} {Q : Value → Shared → Prop} (H : Inn s₀ led gs s) (hA : AOk A n) (k : ∀ t s', Inn s₀ led' gs s' → Q (.str (Txt.join x (xs.map Txt.capitalize)) t) s')
    (u : Pick ((I, liC l 0) :: led') led) (rD : Row D (mpC T) led') (rT : Row T (mtC I) led') (rl : Row l (lstC vs) led') (hp : Paired isS xs vs) (hs : ∀ y ∈ xs, y.length ≤ 5592405) (hn : vs.length ≤ sizeLine)
    (hz : ((xs.map Txt.capitalize).map (·.length)).sum + (xs.map Txt.capitalize).length * x.length ≤ 16777216) :
    wpAny (MM w) A (call (.builtin "str.join") [.str x t, .ref D]) Q E s := by
  have H := H.pick u
  obtain ⟨oD, hD, rfl⟩ := H.has (List.mem_cons_of_mem _ rD.mem)
  obtain ⟨oT, hT, rfl⟩ := H.has (List.mem_cons_of_mem _ rT.mem)
  have hI : s.heap.IsListIter I l 0 := H.has List.mem_cons_self
  have hl : s.heap.IsList l vs.toArray := (H.has (List.mem_cons_of_mem _ rl.mem)).lst
  have neD : D ≠ I := (H.ne .head rD).symm
  have neT : T ≠ I := (H.ne .head rT).symm
  have nel : l ≠ I := (H.ne .head rl).symm
  have M : MapAt s.heap D T I l 0 vs.toArray := ⟨hD, hT, hI, hl⟩
  have hstr : ∀ (i : Nat) (v : Value), vs.toArray[i]? = some v → ∃ y t, v = Value.str y t ∧ y.length ≤ 5592405 := fun i v e => by
    obtain ⟨y, h1, t, h2⟩ := paired_get hp (show vs[i]? = some v by simpa using e)
    exact ⟨y, t, h2, hs y (List.mem_of_getElem? h1)⟩
  have W := (Walks_map (prog := Challenge.rw_wz0010_01.row.prog) (w := w) (A := A.in1.in1) hA.h neD neT nel hstr).toS
  refine wpAny_call (codeAny_call_builtin F.slot_str_join.plain F.entry_str_join (F.slot_str_join.check _ _ _ _ _ _ _ _ (typeIs_str _ _ _) (F.args_str_join_2 _ _) ?_))
  rw [join_tree_other]
  have hTy : s.TypeIs (.ref D) "map" := ⟨_, hD, rfl⟩
  refine wpAny_bind (wpAny_typeOf hTy ?_)
  show wpAny _ A.in1 ((pyIter (.ref D)).tryCatch _ >>= fun it => collect it >>= fun items => joinTail x items) _ _ s
  refine wpAny_bind (wpAny_tryCatch (W.of_in1.self 0 s _ _ M ?_))
  refine wpAny_bind ?_
  unfold collect
  refine wpAny_bind (wpAny_runValue (codeAny_builtin F.entry_proto_collect ?_))
  rw [Around.under_plainId F.plain_proto_collect _]
  show wpAny _ A.in1.in1 (newList [] >>= fun l => again (.builtin "list.__iadd__" ⟨[l, .ref D], []⟩)) _ _ s
  refine wpAny_bind (wpAny_newObj_type ?_)
  refine wpAny_pure ⟨plainId_quiet F.plain_list_iadd _, codeAny_builtin F.entry_list_iadd ?_⟩
  rw [Around.under_plainId F.plain_list_iadd _]
  have H1 := H.push (show lstC [] { cls := .type "list", data := .seq ([] : List Value).toArray } from ⟨_, rfl⟩) s.toks
  have frame : ∀ (s' : Shared) {r : Led}, Inn s₀ (r ++ (I, liC l 0) :: led') gs s' → s'.heap.IsListIter I l 0 ∧ MapAt s'.heap D T I l 0 vs.toArray := fun s' r H' => by
    obtain ⟨oD, hD, rfl⟩ := H'.has (List.mem_append_right _ (List.mem_cons_of_mem _ rD.mem))
    obtain ⟨oT, hT, rfl⟩ := H'.has (List.mem_append_right _ (List.mem_cons_of_mem _ rT.mem))
    have hI : s'.heap.IsListIter I l 0 := H'.has (List.mem_append_right _ List.mem_cons_self)
    exact ⟨hI, hD, hT, hI, (H'.has (List.mem_append_right _ (List.mem_cons_of_mem _ rl.mem))).lst⟩
  obtain ⟨_, M1⟩ := frame _ (r := [_]) H1
  have hTy1 : Shared.TypeIs _ (.ref D) "map" := ⟨_, M1.d, rfl⟩
  have hSD : s.heap.objs.size ≠ D := Nat.ne_of_gt (Heap.lt_size hD)
  show wpAny _ A.in1.in1 (Builtin.List.listExtendWith (.ref s.heap.objs.size) (.ref D) (.ref s.heap.objs.size)) _ _ _
  unfold Builtin.List.listExtendWith
  refine wpAny_bind (wpAny_typeOf hTy1 ?_)
  have h1 : Builtin.List.listSameRef (.ref s.heap.objs.size) (.ref D) = false := by simp [Builtin.List.listSameRef, hSD]
  have h2 : (Value.type "map" == Value.type "list") = false := by decide
  have h3 : (Value.type "map" == Value.type "tuple") = false := by decide
  simp only [h1, h2, h3, Bool.or_false, Bool.false_eq_true, if_false]
  refine wpAny_bind (W.self 0 _ _ _ M1 ?_)
  refine wpAny_bind (wpAny_holding ?_)
  unfold Builtin.List.listLengthHint
  refine wpAny_bind (wpAny_specialOf hTy1 map_no_len ?_)
  show wpAny _ A.in1.in1 (specialOf (Value.ref D) (Str.ofString "__length_hint__") >>= _) _ _ _
  refine wpAny_bind (wpAny_specialOf hTy1 map_no_hint ?_)
  refine wpAny_pure ?_
  show wpAny _ A.in1.in1 (rule "list.extend.makes-room" >>= fun _ => Builtin.List.listTouch (.ref s.heap.objs.size) >>= fun _ =>
    again (.builtin "list.extend.loop" ⟨[.ref s.heap.objs.size, .ref D, .ref s.heap.objs.size], []⟩)) _ _ _
  refine wpAny_bind (wpAny_rule (wpAny_bind ?_))
  show wpAny _ A.in1.in1 (updateSeq s.heap.objs.size (·.push .none) >>= fun _ => updateSeq s.heap.objs.size (·.pop)) _ _ _
  have hS1 : (s.heap.push { cls := .type "list", data := .seq ([] : List Value).toArray }).get? s.heap.objs.size = some { cls := .type "list", data := .seq ([] : List Value).toArray } := Heap.get?_push_size _ rfl
  refine wpAny_bind (wpAny_updateSeq hS1 rfl ?_)
  have hS2 := Heap.get?_update_self (Obj.mapSeq (·.push Value.none)) hS1 rfl
  have H2 := H1.upd (s' := { s with heap := (s.heap.push { cls := .type "list", data := .seq ([] : List Value).toArray }).update s.heap.objs.size (Obj.mapSeq (·.push Value.none)) }) (c' := fun _ => True) .head (fun b o hb e => (Heap.get?_update_other _ _ (Ne.symm hb)).trans e) ⟨_, hS2, trivial⟩
  refine wpAny_updateSeq hS2 rfl ?_
  have hS3 := Heap.get?_update_self (Obj.mapSeq (·.pop)) hS2 rfl
  have H3 := H2.upd (s' := { s with heap := ((s.heap.push { cls := .type "list", data := .seq ([] : List Value).toArray }).update s.heap.objs.size (Obj.mapSeq (·.push Value.none))).update s.heap.objs.size (Obj.mapSeq (·.pop)) }) (c' := fun _ => True) .head (fun b o hb e => (Heap.get?_update_other _ _ (Ne.symm hb)).trans e) ⟨_, hS3, trivial⟩
  obtain ⟨_, M3⟩ := frame _ (r := [_]) H3
  have hSf : s.heap.objs.size ∉ [D, T, I, l] := fun hm => by
    have l3 : I < s.heap.objs.size := by obtain ⟨_, e, _⟩ := hI; exact Heap.lt_size e
    have l4 : l < s.heap.objs.size := by obtain ⟨_, e, _⟩ := hl; exact Heap.lt_size e
    simp only [List.mem_cons, List.not_mem_nil, or_false] at hm
    rcases hm with e | e | e | e
    · exact Nat.ne_of_gt (Heap.lt_size hD) e
    · exact Nat.ne_of_gt (Heap.lt_size hT) e
    · exact Nat.ne_of_gt l3 e
    · exact Nat.ne_of_gt l4 e
  refine wpAny_pure ⟨plainId_quiet F.plain_extend_loop _, codeAny_extend_loopS W (by simpa using hn) _ hSf _ _ 0 _ _ _ rfl (Nat.zero_le _) M3 hS3 (ItemsOf.nil _) fun s' acc' c' hm hS' hacc => ?_⟩
  show wpAny _ A.in1 (load s.heap.objs.size >>= _) _ _ s'
  refine wpAny_bind (wpAny_load hS' (wpAny_pure ?_))
  have H4 := H3.drop2 (s' := s') (led' := led') .all (fun b o h1 h2 e => hm.heap b o (by simp; exact ⟨h1, h2⟩) e) hm.os hm.gens
  have hpr := items_paired hp hacc
  obtain ⟨ls, e1, e2⟩ := strsAre_values (strsAre_of hpr)
  rw [e1]
  have hok := joinOk_of hz
  rw [← e2] at hok
  have hok' := hok
  unfold JoinOk at hok
  rw [Bool.not_eq_true'] at hok
  have g : Gives (joinTail x (strValues ls)) (joinMade x ls) := by
    have g0 := gives_joinTail x ls hok
    cases ls with
    | nil => exact g0
    | cons p r => cases r with
      | nil => exact g0
      | cons q r' => exact g0
  exact g Challenge.rw_wz0010_01.row.prog w A (wants Q E) s' (post_join ls ⟨joinFit_length hok, fun t' tk => by rw [e2]; exact k _ _ (H4.tok _)⟩)
end
end
/-! ### M3 -/
noncomputable def sepS : Str := Str.ofString "=\n"
theorem ty_str : typeOf (.type "str") = pure (.type "type") := kitMeta_of (by decide +kernel)
theorem cls_cap : findCls [] (.type "str") (.type "type") "capitalize" = some (.val (.builtin "str.capitalize")) := by first | k_is | kernel_rfl | rfl
section
variable {w : World} {A : Around} {E : Value → Shared → Prop} {s₀ s : Shared} {led led' : Led} {gs : GL} {env : Env} {n : Nat} {t u : Tok} {x y : Str}
theorem at_cap {Q : Value → Shared → Prop} {b : Bool} (H : Inn s₀ led gs s) (k : ∀ s', Inn s₀ led gs s' → Q (.builtin "str.capitalize") s') : wpAny (MM w) A (getAttr (.type "str") (Str.ofString "capitalize") b) Q E s := by
  have X : Frag.In [] s.heap := fun a o e => by cases e
  have hstub : opaqueClassAbove (.type "str") = pure none := by unfold opaqueClassAbove; dsimp only; rw [show Manifest.isStub "str" = false from by decide +kernel]; rfl
  exact cls_open (K := []) X (Looks.of_pure hstub) (Looks.of_pure ty_str) type_tga (looks_hook X (r := none) (by rfl)) (by show subIn [] _ _ = _; rfl) cls_cap
    (wpAny_pure (handed_on rfl (k _ (H.tok _))))
theorem t_sep {Q : Bool → Shared → Prop} (H : Inn s₀ led gs s) (k : ∀ s', Inn s₀ led gs s' → Q true s') : wpAny (MM w) A (truthy (.str sepS t)) Q E s := PySem.P.truthy_str (by rw [show sepS.length = 2 from by decide +kernel]; decide) (by rw [show sepS.length = 2 from by decide +kernel]; exact k _ (H.tok _))
end
theorem lay_M3_1 : True := by
  k_with "cell_call.M3.1" => (first
  | ((with_reducible refine' t_sep ?kqlfA1 ?_); (case kqlfA1 => with_reducible assumption); fold_lay)
  | ((with_reducible refine' at_cap ?kqlfA1 ?_); (case kqlfA1 => with_reducible assumption); fold_lay)
  | ((with_reducible refine' PyProof.Rows.Attribute_Name_ ?_ ?kqhe); (case kqhe => with_unfolding_all rfl))
  | fail "-")
  exact True.intro
local macro_rules | `(tactic| cell_call) => `(tactic| k_extra "cell_call.M3.1")
theorem cap_ct {w : World} {A : Around} {n : Nat} {mg mb : Str → Option Value} {s₀ s : Shared} {led : Led} {E : Value → Shared → Prop} {Q : Value → Shared → Prop} {gs : GL} (G : GG w mg mb s₀.heap) (hA : AOk A (n + 4)) (H : Inn s₀ led gs s) {x : Str} {tx t2 : Tok}
    (hx : x.length ≤ 1000) (hz1 : (Builtin.Str.partsBetween x (Builtin.Str.occurrences x sepS 0 x.length (x.length + 1)) 2).length ≤ 1000) (hz2 : ∀ y ∈ Txt.split x sepS, y.length ≤ 1000) (hz3 : (Txt.split x sepS).length ≤ 1000) (hz4 : ∀ y ∈ Txt.split x sepS, (Txt.capitalize y).length ≤ 4000)
    (k : ∀ t' s', Inn s₀ led gs s' → Q (.str (Txt.join sepS ((Txt.split x sepS).map Txt.capitalize)) t') s') : wpAny (MM w) A (call (.ref 87) [.str x tx, .str sepS t2]) Q E s := by
  refine' enter (fd := fdCap) (rb := [(Str.ofString "sep", .str sepS t2), (Str.ofString "s", .str x tx)]) G hA H ?ho ?hdat ?hcd ?hbody ?hbind ?hcell ?hloc ?h ?hco ?hgen ?hk
  case ho => rfl
  case hdat => rfl
  case hcd => kernel_rfl!
  case hbody => rfl
  case hbind => exact BindsTo.of_defaults rfl ((H.gg G).k 80 _ rfl) rfl rfl rfl
  case hcell => decide +kernel
  case hloc => kernel_rfl!
  case hco => rfl
  case hgen => rfl
  case hk => rfl
  clear H; intro L s hA H
  repeat' cell_call
  refine s_split H (fun Dl vs s hp H => ?_) (by decide +kernel) (Nat.le_trans hx (by decide)) (Nat.le_trans hz1 (by decide))
  repeat' cell_call
  refine mk_map H (fun Dm Tm Im s H => ?_) (by tb_rel)
  repeat' cell_call
  have hz : (((Txt.split x sepS).map Txt.capitalize).map (·.length)).sum + ((Txt.split x sepS).map Txt.capitalize).length * sepS.length ≤ 16777216 := by
    have h1 : ∀ l : List Nat, (∀ a ∈ l, a ≤ 4000) → l.sum ≤ l.length * 4000 := by
      intro l; induction l with
      | nil => intro _; simp
      | cons a r ih => intro h; have := ih fun b hb => h b (List.mem_cons_of_mem _ hb); have := h a List.mem_cons_self; simp; omega
    have h2 := h1 (((Txt.split x sepS).map Txt.capitalize).map (·.length)) (by
      intro a ha
      simp only [List.mem_map] at ha
      obtain ⟨_, ⟨y, hy, rfl⟩, rfl⟩ := ha
      exact hz4 y hy)
    rw [show sepS.length = 2 from by decide +kernel]
    simp only [List.length_map] at h2 ⊢
    omega
  refine join_map (I := Im) (l := Dl) (T := Tm) (led' := (Dm, mpC Tm) :: (Tm, mtC Im) :: (Dl, lstC vs) :: (L, nsC [(Str.ofString "sep", Value.str sepS t2), (Str.ofString "s", Value.str x tx)]) :: led) H hA (fun tj s H => ?_) (by tb_rel) (by tb_rel) (by tb_rel) (by tb_rel) hp (fun y hy => Nat.le_trans (hz2 y hy) (by decide)) (by rw [← hp.length]; exact Nat.le_trans hz3 (by decide)) hz
  repeat' cell_call
  exact k _ _ (H.pick (.skip (.skip (.skip (.skip .all)))))
/-! ### D1 -/
noncomputable def eolS : Str := Str.ofString "\n"
noncomputable def dline (p : List Nat × Bool) : Str := ⟨(p.1 ++ (if p.2 then [61] else [])).toArray⟩
/-- what stands after j characters of a line -/
noncomputable def dat (d : Str) (p : List Nat × Bool) (j : Nat) : Str := d ++ ⟨(p.1.take j ++ (if p.2 = false ∧ p.1.length ≤ j then [10] else [])).toArray⟩
noncomputable def decD (ls : List (List Nat × Bool)) : Str := ls.foldl (fun d p => dat d p (p.1.length + 1)) (Str.ofString "")
structure DecIn (x : Str) (ls : List (List Nat × Bool)) : Prop where
  len : x.length ≤ 1000
  pos : 0 < x.length
  lines : Txt.lines x = ls.map dline
  cuts : (PySem.lineCuts x).length ≤ sizeLine
  strip : ∀ p ∈ ls, Txt.rstrip (dline p) = dline p
  ne : ∀ p ∈ ls, 0 < (dline p).length
  no : ∀ p ∈ ls, 61 ∉ p.1
  sz : ∀ p ∈ ls, p.1.length ≤ 100
  n : ls.length ≤ 100
noncomputable def decR (x : Str) (ls : List (List Nat × Bool)) : Str := if (!Txt.contains (Str.ofString "\r\n") (Txt.item x (-1)) && Txt.endswith (decD ls) eolS) then Txt.slice (decD ls) none (some (-1)) else decD ls
theorem item_at {l : List Nat} {j : Nat} (h : j < l.length) : Txt.item ⟨l.toArray⟩ (j : Nat) = ⟨#[l[j]]⟩ := by
  have e : seqIndex? (j : Int) (Str.length ⟨l.toArray⟩) = some j := by
    have hz : (j : Int) < (Str.length ⟨l.toArray⟩ : Nat) := Int.ofNat_lt.mpr h
    unfold seqIndex?
    dsimp only
    rw [if_neg (Int.not_lt.mpr (Int.natCast_nonneg j)), if_pos (by rw [decide_eq_true (Int.natCast_nonneg j), decide_eq_true hz]; rfl)]; rfl
  unfold Txt.item Txt.charAt
  rw [e]; simp [h]
theorem dat_len (d : Str) (p : List Nat × Bool) (j : Nat) : (dat d p j).length ≤ d.length + (p.1.length + 1) := by
  unfold dat; rw [app_len]
  have : (Str.length ⟨(p.1.take j ++ (if p.2 = false ∧ p.1.length ≤ j then [10] else [])).toArray⟩) ≤ p.1.length + 1 := by
    rw [str_len]; simp only [List.toList_toArray, List.length_append, List.length_take]
    exact Nat.add_le_add (Nat.min_le_right ..) (by split <;> decide)
  exact Nat.add_le_add_left this _
theorem dat_zero {d : Str} {p : List Nat × Bool} (h : 0 < (dline p).length) : dat d p 0 = d := by
  have hc : ¬ (p.2 = false ∧ p.1.length ≤ 0) := by
    rintro ⟨h1, h2⟩
    unfold dline at h; rw [str_len, h1] at h; simp at h; simp at h2; rw [h2] at h; exact Nat.lt_irrefl 0 h
  unfold dat; rw [if_neg hc]; exact app_nil_r (by rw [str_len]; simp)
theorem dat_mid {d : Str} {p : List Nat × Bool} {j : Nat} (h : j < p.1.length) (hn : ¬ (p.2 = false ∧ p.1.length ≤ j + 1)) : dat d p j ++ ⟨#[p.1[j]]⟩ = dat d p (j + 1) := by
  unfold dat; rw [if_neg hn, if_neg (fun b => absurd h (Nat.not_lt_of_le b.2))]
  refine str_ext ?_
  simp only [str_app, List.toList_toArray, List.append_nil, List.append_assoc]
  rw [List.take_succ_eq_append_getElem h]
theorem dat_end {d : Str} {p : List Nat × Bool} {j : Nat} (h : j < p.1.length) (hn : p.2 = false ∧ p.1.length ≤ j + 1) : (dat d p j ++ ⟨#[p.1[j]]⟩) ++ eolS = dat d p (j + 1) := by
  unfold dat; rw [if_pos hn, if_neg (fun b => absurd h (Nat.not_lt_of_le b.2))]
  refine str_ext ?_
  simp only [str_app, List.toList_toArray, List.append_nil, List.append_assoc]
  rw [List.take_succ_eq_append_getElem h, show eolS.cps.toList = [10] from by decide +kernel, List.append_assoc]
theorem dat_past {d : Str} {p : List Nat × Bool} {j : Nat} (h : p.1.length ≤ j) : dat d p (j + 1) = dat d p j := by
  unfold dat; rw [List.take_of_length_le h, List.take_of_length_le (Nat.le_succ_of_le h)]
  by_cases hb : p.2 = false
  · rw [if_pos ⟨hb, Nat.le_succ_of_le h⟩, if_pos ⟨hb, h⟩]
  · rw [if_neg (fun x => hb x.1), if_neg (fun x => hb x.1)]
theorem dw_fold {a d e c n : Nat} (h1 : a ≤ e + 101 * n) (h2 : e ≤ d + (c + 1)) (h3 : c ≤ 100) : a ≤ d + 101 * (n + 1) := by omega
theorem decD_len : ∀ (ls : List (List Nat × Bool)) (d : Str), (∀ p ∈ ls, p.1.length ≤ 100) → (ls.foldl (fun d p => dat d p (p.1.length + 1)) d).length ≤ d.length + 101 * ls.length
  | [], d, _ => Nat.le_refl _
  | p :: r, d, h => by
    have h1 := decD_len r (dat d p (p.1.length + 1)) fun q hq => h q (List.mem_cons_of_mem _ hq)
    have h2 := dat_len d p (p.1.length + 1)
    have h3 := h p List.mem_cons_self
    rw [List.foldl_cons, List.length_cons]
    exact dw_fold h1 h2 h3
theorem dw_sz {a n : Nat} (h : a ≤ 0 + 101 * n) (hn : n ≤ 100) : a ≤ 20000 := by omega
theorem dw_ix {j N : Nat} (h : decide ((j : Int) < (N : Int)) = true) : j < N := Int.ofNat_lt.mp (of_decide_eq_true h)
theorem dw_lt {m j N : Nat} (h : j + m = N) (hj : j < N) : m - 1 < m := by omega
theorem dw_up {m j N : Nat} (h : j + m = N) (hj : j < N) : j + 1 + (m - 1) = N := by omega
theorem dw_eq {m j N : Nat} (h : j + m = N) (hj : decide ((j : Int) < (N : Int)) = false) : j = N := by
  have := of_decide_eq_false hj
  omega
theorem dw_il {j N : Nat} (hj : j < N) : (j : Int) < (N : Int) := Int.ofNat_lt.mpr hj
theorem dw_neg {j N : Nat} : -(N : Int) ≤ (j : Int) := Int.le_trans (Int.neg_nonpos_of_nonneg (Int.natCast_nonneg N)) (Int.natCast_nonneg j)
theorem dw_fit {j N : Nat} (hj : j < N) (hN : N ≤ 1000) : fitsSsize (j : Int) = true := by
  unfold fitsSsize; simp; omega
theorem dw_beq {j N : Nat} (h : j + 1 = N) : ((j : Int) + 1 == (N : Int)) = true := by subst h; exact beq_self_eq_true _
theorem dw_bne {j N : Nat} (h : j + 1 ≠ N) : ¬ ((j : Int) + 1 == (N : Int)) = true := fun e => h (Int.ofNat.inj (beq_iff_eq.mp e))
section
variable {w : World} {A : Around} {E : Value → Shared → Prop} {s₀ s : Shared} {led led' : Led} {gs : GL} {env : Env} {n : Nat} {t u : Tok} {x y : Str}
theorem while_ix {test : Expr} {body : List Stmt} {pos : Pos} {Q : Flow → Shared → Prop} (I : Nat → Shared → Prop)
    (turn : ∀ m s, I m s → wpAny (MM w) A (isTrue test env (eval test env)) (fun b s₂ => if b = true then wpAny (MM w) A (execs body env) (fun f s₃ => match f with
        | .next => ∃ m', m' < m ∧ I m' s₃
        | .cont => ∃ m', m' < m ∧ I m' s₃
        | .brk => Q .next s₃
        | .ret v => Q (.ret v) s₃) (fun _ _ => False) s₂ else Q .next s₂) (fun _ _ => False) s) (m : Nat) (h : I m s) : wpAny (MM w) A (exec (.While test body [] pos) env) Q E s := by
  refine PySem.wpAny_While (PySem.codeAny_whileLoop I (fun m s hI => ?_) m h)
  refine wpAny_mono (turn m s hI) (fun b s₂ h₂ => ?_) fun _ _ f => f.elim
  cases b
  · exact wpAny_execs_nil h₂
  · refine wpAny_mono h₂ (fun f s₃ h₃ => ?_) fun _ _ f => f.elim
    cases f <;> exact h₃
theorem t_strT {Q : Bool → Shared → Prop} (H : Inn s₀ led gs s) (k : ∀ s', Inn s₀ led gs s' → Q true s') (h : 0 < x.length) (hz : x.length ≤ 1000) : wpAny (MM w) A (truthy (.str x t)) Q E s :=
  PySem.P.truthy_str (by omega) (by rw [show ((x.length : Int) != 0) = true from by simp; omega]; exact k _ (H.tok _))
theorem t_strF {Q : Bool → Shared → Prop} (H : Inn s₀ led gs s) (k : ∀ s', Inn s₀ led gs s' → Q false s') (h : x.length = 0) : wpAny (MM w) A (truthy (.str x t)) Q E s :=
  PySem.P.truthy_str (by omega) (by rw [show ((x.length : Int) != 0) = false from by simp [h]]; exact k _ (H.tok _))
end
theorem lay_D1_1 : True := by
  k_with "cell_call.D1.1" => (first
  | ((with_reducible show wpAny _ _ (PySem.truthy _) _ _ _); first
    | ((with_reducible refine' t_strT ?kqlfA1 ?_ ?kqlfp ?kqlfz); (case kqlfA1 => with_reducible assumption); (case kqlfp => with_reducible assumption); (case kqlfz => with_reducible assumption); fold_lay)
    | ((with_reducible refine' t_strF ?kqlfA1 ?_ ?kqlfz); (case kqlfA1 => with_reducible assumption); (case kqlfz => with_reducible assumption); fold_lay))
  | fail "-")
  exact True.intro
local macro_rules | `(tactic| cell_call) => `(tactic| k_extra "cell_call.D1.1")
theorem dec_ct {w : World} {A : Around} {n : Nat} {mg mb : Str → Option Value} {s₀ s : Shared} {led : Led} {E : Value → Shared → Prop} {Q : Value → Shared → Prop} {gs : GL} (G : GG w mg mb s₀.heap) (hA : AOk A (n + 4)) (H : Inn s₀ led gs s) {x : Str} {tx : Tok} {ls : List (List Nat × Bool)}
    (hx : DecIn x ls) (k : ∀ t' s', Inn s₀ led gs s' → Q (.str (decR x ls) t') s') : wpAny (MM w) A (call (.ref 79) [.str x tx]) Q E s := by
  refine' enter (fd := fdDec) (rb := [(Str.ofString "eol", .str eolS 271), (Str.ofString "encoded", .str x tx)]) G hA H ?ho ?hdat ?hcd ?hbody ?hbind ?hcell ?hloc ?h ?hco ?hgen ?hk
  case ho => rfl
  case hdat => rfl
  case hcd => kernel_rfl!
  case hbody => rfl
  case hbind => exact BindsTo.of_defaults rfl ((H.gg G).k 72 _ rfl) rfl rfl rfl
  case hcell => decide +kernel
  case hloc => kernel_rfl!
  case hco => rfl
  case hgen => rfl
  case hk => rfl
  clear H; intro L s hA H
  have hx1 := hx.len
  have hx2 := hx.pos
  repeat' cell_call
  show wpAny _ _ (call (.builtin "str.splitlines") [.str x tx]) _ _ _
  refine s_lines H (fun Dl vs s hp H => ?_) (Nat.le_trans hx1 (by decide)) hx.cuts
  rw [hx.lines] at hp
  refine it_list H (fun I s H => ?_) .head
  refine for_ix (n := ls.length) (fun i s => ∃ t, Inn s₀ ((I, liC Dl i) :: (Dl, lstC vs) :: (L, nsC [(Str.ofString "decoded", Value.str (decD (ls.take i)) t), (Str.ofString "eol", Value.str eolS 271), (Str.ofString "encoded", Value.str x tx)]) :: led) gs s) ?turn ?done ?h0
  case h0 => exact ⟨_, H⟩
  case done =>
    clear H; rintro s ⟨td, H⟩
    refine nx_list_end H hA (fun s H => ?_) .head (.tail .head) (by rw [← hp.length]; simp)
    refine ⟨rfl, ?_⟩
    rw [List.take_length] at H
    repeat' cell_call
    refine sb_str H (fun tc s H => ?_) (by decide) (by omega) (by omega) (by with_unfolding_all rfl) (fun _ => by with_unfolding_all rfl)
    have hdz : (decD ls).length ≤ 20000 := by
      have h1 := decD_len ls (Str.ofString "") hx.sz
      have h3 := hx.n
      rw [show (Str.ofString "").length = 0 from by decide +kernel] at h1
      exact dw_sz h1 h3
    have hdz' : (decD ls).length ≤ sizeLine := Nat.le_trans hdz (by decide)
    have hez : eolS.length ≤ sizeLine := by decide +kernel
    repeat' cell_call
    refine PyProof.Rows.split_bool (fun hb => ?_) (fun hb => ?_)
    · repeat' cell_call
      refine PyProof.Rows.split_bool (fun hb2 => ?_) (fun hb2 => ?_)
      · repeat' cell_call
        have e : decR x ls = Txt.slice (decD ls) none (some (-(eolS.length : Int))) := by
          unfold decR; rw [hb, hb2]
          rw [show (-(eolS.length : Int)) = -1 from by rw [show eolS.length = 1 from by decide +kernel]; rfl]; rfl
        rw [e] at k
        exact k _ _ (H.pick (.skip (.skip (.skip .all))))
      · repeat' cell_call
        have e : decR x ls = decD ls := by unfold decR; rw [hb, hb2]; rfl
        rw [e] at k
        exact k _ _ (H.pick (.skip (.skip .all)))
    · repeat' cell_call
      have e : decR x ls = decD ls := by unfold decR; rw [hb]; rfl
      rw [e] at k
      exact k _ _ (H.pick (.skip (.skip .all)))
  case turn =>
    clear H; rintro i s hi ⟨td, H⟩
    obtain ⟨v, hv, t, rfl⟩ := paired_get' hp (i := i) (a := dline ls[i]) (by simp [hi])
    have hmem : ls[i] ∈ ls := List.getElem_mem hi
    have hst := hx.strip _ hmem
    have hne := hx.ne _ hmem
    have hno := hx.no _ hmem
    have hsz := hx.sz _ hmem
    have hdec : decD (ls.take (i + 1)) = dat (decD (ls.take i)) ls[i] (ls[i].1.length + 1) := by
      unfold decD; rw [List.take_succ_eq_append_getElem hi, List.foldl_append]; rfl
    generalize ls[i] = p at hv hmem hst hne hno hsz hdec ⊢
    rw [hdec]
    intro Rq hRq
    refine nx_list H (fun s H => ?_) .head (.tail .head) hv
    have hN : (dline p).length = p.1.length + (if p.2 then 1 else 0) := by
      unfold dline; rw [str_len]; cases p.2 <;> simp
    have hlz : (dline p).length ≤ 1000 := by rw [hN]; exact Nat.le_trans (Nat.add_le_add hsz (show (if p.2 then 1 else 0) ≤ 1 by split <;> decide)) (by decide)
    have hlz' : (dline p).length ≤ sizeLine := Nat.le_trans hlz (by decide)
    refine go_name ?_
    repeat' cell_call
    rw [hst] at H ⊢
    refine t_strT H (fun s H => ?_) hne hlz
    repeat' cell_call
    have hd0 : (decD (ls.take i)).length ≤ 20000 := by
      have h1 := decD_len (ls.take i) (Str.ofString "") fun q hq => hx.sz q (List.mem_of_mem_take hq)
      have h2 : (ls.take i).length ≤ ls.length := List.length_take_le' ..
      have h3 := hx.n
      rw [show (Str.ofString "").length = 0 from by decide +kernel] at h1
      exact dw_sz h1 (Nat.le_trans h2 h3)
    generalize decD (ls.take i) = d0 at H hd0 hRq ⊢
    have e0 : dat d0 p 0 = d0 := dat_zero hne
    have hI0 : ∃ (j : Nat) (ti tn tl td : Tok), j + (dline p).length = (dline p).length ∧ Inn s₀ ((I, liC Dl (i + 1)) :: (Dl, lstC vs) :: (L, nsC [(Str.ofString "i", Value.int j ti), (Str.ofString "n", Value.int (dline p).length tn), (Str.ofString "line", Value.str (dline p) tl), (Str.ofString "decoded", Value.str (dat d0 p j) td), (Str.ofString "eol", Value.str eolS 271), (Str.ofString "encoded", Value.str x tx)]) :: led) gs s :=
      ⟨0, _, _, _, _, Nat.zero_add _, by
        rw [e0]
        exact (H.prune (L := L) (l' := [(Str.ofString "i", .int 0 _), (Str.ofString "n", Value.int (dline p).length _), (Str.ofString "line", Value.str (dline p) _), (Str.ofString "decoded", Value.str d0 _), (Str.ofString "eol", Value.str eolS 271), (Str.ofString "encoded", Value.str x tx)]) (by tb_rel) (by tb_rel)).pick (by tb_rel)⟩
    refine while_ix (fun m s => ∃ (j : Nat) (ti tn tl td : Tok), j + m = (dline p).length ∧ Inn s₀ ((I, liC Dl (i + 1)) :: (Dl, lstC vs) :: (L, nsC [(Str.ofString "i", Value.int j ti), (Str.ofString "n", Value.int (dline p).length tn), (Str.ofString "line", Value.str (dline p) tl), (Str.ofString "decoded", Value.str (dat d0 p j) td), (Str.ofString "eol", Value.str eolS 271), (Str.ofString "encoded", Value.str x tx)]) :: led) gs s) ?turn2 (dline p).length hI0
    case turn2 =>
      clear H; rintro m s ⟨j, ti, tn, tl, td, hj, H⟩
      repeat' cell_call
      refine PyProof.Rows.split_bool (fun hb => ?_) (fun hb => ?_)
      · have hjN : j < (dline p).length := dw_ix hb
        repeat' cell_call
        refine sb_str H (fun tc s H => ?_) (dw_fit hjN hlz) dw_neg (dw_il hjN) (by with_unfolding_all rfl) (fun _ => by with_unfolding_all rfl)
        repeat' cell_call
        have hds : (dat d0 p j).length ≤ 30000 := Nat.le_trans (dat_len d0 p j) (Nat.le_trans (Nat.add_le_add hd0 (Nat.succ_le_succ hsz)) (by decide))
        by_cases hjp : j < p.1.length
        · have hjt : j < (p.1 ++ (if p.2 then [61] else [])).length := by rw [List.length_append]; exact Nat.lt_add_right _ hjp
          have hc : Txt.item (dline p) (j : Nat) = ⟨#[p.1[j]]⟩ := (item_at hjt).trans (by rw [List.getElem_append_left hjp])
          have hcz : (dat d0 p j).length + (Txt.item (dline p) (j : Nat)).length ≤ sizeLine := by rw [hc]; exact Nat.le_trans (Nat.add_le_add_right hds 1) (by decide)
          rw [hc] at hcz H ⊢
          rw [if_pos (by
            rw [show (Str.ofString "=").cps.toList = [61] from by decide +kernel]
            have : p.1[j] ≠ 61 := fun e => hno (e ▸ List.getElem_mem hjp)
            simpa using this)]
          repeat' cell_call
          by_cases he : p.2 = false ∧ p.1.length ≤ j + 1
          · have hNj : j + 1 = (dline p).length := by rw [hN, he.1]; exact Nat.le_antisymm hjp he.2
            rw [if_pos (dw_beq hNj)]
            have hcz2 : (dat d0 p j ++ ⟨#[p.1[j]]⟩).length + eolS.length ≤ sizeLine := by
              rw [app_len]
              exact Nat.le_trans (Nat.add_le_add_right (Nat.add_le_add_right hds 1) _) (by decide +kernel)
            repeat' cell_call
            rw [dat_end hjp he, show ((j : Int) + 1) = ((j + 1 : Nat) : Int) from rfl] at H
            exact ⟨m - 1, dw_lt hj hjN, j + 1, _, _, _, _, dw_up hj hjN, (H.prune (L := L) (l' := [(Str.ofString "i", Value.int (j + 1 : Nat) _), (Str.ofString "n", Value.int (dline p).length _), (Str.ofString "line", Value.str (dline p) _), (Str.ofString "decoded", Value.str (dat d0 p (j + 1)) _), (Str.ofString "eol", Value.str eolS 271), (Str.ofString "encoded", Value.str x tx)]) (by tb_rel) (by tb_rel)).pick (by tb_rel)⟩
          · have hNj : j + 1 ≠ (dline p).length := fun e => he (by
              rw [hN] at e; cases hb2 : p.2
              · rw [hb2] at e; exact ⟨rfl, Nat.le_of_eq e.symm⟩
              · rw [hb2] at e; exact absurd (Nat.succ.inj e) (Nat.ne_of_lt hjp))
            rw [if_neg (dw_bne hNj)]
            repeat' cell_call
            rw [dat_mid hjp he, show ((j : Int) + 1) = ((j + 1 : Nat) : Int) from rfl] at H
            exact ⟨m - 1, dw_lt hj hjN, j + 1, _, _, _, _, dw_up hj hjN, (H.prune (L := L) (l' := [(Str.ofString "i", Value.int (j + 1 : Nat) _), (Str.ofString "n", Value.int (dline p).length _), (Str.ofString "line", Value.str (dline p) _), (Str.ofString "decoded", Value.str (dat d0 p (j + 1)) _), (Str.ofString "eol", Value.str eolS 271), (Str.ofString "encoded", Value.str x tx)]) (by tb_rel) (by tb_rel)).pick (by tb_rel)⟩
        · have hb2 : p.2 = true := by
            cases hb2 : p.2
            · rw [hb2] at hN; exact absurd (Nat.lt_of_lt_of_eq hjN hN) hjp
            · rfl
          have hje : j = p.1.length := by rw [hb2] at hN; exact Nat.le_antisymm (Nat.le_of_lt_succ (Nat.lt_of_lt_of_eq hjN hN)) (Nat.le_of_not_lt hjp)
          have hNj : j + 1 = (dline p).length := by rw [hN, hb2, hje]; rfl
          have hc : Txt.item (dline p) (j : Nat) = ⟨#[61]⟩ := by
            have e : dline p = ⟨(p.1 ++ [61]).toArray⟩ := by unfold dline; rw [hb2]; rfl
            rw [e]
            refine (item_at (by rw [hje]; simp)).trans ?_
            subst hje; simp
          rw [hc] at H ⊢
          rw [if_neg (by decide +kernel)]
          repeat' cell_call
          rw [if_pos (dw_beq hNj)]
          repeat' cell_call
          rw [← dat_past (Nat.le_of_not_lt hjp), show ((j : Int) + 1) = ((j + 1 : Nat) : Int) from rfl] at H
          refine wpAny_Continue ?_
          exact ⟨m - 1, dw_lt hj hjN, j + 1, _, _, _, _, dw_up hj hjN, (H.prune (L := L) (l' := [(Str.ofString "i", Value.int (j + 1 : Nat) _), (Str.ofString "n", Value.int (dline p).length _), (Str.ofString "line", Value.str (dline p) _), (Str.ofString "decoded", Value.str (dat d0 p (j + 1)) _), (Str.ofString "eol", Value.str eolS 271), (Str.ofString "encoded", Value.str x tx)]) (by tb_rel) (by tb_rel)).pick (by tb_rel)⟩
      · have hjN : j = (dline p).length := dw_eq hj hb
        repeat' cell_call
        rw [hjN] at H
        have ed : dat d0 p (dline p).length = dat d0 p (p.1.length + 1) := by
          rw [hN]; cases p.2
          · exact (dat_past (Nat.le_refl _)).symm
          · rfl
        rw [ed] at H
        exact ⟨_, (H.prune (L := L) (l' := [(Str.ofString "decoded", Value.str (dat d0 p (p.1.length + 1)) td), (Str.ofString "eol", Value.str eolS 271), (Str.ofString "encoded", Value.str x tx)]) (by tb_rel) (by tb_rel)).pick (by tb_rel)⟩
theorem dec_nil {w : World} {A : Around} {n : Nat} {mg mb : Str → Option Value} {s₀ s : Shared} {led : Led} {E : Value → Shared → Prop} {Q : Value → Shared → Prop} {gs : GL} (G : GG w mg mb s₀.heap) (hA : AOk A (n + 4)) (H : Inn s₀ led gs s) {x : Str} {tx : Tok}
    (hx : x.length = 0) (k : ∀ t' s', Inn s₀ led gs s' → Q (.str x t') s') : wpAny (MM w) A (call (.ref 79) [.str x tx]) Q E s := by
  refine' enter (fd := fdDec) (rb := [(Str.ofString "eol", .str eolS 271), (Str.ofString "encoded", .str x tx)]) G hA H ?ho ?hdat ?hcd ?hbody ?hbind ?hcell ?hloc ?h ?hco ?hgen ?hk
  case ho => rfl
  case hdat => rfl
  case hcd => kernel_rfl!
  case hbody => rfl
  case hbind => exact BindsTo.of_defaults rfl ((H.gg G).k 72 _ rfl) rfl rfl rfl
  case hcell => decide +kernel
  case hloc => kernel_rfl!
  case hco => rfl
  case hgen => rfl
  case hk => rfl
  clear H; intro L s hA H
  repeat' cell_call
  exact k _ _ (H.pick (.skip .all))
/-! ### L1 -/
/-- from here on each statement's end goes behind a letter -/
theorem lay_L1_1 : True := by
  k_with "cell_call.L1.1" => (first
  | ((with_reducible refine execs_consO ?_); intro Rs hRs)
  | fail "-")
  exact True.intro
local macro_rules | `(tactic| cell_call) => `(tactic| k_extra "cell_call.L1.1")
noncomputable def bodyOf {ss : List Stmt} (fd : FuncData) (_ : fd.body = .stmts ss) : List Stmt := ss
noncomputable def lawBody : List Stmt := bodyOf fdLaw rfl
noncomputable def pickSt {k : Nat} (s : Stmt) (_ : lawBody[k]? = some s) : Stmt := s
noncomputable def st0 : Stmt := pickSt (k := 0) _ rfl
noncomputable def st1 : Stmt := pickSt (k := 1) _ rfl
noncomputable def st2 : Stmt := pickSt (k := 2) _ rfl
noncomputable abbrev lcs (cD cC cS cO cL cT cR cH cM cQ : Addr) : List (Str × Addr) := [(Str.ofString "orders", cQ), (Str.ofString "mixes", cM), (Str.ofString "choices", cH), (Str.ofString "rows", cR), (Str.ofString "starts", cT), (Str.ofString "letters", cL), (Str.ofString "code", cO), (Str.ofString "size", cS), (Str.ofString "cells", cC), (Str.ofString "drawn", cD)]
noncomputable abbrev lenv (L cD cC cS cO cL cT cR cH cM cQ : Addr) : Env := envC fdLaw L 102 (lcs cD cC cS cO cL cT cR cH cM cQ)
noncomputable def modsA (xs : List Int) : List Int := (xs.take 60).map fun x => x.fmod 1000000
theorem sl_base {w : World} {A : Around} {E : Value → Shared → Prop} {s₀ s : Shared} {led : Led} {gs : GL} {value slice : Expr} {l sl : Addr} {vs : List Value} {a b c : Value} {lo hi st : Option Int} {Q : Value → Shared → Prop} (H : Inn s₀ led gs s) (hl : s₀.heap.IsList l vs.toArray)
    (k : ∀ D s', Inn s₀ ((D, lstC (slicePick vs.toArray lo hi st).toList) :: led) gs s' → Q (.ref D) s')
    (r' : Row sl (slC a b c) led) (pl : IsPart a lo) (pu : IsPart b hi) (pk : IsPart c st) (h0 : st ≠ some 0) (hz : vs.length ≤ sizeLine)
    (hs : subscripted slice false (.ref l) (.ref sl) = operate [.ref sl, .ref l] (getItem (.ref l) (.ref sl))) : wpAny (MM w) A (subscriptTail value slice (.ref l) (.ref sl)) Q E s :=
  have hl' : s.heap.IsList l vs.toArray := hl.at fun o e => H.keep _ _ e
  tail_any hl'.typeIs PySem.F.slot_list_getitem.lookup (wpAny_getItem_list_slice hl' (H.has r'.mem) pl pu pk h0 (k _ _ (H.push (o := { cls := .type "list", data := .seq (slicePick vs.toArray lo hi st) }) (show lstC _ _ from ⟨0, rfl⟩) s.toks)) (by simpa using hz)) hs
theorem sl_list3 {w : World} {A : Around} {E : Value → Shared → Prop} {s₀ s : Shared} {led : Led} {gs : GL} {value slice : Expr} {l sl : Addr} {vs : List Value} {a b c : Value} {lo hi st : Option Int} {Q : Value → Shared → Prop} (H : Inn s₀ led gs s)
    (k : ∀ D s', Inn s₀ ((D, lstC (slicePick vs.toArray lo hi st).toList) :: led) gs s' → Q (.ref D) s')
    (r : Row l (lstC vs) led) (r' : Row sl (slC a b c) led) (pl : IsPart a lo) (pu : IsPart b hi) (pk : IsPart c st) (h0 : st ≠ some 0) (hz : vs.length ≤ sizeLine)
    (hs : subscripted slice false (.ref l) (.ref sl) = operate [.ref l, .ref sl] (getItem (.ref l) (.ref sl))) : wpAny (MM w) A (subscriptTail value slice (.ref l) (.ref sl)) Q E s :=
  tail_any (H.has r.mem).lst.typeIs PySem.F.slot_list_getitem.lookup (wpAny_getItem_list_slice (H.has r.mem).lst (H.has r'.mem) pl pu pk h0 (k _ _ (H.push (o := { cls := .type "list", data := .seq (slicePick vs.toArray lo hi st) }) (show lstC _ _ from ⟨0, rfl⟩) s.toks)) (by simpa using hz)) hs
theorem pick_ints {ns : List Int} {vs : List Value} (hv : Paired isI ns vs) (lo hi st : Option Int) : Paired isI (pickNums ns lo hi st) (slicePick vs.toArray lo hi st).toList := of_intsAre ((intsAre_of hv).pick lo hi st)
theorem pick_mem {ns : List Int} {lo hi st : Option Int} : ∀ x ∈ pickNums ns lo hi st, x ∈ ns := fun x hx => by
  unfold pickNums at hx
  obtain ⟨j, _, e⟩ := List.mem_filterMap.mp hx
  exact List.mem_of_getElem? e
theorem sum_pos : ∀ {l : List Int}, (∀ x ∈ l, (0 : Int) ≤ x) → 0 ≤ l.sum
  | [], _ => Int.le_refl _
  | a :: r, h => by
    have h1 := h a List.mem_cons_self
    have h2 := sum_pos (l := r) fun x hx => h x (List.mem_cons_of_mem _ hx)
    rw [List.sum_cons]; omega
theorem paired_ex {α β : Type} {F : β → Value → Prop} {as : List α} {vs : List Value} (p : Paired (fun _ v => ∃ m : β, F m v) as vs) : ∃ ns : List β, Paired F ns vs ∧ ns.length = as.length := by
  induction p with
  | nil => exact ⟨[], .nil, rfl⟩
  | cons h t ih =>
    obtain ⟨m, h⟩ := h
    obtain ⟨ns, h1, h2⟩ := ih
    exact ⟨m :: ns, .cons h h1, by rw [List.length_cons, List.length_cons, h2]⟩
noncomputable def seedsA : List Int := [3, 8354, 484, 646, 1, 2, 0]
theorem segA {w : World} {A : Around} {n : Nat} {mg mb : Str → Option Value} {s₀ s : Shared} {led : Led} {gs : GL} {Q : Flow → Shared → Prop} {L cD cC cS cO cL cT cR cH cM cQ la : Addr} {xs : List Int} {vs : List Value} (G : GG w mg mb s₀.heap) (hA : AOk A (n + 8))
    (H : Inn s₀ ((L, nsC [(Str.ofString "script", .ref la)]) :: (cD, celC none) :: (cC, celC none) :: led) gs s) (hl : s₀.heap.IsList la vs.toArray) (hv : Paired isI xs vs) (hn : xs.length ≤ 1000)
    (k : ∀ (lc : Addr) (vc : List Value) (ns : List Nat) (s' : Shared), Paired (fun (m : Nat) v => isI m v) ns vc → ns.length = 7 → Inn s₀ ((lc, lstC vc) :: (L, nsC []) :: (cC, celC (some (.ref lc))) :: led) gs s' → Q .next s') :
    wpAny (MM w) A (execs [st0, st1, st2] (lenv L cD cC cS cO cL cT cR cH cM cQ)) Q (fun _ _ => False) s := by
  unfold st0 st1 st2 pickSt
  repeat' cell_call
  refine sl_base H hl (fun Ds s H => ?_) .head .none (.int _ _) .none (by decide) (by rw [← hv.length]; exact Nat.le_trans hn (by decide)) (by with_unfolding_all rfl)
  have hp := pick_ints hv none (some 60) none
  have hpm : ∀ x ∈ pickNums xs none (some 60) none, x ∈ xs := pick_mem
  have hpz : (slicePick vs.toArray none (some 60) none).toList.length ≤ sizeLine := by
    have := slicePick_size_le vs.toArray none (some 60) none
    simp only [List.size_toArray] at this
    have e := hv.length
    simp only [Array.length_toList]
    exact Nat.le_trans (Nat.le_trans this (by omega)) (show 1000 ≤ sizeLine by decide)
  generalize pickNums xs none (some 60) none = xs' at hp hpm
  generalize (slicePick vs.toArray none (some 60) none).toList = vs' at hp H hpz
  repeat' cell_call
  refine LF_list0 (fun x v => isI (x.fmod 1000000) v) hp hA H .head rfl (by kernel_rfl!) hpz (fun a v lc i ys s ha hf H => ?_) (fun lc ys s hP H => ?_)
  · obtain ⟨ta, rfl⟩ := hf
    repeat' cell_call
    exact ⟨⟨_, rfl⟩, H⟩
  refine cp_none H (fun s H => ?_) .head
  have hP' : Paired isI (xs'.map fun x => x.fmod 1000000) ys := paired_map _ hP
  have hpos : ∀ x ∈ xs'.map (fun x => x.fmod 1000000), (0 : Int) ≤ x := fun x hx => by
    obtain ⟨y, _, rfl⟩ := List.mem_map.mp hx
    exact Int.fmod_nonneg_of_pos _ (by decide)
  have hyz : ys.length ≤ sizeLine := by rw [← hP.length, hp.length]; exact hpz
  generalize xs'.map (fun x => x.fmod 1000000) = ds at hP' hpos
  repeat' cell_call
  refine' LF_enum (as := seedsA) (F := isI) (fun j v => ∃ m : Nat, isI m v) ?hF hA H ?ur rfl (by kernel_rfl!) (by kernel_rfl!) ?hz (fun j a v tj lc e1 e2 zs s hj hf H => ?hG) (fun lc zs s hP2 H => ?hK)
  case ur => tb_rel
  case hF => exact .cons ⟨_, rfl⟩ (.cons ⟨_, rfl⟩ (.cons ⟨_, rfl⟩ (.cons ⟨_, rfl⟩ (.cons ⟨_, rfl⟩ (.cons ⟨_, rfl⟩ (.cons ⟨_, rfl⟩ .nil))))))
  case hz => exact Nat.le_of_ble_eq_true (by kernel_rfl!)
  case hG =>
    obtain ⟨ta, rfl⟩ := hf
    have ha : 0 ≤ a := by
      have := List.mem_of_getElem? hj
      simp [seedsA] at this; omega
    repeat' cell_call
    refine' sl_list3 H (fun Dx s H => ?hk) ?hr .head (.int _ _) .none (.int _ _) (by decide) hyz (by with_unfolding_all rfl)
    case hr => tb_rel
    have hp3 := pick_ints hP' (some (j : Int)) none (some 7)
    have hp4 : 0 ≤ (pickNums ds (some (j : Int)) none (some 7)).sum := sum_pos fun x hx => hpos x (pick_mem x hx)
    generalize pickNums ds (some (j : Int)) none (some 7) = es at hp3 hp4
    generalize (slicePick ys.toArray (some (j : Int)) none (some 7)).toList = ev at hp3 H
    repeat' cell_call
    refine c_sum H hA (fun t s H => ?_) .head hp3
    repeat' cell_call
    exact ⟨⟨(a + es.sum).toNat, _, by rw [Int.toNat_of_nonneg (by omega)]⟩, H.pick (.skip (.skip .all))⟩
  case hK =>
    obtain ⟨ns, h1, h2⟩ := paired_ex hP2
    refine cp_none H (fun s H => ?_) .head
    repeat' cell_call
    refine k D zs ns s h1 (by rw [h2, List.length_range]; rfl) ?_
    have H := H.prune (L := L) (l' := []) (by tb_rel) (by tb_rel)
    exact H.pick (by tb_rel)
/-! ### L2 -/
section
variable {w : World} {A : Around} {E : Value → Shared → Prop} {s₀ s : Shared} {led led' : Led} {gs : GL} {env : Env} {n : Nat} {t u : Tok}
theorem i_pow {a : Int} {j : Nat} {Q : Value → Shared → Prop} (H : Inn s₀ led gs s) (k : ∀ t s', Inn s₀ led gs s' → Q (.int (a ^ j) t) s') (ha : (a == 26 || a == 6) = true) (hj : j ≤ 13) : wpAny (MM w) A (binaryOp .Pow (.int a t) (.int (j : Nat) u)) Q E s := by
  have h1 : ¬ (a == 0 || a == 1) = true := by rintro h; simp at h ha; omega
  have h2 : ¬ (a == -1) = true := by rintro h; simp at h ha; omega
  by_cases h0 : j = 0
  · subst h0
    exact AutoIntOps.pow_0 (Int.le_refl _) rfl (show Q (.int 1 _) _ from by have := k s.toks _ (H.tok (s.toks + 1)); rwa [Int.pow_zero] at this)
  · refine AutoIntOps.pow_4 (by omega) (by simp; omega) h1 h2 ?_ ?_
    · have : ∀ j, j ≤ 13 → Builtin.Int.intTooBig (((Builtin.Int.intBits 26 : Nat) : Int) * (j : Nat)) = false ∧ Builtin.Int.intTooBig (((Builtin.Int.intBits 6 : Nat) : Int) * (j : Nat)) = false := by decide +kernel
      have := this j hj
      simp at ha
      rcases ha with rfl | rfl
      · rw [this.1]; exact Bool.false_ne_true
      · rw [this.2]; exact Bool.false_ne_true
    · rw [Int.toNat_natCast]; exact k _ _ (H.tok _)
theorem i_fdivN {a b : Nat} {y : Int} {Q : Value → Shared → Prop} (H : Inn s₀ led gs s) (k : ∀ t s', Inn s₀ led gs s' → Q (.int (a / b : Nat) t) s') (hy : y = (b : Nat)) (hb : 0 < b) (hb2 : b < 1073741824) : wpAny (MM w) A (binaryOp .FloorDiv (.int (a : Nat) t) (.int y u)) Q E s := by
  subst hy
  refine i_fdiv H (fun t s H => ?_) (by omega) (PyProof.noPylong_small (by omega))
  have := k t s H
  rwa [show ((a / b : Nat) : Int) = (a : Int).fdiv b from by rw [Int.fdiv_eq_ediv_of_nonneg _ (by omega)]; rfl] at this
theorem fdivN (a b : Nat) : (a : Int).fdiv b = ((a / b : Nat) : Int) := by rw [Int.fdiv_eq_ediv_of_nonneg _ (Int.natCast_nonneg b)]; rfl
theorem fmodN (a b : Nat) : (a : Int).fmod b = ((a % b : Nat) : Int) := by rw [Int.fmod_eq_emod_of_nonneg _ (by omega)]; rfl
theorem c_ord {c : Nat} {Q : Value → Shared → Prop} (H : Inn s₀ led gs s) (k : ∀ t s', Inn s₀ led gs s' → Q (.int c t) s') : wpAny (MM w) A (call (.builtin "ord") [.str ⟨#[c]⟩ t]) Q E s := PySem.P.ord_of_char (k _ _ (H.tok _))
theorem ao_swap2 {x y : Str} {vx vy : Value} {names : List Str} {Q : Unit → Shared → Prop} (k : wpAny (MM w) A (bindName env y vy) (fun _ s₁ => wpAny (MM w) A (bindName env x vx) Q E s₁) E s) (he : names = [x, y]) :
    wpAny (MM w) A (assignInOrder (List.map (fun n => bindName env n) names.reverse) [vx, vy].reverse) Q E s := by
  subst he
  exact wpAny_bind (wpAny_holding (wpAny_mono k (fun _ s₁ h => wpAny_bind (wpAny_holding (wpAny_mono h (fun _ s₂ h₂ => wpAny_pure h₂) fun _ _ x => x))) fun _ _ x => x))
theorem ao_swap3 {x y z : Str} {vx vy vz : Value} {names : List Str} {Q : Unit → Shared → Prop} (k : wpAny (MM w) A (bindName env z vz) (fun _ s₀ => wpAny (MM w) A (bindName env y vy) (fun _ s₁ => wpAny (MM w) A (bindName env x vx) Q E s₁) E s₀) E s) (he : names = [x, y, z]) :
    wpAny (MM w) A (assignInOrder (List.map (fun n => bindName env n) names.reverse) [vx, vy, vz].reverse) Q E s := by
  subst he
  exact wpAny_bind (wpAny_holding (wpAny_mono k (fun _ s₁ h => wpAny_bind (wpAny_holding (wpAny_mono h (fun _ s₂ h₂ => wpAny_bind (wpAny_holding (wpAny_mono h₂ (fun _ s₃ h₃ => wpAny_pure h₃) fun _ _ x => x))) fun _ _ x => x))) fun _ _ x => x))
end
theorem lay_L2_1 : True := by
  k_with "cell_call.L2.1" => (first
  | ((with_reducible show wpAny _ _ (PySem.assignInOrder _ _) _ _ _); first
    | ((with_reducible refine' ao_swap2 ?_ ?kqlfn); (case kqlfn => exact rfl))
    | ((with_reducible refine' ao_swap3 ?_ ?kqlfn); (case kqlfn => exact rfl)))
  | fail "-")
  exact True.intro
local macro_rules | `(tactic| cell_call) => `(tactic| k_extra "cell_call.L2.1")
noncomputable abbrev Pc := List Nat × Bool
noncomputable def pieceOf (c : Nat) : Pc := ((List.range (1 + c % 3)).map fun p => 97 + c / 3 / 26 ^ p % 26, c % 3 == 0 && c / 3 % 2 == 1)
noncomputable def tot (ps : List Pc) : Nat := (ps.map fun p => p.1.length).sum
noncomputable def stp (ps : List Pc) : List Nat := (List.range (ps.length + 1)).map fun i => tot (ps.take i)
noncomputable def bStep (ps : List Pc) (c : Nat) : List Pc := if tot ps + (1 + c % 3) ≤ 8 then ps ++ [pieceOf c] else ps
noncomputable def piecesOf (cs : List Nat) : List Pc := cs.foldl bStep []
noncomputable def isP (p : Pc) (v : Value) : Prop := if p.2 = true then isI (p.1.headD 0 : Nat) v else isS ⟨p.1.toArray⟩ v
theorem paired_take {α β : Type} {F : α → β → Prop} {as : List α} {vs : List β} (p : Paired F as vs) (n : Nat) : Paired F (as.take n) (vs.take n) := by
  induction p generalizing n with
  | nil => simp; exact .nil
  | cons h t ih => cases n with
    | zero => exact .nil
    | succ n => exact .cons h (ih n)
noncomputable def jcps (sep : List Nat) : List (List Nat) → List Nat
  | [] => []
  | [x] => x
  | x :: r => x ++ sep ++ jcps sep r
theorem tjoin (sep : Str) (l : List Str) : Txt.join sep l = Str.join sep l := eq_of_beq (PyProof.Rows.join_plain_closes sep l)
theorem sjoin_cps (sep : Str) : ∀ l : List Str, (Str.join sep l).cps.toList = jcps sep.cps.toList (l.map (·.cps.toList))
  | [] => rfl
  | [x] => rfl
  | x :: y :: r => by
    show (x ++ sep ++ Str.join sep (y :: r)).cps.toList = _
    rw [str_app, str_app, sjoin_cps sep (y :: r)]; rfl
theorem join_cps (sep : Str) (l : List Str) : (Txt.join sep l).cps.toList = jcps sep.cps.toList (l.map (·.cps.toList)) := by rw [tjoin, sjoin_cps]
theorem jcps_nil : ∀ l : List (List Nat), jcps [] l = l.flatten
  | [] => rfl
  | [x] => by simp [jcps]
  | x :: y :: r => by
    show x ++ [] ++ jcps [] (y :: r) = _
    rw [jcps_nil (y :: r)]; simp
theorem join_e (l : List Str) : Txt.join (Str.ofString "") l = ⟨(l.map (·.cps.toList)).flatten.toArray⟩ := str_ext (by
  rw [join_cps, show (Str.ofString "").cps.toList = [] from by decide +kernel, jcps_nil])
theorem join_chars (f : Nat → Nat) (l : List Nat) : Txt.join (Str.ofString "") (l.map fun j => (⟨#[f j]⟩ : Str)) = ⟨(l.map f).toArray⟩ := by
  rw [join_e, List.map_map]
  congr 2
  induction l with
  | nil => rfl
  | cons a r ih => simp only [List.map_cons, List.flatten_cons]; rw [ih]; rfl
theorem chars_sum (f : Nat → Nat) (l : List Nat) : ((l.map fun j => (⟨#[f j]⟩ : Str)).map (·.length)).sum = l.length := by
  induction l with
  | nil => rfl
  | cons a r ih => rw [List.map_cons, List.map_cons, List.sum_cons, ih, List.length_cons]; show 1 + _ = _; omega
theorem piecesOf_len : ∀ (cs : List Nat) (ps : List Pc), (cs.foldl bStep ps).length ≤ ps.length + cs.length
  | [], ps => Nat.le_refl _
  | c :: r, ps => by
    have h1 := piecesOf_len r (bStep ps c)
    have h2 : (bStep ps c).length ≤ ps.length + 1 := by unfold bStep; split <;> simp
    rw [List.foldl_cons, List.length_cons]; omega
theorem isP_str {ls : List Nat} {t : Tok} : isP (ls, false) (.str ⟨ls.toArray⟩ t) := by unfold isP; rw [if_neg Bool.false_ne_true]; exact ⟨_, rfl⟩
theorem isP_str' {p : Pc} {t : Tok} (h : p.2 = false) : isP p (.str ⟨p.1.toArray⟩ t) := by unfold isP; rw [h, if_neg Bool.false_ne_true]; exact ⟨_, rfl⟩
theorem isP_num' {p : Pc} {c : Nat} {t : Tok} (h : p = ([c], true)) : isP p (.int c t) := by rw [h]; unfold isP; rw [if_pos rfl]; exact ⟨_, rfl⟩
theorem isP_num {c : Nat} {t : Tok} : isP ([c], true) (.int c t) := by unfold isP; rw [if_pos rfl]; exact ⟨_, rfl⟩
theorem tot_snoc (ps : List Pc) (p : Pc) : tot (ps ++ [p]) = tot ps + p.1.length := by unfold tot; simp
theorem stp_snoc (ps : List Pc) (p : Pc) : stp (ps ++ [p]) = stp ps ++ [tot ps + p.1.length] := by
  unfold stp
  rw [List.length_append, List.length_singleton, List.range_succ (n := ps.length + 1), List.map_append]
  congr 1
  · refine List.map_congr_left fun i hi => ?_
    rw [List.mem_range] at hi
    rw [List.take_append_of_le_length (by omega)]
  · rw [List.map_singleton, List.take_of_length_le (by simp), tot_snoc]
theorem stp_last (ps : List Pc) : ∃ pre, stp ps = pre ++ [tot ps] := by
  unfold stp
  rw [List.range_succ, List.map_append]
  exact ⟨_, by rw [List.map_singleton, List.take_length]⟩
noncomputable def st3 : Stmt := pickSt (k := 3) _ rfl
noncomputable def st4 : Stmt := pickSt (k := 4) _ rfl
theorem segB {w : World} {A : Around} {n : Nat} {mg mb : Str → Option Value} {s₀ s : Shared} {led : Led} {gs : GL} {Q : Flow → Shared → Prop} {L cD cC cS cO cL cT cR cH cM cQ lc : Addr} {cs : List Nat} {vc : List Value} {v1 v2 : Option Value} (G : GG w mg mb s₀.heap) (hA : AOk A (n + 8))
    (H : Inn s₀ ((L, nsC []) :: (cS, celC v1) :: (cO, celC v2) :: (cC, celC (some (.ref lc))) :: (lc, lstC vc) :: led) gs s) (hv : Paired (fun (m : Nat) v => isI m v) cs vc) (hn : cs.length = 7)
    (k : ∀ (lp lt : Addr) (vp vt : List Value) (w1 : Option Value) (s' : Shared), Paired isP (piecesOf (cs.take 6)) vp → Paired (fun (m : Nat) v => isI m v) (stp (piecesOf (cs.take 6))) vt → 
      Inn s₀ ((L, nsC [(Str.ofString "pieces", .ref lp), (Str.ofString "stops", .ref lt)]) :: (lp, lstC vp) :: (lt, lstC vt) :: (cS, celC w1) :: (cC, celC (some (.ref lc))) :: (lc, lstC vc) :: led) gs s' → Q .next s') :
    wpAny (MM w) A (execs [st3, st4] (lenv L cD cC cS cO cL cT cR cH cM cQ)) Q (fun _ _ => False) s := by
  unfold st3 st4 pickSt
  repeat' cell_call
  have hvl : vc.length = 7 := by rw [← hv.length]; exact hn
  refine' sl_list H (fun Ds s H => ?hk) ?hr .head .none (.int _ _) .none (by decide) (by rw [hvl]; decide) (by with_unfolding_all rfl)
  case hr => tb_rel
  have e6 : (slicePick vc.toArray none (some 6) none).toList = vc.take 6 := by
    have := slicePick_upto' vc.toArray 6
    rw [show ((6 : Nat) : Int) = 6 from rfl] at this
    rw [this]
  rw [e6] at H
  have hv6 : Paired (fun (m : Nat) v => isI m v) (cs.take 6) (vc.take 6) := paired_take hv 6
  have hn6 : (cs.take 6).length ≤ 6 := by rw [List.length_take]; exact Nat.min_le_left ..
  generalize cs.take 6 = c6 at hv6 hn6 k
  generalize vc.take 6 = v6 at hv6 H
  refine it_list H (fun I s H => ?_) .head
  refine' for_ix (n := c6.length) (fun i s => ∃ (lp lt : Addr) (vp vt : List Value) (v1 v2 : Option Value), Paired isP (piecesOf (c6.take i)) vp ∧ Paired (fun (m : Nat) v => isI m v) (stp (piecesOf (c6.take i))) vt ∧
      Inn s₀ ((I, liC Ds i) :: (Ds, lstC v6) :: (L, nsC [(Str.ofString "pieces", .ref lp), (Str.ofString "stops", .ref lt)]) :: (lp, lstC vp) :: (lt, lstC vt) :: (cS, celC v1) :: (cO, celC v2) :: (cC, celC (some (.ref lc))) :: (lc, lstC vc) :: led) gs s) ?turn ?done ?h0
  case h0 =>
    exact ⟨_, _, [], [.int 0 _], _, _, .nil, .cons ⟨_, rfl⟩ .nil, H.pick (by tb_rel)⟩
  case done =>
    clear H; rintro s ⟨lp, lt, vp, vt, v1, v2, hp, ht, H⟩
    refine nx_list_end H hA (fun s H => ⟨rfl, ?_⟩) .head (.tail .head) (by rw [← hv6.length]; exact Nat.le_refl _)
    rw [List.take_length] at hp ht
    repeat' cell_call
    exact k _ _ _ _ _ _ hp ht (H.pick (by tb_rel))
  case turn =>
    clear H; rintro i s hi ⟨lp, lt, vp, vt, v1, v2, hp, ht, H⟩
    obtain ⟨v, hvi, tc, rfl⟩ := paired_get' hv6 (List.getElem?_eq_getElem hi)
    rw [List.take_succ_eq_append_getElem hi, show piecesOf (c6.take i ++ [c6[i]]) = bStep (piecesOf (c6.take i)) c6[i] from List.foldl_append ..]
    have hps : (piecesOf (c6.take i)).length ≤ 6 := Nat.le_trans (piecesOf_len _ []) (by rw [List.length_take]; exact Nat.le_trans (Nat.le_of_eq (Nat.zero_add _)) (Nat.le_trans (Nat.min_le_right ..) hn6))
    generalize piecesOf (c6.take i) = ps at hp ht hps ⊢
    generalize c6[i] = c at hvi ⊢
    intro Rq hRq
    refine nx_list H (fun s H => ?_) .head (.tail .head) hvi
    obtain ⟨pre, hpre⟩ := stp_last ps
    have ht2 := ht
    rw [hpre] at ht2
    obtain ⟨ws, vl, rfl, ⟨tl, rfl⟩, hws⟩ := paired_snoc_inv ht2
    have hvpl : vp.length ≤ sizeLine := by rw [← hp.length]; exact Nat.le_trans hps (by decide)
    have hwsl : (ws ++ [Value.int (tot ps : Nat) tl]).length ≤ sizeLine := by rw [← ht.length]; unfold stp; rw [List.length_map, List.length_range]; exact Nat.le_trans (Nat.succ_le_succ hps) (by decide)
    have hfm : (c : Int).fmod 3 = ((c % 3 : Nat) : Int) := fmodN c 3
    have hfd : (c : Int).fdiv 3 = ((c / 3 : Nat) : Int) := fdivN c 3
    have h1 : (1 : Int) + ((c % 3 : Nat) : Int) = ((1 + c % 3 : Nat) : Int) := rfl
    have hc3 : 1 + c % 3 ≤ 3 := Nat.add_le_add_left (Nat.le_of_lt_succ (Nat.mod_lt c (by decide))) 1
    refine go_name ?_
    repeat' cell_call
    simp only [hfm, hfd, h1] at H ⊢
    refine PyProof.Rows.split_bool (fun hb => ?_) (fun hb => ?_)
    · have hle : tot ps + (1 + c % 3) ≤ 8 := Int.ofNat_le.mp (of_decide_eq_true hb)
      rw [show bStep ps c = ps ++ [pieceOf c] from if_pos hle, stp_snoc] at hRq
      repeat' cell_call
      refine LF_range (n := 1 + c % 3) (fun _ => true) (fun j v => isS ⟨#[97 + c / 3 / 26 ^ j % 26]⟩ v) hA H rfl (by kernel_rfl!) (Nat.le_trans hc3 (by decide)) (fun j t lc' ri ys s hj H => wpAny_pure ⟨rfl, H⟩) (fun j t lc' ri ys s hj _ H => ?_) (fun lc' ys s hP H => ?_)
      · repeat' cell_call
        refine i_pow H (fun tp s H => ?_) rfl (Nat.le_trans (Nat.le_of_lt (Nat.lt_of_lt_of_le hj hc3)) (by decide))
        refine i_fdivN (b := 26 ^ j) H (fun tp s H => ?_) (by rw [Int.natCast_pow]; rfl) (Nat.pow_pos (by decide)) (Nat.lt_of_lt_of_le (Nat.pow_lt_pow_right (by decide) (show j < 3 from Nat.lt_of_lt_of_le hj hc3)) (by decide))
        repeat' cell_call
        rw [show ((c / 3 / 26 ^ j : Nat) : Int).fmod 26 = ((c / 3 / 26 ^ j % 26 : Nat) : Int) from fmodN _ 26, show (97 : Int) + ((c / 3 / 26 ^ j % 26 : Nat) : Int) = ((97 + c / 3 / 26 ^ j % 26 : Nat) : Int) from rfl]
        have hlt : c / 3 / 26 ^ j % 26 < 26 := Nat.mod_lt _ (by decide)
        generalize c / 3 / 26 ^ j % 26 = q at hlt ⊢
        have hcr : (decide (((97 + q : Nat) : Int) < 0) || decide (((97 + q : Nat) : Int) > 0x10FFFF)) = false := chr_le (Nat.le_trans (Nat.add_le_add_left (Nat.le_of_lt hlt) 97) (by decide))
        repeat' cell_call
        exact ⟨⟨_, rfl⟩, H⟩
      · rw [List.filter_eq_self.mpr (fun _ _ => rfl)] at hP
        refine cp_none H (fun s H => ?_) .head
        repeat' cell_call
        have hP' := paired_map (F := isS) (fun j => (⟨#[97 + c / 3 / 26 ^ j % 26]⟩ : Str)) hP
        refine s_join H (fun tj s H => ?_) .head hP' ?hz
        case hz =>
          rw [show (Str.ofString "").length = 0 from by decide +kernel, chars_sum]
          rw [Nat.mul_zero, Nat.add_zero, List.length_range]; exact Nat.le_trans hc3 (by decide)
        rw [join_chars fun j => 97 + c / 3 / 26 ^ j % 26]
        have hlen : (pieceOf c).1.length = 1 + c % 3 := by unfold pieceOf; simp
        have hsnoc : ∀ t, Paired (fun (m : Nat) v => isI m v) (stp ps ++ [tot ps + (pieceOf c).1.length]) ((ws ++ [Value.int (tot ps : Nat) tl]) ++ [Value.int ((tot ps : Nat) + (1 + c % 3 : Nat)) t]) := fun t => ht.snoc ⟨t, by rw [hlen]; rfl⟩
        repeat' cell_call
        refine PyProof.Rows.split_bool (fun hb1 => ?_) (fun hb1 => ?_)
        · have hc0 : c % 3 = 0 := Nat.add_left_cancel (show 1 + c % 3 = 1 + 0 from Int.ofNat.inj (beq_iff_eq.mp hb1))
          repeat' cell_call
          rw [show ((c / 3 : Nat) : Int).fmod 2 = ((c / 3 % 2 : Nat) : Int) from fmodN _ 2]
          refine PyProof.Rows.split_bool (fun hb2 => ?_) (fun hb2 => ?_)
          · have hc1 : c / 3 % 2 = 1 := Int.ofNat.inj (beq_iff_eq.mp hb2)
            have hpc : pieceOf c = ([97 + c / 3 % 26], true) := by unfold pieceOf; rw [hc0, hc1]; simp
            repeat' cell_call
            rw [show (List.range (1 + c % 3)).map (fun j => 97 + c / 3 / 26 ^ j % 26) = [97 + c / 3 % 26] from by rw [hc0]; simp]
            refine c_ord (c := 97 + c / 3 % 26) H (fun t s H => ?_)
            repeat' cell_call
            have H := H.prune (L := L) (l' := [(Str.ofString "pieces", .ref lp), (Str.ofString "stops", .ref lt)]) (by tb_rel) (by tb_rel)
            exact ⟨_, _, _, _, _, _, hp.snoc (isP_num' hpc), hsnoc _, H.pick (by tb_rel)⟩
          · have hc1 : (c / 3 % 2 == 1) = false := beq_eq_false_iff_ne.mpr fun e => beq_eq_false_iff_ne.mp hb2 (congrArg Int.ofNat e)
            have hpc : pieceOf c = ((pieceOf c).1, false) := by unfold pieceOf; rw [hc0, hc1]; simp
            repeat' cell_call
            have H := H.prune (L := L) (l' := [(Str.ofString "pieces", .ref lp), (Str.ofString "stops", .ref lt)]) (by tb_rel) (by tb_rel)
            exact ⟨_, _, _, _, _, _, hp.snoc (isP_str' (p := pieceOf c) (by rw [hpc])), hsnoc _, H.pick (by tb_rel)⟩
        · have hc0 : (c % 3 == 0) = false := beq_eq_false_iff_ne.mpr fun e => beq_eq_false_iff_ne.mp hb1 (by rw [e]; rfl)
          have hpc : pieceOf c = ((pieceOf c).1, false) := by unfold pieceOf; rw [hc0]; simp
          repeat' cell_call
          have H := H.prune (L := L) (l' := [(Str.ofString "pieces", .ref lp), (Str.ofString "stops", .ref lt)]) (by tb_rel) (by tb_rel)
          exact ⟨_, _, _, _, _, _, hp.snoc (isP_str' (p := pieceOf c) (by rw [hpc])), hsnoc _, H.pick (by tb_rel)⟩
    · have hle : ¬ tot ps + (1 + c % 3) ≤ 8 := fun h => of_decide_eq_false hb (Int.ofNat_le.mpr h)
      rw [show bStep ps c = ps from if_neg hle] at hRq
      repeat' cell_call
      have H := H.prune (L := L) (l' := [(Str.ofString "pieces", .ref lp), (Str.ofString "stops", .ref lt)]) (by tb_rel) (by tb_rel)
      exact ⟨_, _, _, _, _, _, hp, ht, H.pick (by tb_rel)⟩
/-! ### L3 -/
section
structure PcOk (p : Pc) : Prop where
  lo : 1 ≤ p.1.length
  hi : p.1.length ≤ 3
  num : p.2 = true → p.1.length = 1
  az : ∀ x ∈ p.1, 97 ≤ x ∧ x ≤ 122
theorem pieceOf_ok (c : Nat) : PcOk (pieceOf c) := by
  have hl : (pieceOf c).1.length = 1 + c % 3 := by unfold pieceOf; simp
  refine ⟨by omega, by omega, fun h => ?_, fun x hx => ?_⟩
  · unfold pieceOf at h; simp at h; omega
  · unfold pieceOf at hx
    obtain ⟨j, _, rfl⟩ := List.mem_map.mp hx
    have := Nat.mod_lt (c / 3 / 26 ^ j) (show 0 < 26 by decide); omega
theorem piecesOf_ok : ∀ (cs : List Nat) (ps : List Pc), (∀ p ∈ ps, PcOk p) → ∀ p ∈ cs.foldl bStep ps, PcOk p
  | [], ps, h, p, hp => h p hp
  | c :: r, ps, h, p, hp => by
    refine piecesOf_ok r (bStep ps c) (fun q hq => ?_) p hp
    unfold bStep at hq
    split at hq
    · rcases List.mem_append.mp hq with hq | hq
      · exact h q hq
      · rw [List.mem_singleton.mp hq]; exact pieceOf_ok c
    · exact h q hq
/-- all letters -/
noncomputable def wholeOf (ps : List Pc) : List Nat := (ps.map (·.1)).flatten
theorem wholeOf_len (ps : List Pc) : (wholeOf ps).length = tot ps := by unfold wholeOf tot; rw [List.length_flatten, List.map_map]; rfl
theorem tot_le {ps : List Pc} (h : ∀ p ∈ ps, PcOk p) : tot ps ≤ 3 * ps.length := by
  induction ps with
  | nil => exact Nat.le_refl _
  | cons p r ih =>
    have h1 := (h p List.mem_cons_self).hi
    have h2 := ih fun q hq => h q (List.mem_cons_of_mem _ hq)
    show (((p :: r).map fun p => p.1.length).sum) ≤ 3 * (r.length + 1)
    rw [List.map_cons, List.sum_cons]
    have : tot r = (r.map fun p => p.1.length).sum := rfl
    omega
noncomputable def st5 : Stmt := pickSt (k := 5) _ rfl
theorem segC {w : World} {A : Around} {n : Nat} {mg mb : Str → Option Value} {s₀ s : Shared} {led : Led} {gs : GL} {Q : Flow → Shared → Prop} {L cD cC cS cO cL cT cR cH cM cQ lp lt : Addr} {ps : List Pc} {vp vt : List Value} {v1 : Option Value} (G : GG w mg mb s₀.heap) (hA : AOk A (n + 8))
    (H : Inn s₀ ((L, nsC [(Str.ofString "pieces", .ref lp), (Str.ofString "stops", .ref lt)]) :: (lp, lstC vp) :: (lt, lstC vt) :: (cL, celC v1) :: led) gs s) (hp : Paired isP ps vp) (ht : Paired (fun (m : Nat) v => isI m v) (stp ps) vt) (hok : ∀ p ∈ ps, PcOk p) (hn : ps.length ≤ 6)
    (k : ∀ (t1 t2 : Tok) (s' : Shared), Inn s₀ ((L, nsC [(Str.ofString "whole", .str ⟨(wholeOf ps).toArray⟩ t1), (Str.ofString "pieces", .ref lp), (Str.ofString "stops", .ref lt)]) :: (lp, lstC vp) :: (lt, lstC vt) :: (cL, celC (some (.int (tot ps : Nat) t2))) :: led) gs s' → Q .next s') :
    wpAny (MM w) A (execs [st5] (lenv L cD cC cS cO cL cT cR cH cM cQ)) Q (fun _ _ => False) s := by
  unfold st5 pickSt
  have hvpl : vp.length ≤ sizeLine := by rw [← hp.length]; exact Nat.le_trans hn (by decide)
  repeat' cell_call
  refine LF_list0 (fun p v => isS ⟨p.1.toArray⟩ v) hp hA H ?ur rfl (by kernel_rfl!) hvpl (fun p v lc i ys s hm hf H => ?_) (fun lc ys s hP H => ?_)
  case ur => tb_rel
  · have hpk := hok p hm
    cases hb : p.2
    · unfold isP at hf; rw [hb, if_neg Bool.false_ne_true] at hf
      obtain ⟨tv, rfl⟩ := hf
      repeat' cell_call
      exact ⟨⟨_, rfl⟩, H⟩
    · unfold isP at hf; rw [hb, if_pos rfl] at hf
      obtain ⟨tv, rfl⟩ := hf
      have h1 := hpk.num hb
      obtain ⟨c, hc⟩ := List.length_eq_one_iff.mp h1
      have hcz := hpk.az c (by rw [hc]; simp)
      rw [hc] at H ⊢
      have hcr : (decide (((c : Nat) : Int) < 0) || decide (((c : Nat) : Int) > 0x10FFFF)) = false := by
        rw [decide_eq_false (by omega), decide_eq_false (by omega)]; rfl
      rw [show ([c].headD 0) = c from rfl] at H ⊢
      repeat' cell_call
      exact ⟨⟨_, rfl⟩, H⟩
  refine cp_none H (fun s H => ?_) .head
  have hP' := paired_map (F := isS) (fun p : Pc => (⟨p.1.toArray⟩ : Str)) hP
  repeat' cell_call
  refine s_join H (fun tj s H => ?_) .head hP' ?hz
  case hz =>
    rw [show (Str.ofString "").length = 0 from by decide +kernel, List.map_map]
    have : (ps.map ((fun x : Str => x.length) ∘ fun p : Pc => (⟨p.1.toArray⟩ : Str))).sum = tot ps := by
      unfold tot; congr 1
    rw [this]
    have := tot_le hok
    omega
  have ej : Txt.join (Str.ofString "") (ps.map fun p : Pc => (⟨p.1.toArray⟩ : Str)) = ⟨(wholeOf ps).toArray⟩ := by
    rw [join_e, List.map_map]; rfl
  rw [ej]
  obtain ⟨pre, hpre⟩ := stp_last ps
  have ht2 := ht
  rw [hpre] at ht2
  obtain ⟨ws, vl, rfl, ⟨tl, rfl⟩, hws⟩ := paired_snoc_inv ht2
  repeat' cell_call
  have H := H.prune (L := L) (l' := [(Str.ofString "whole", .str ⟨(wholeOf ps).toArray⟩ tj), (Str.ofString "pieces", .ref lp), (Str.ofString "stops", .ref lt)]) (by tb_rel) (by tb_rel)
  exact k _ _ _ (H.pick (by tb_rel))
end
/-! ### L4 -/
section
noncomputable def mk (l : List Nat) : Str := ⟨l.toArray⟩
noncomputable def mxOf (stops : List Nat) (b : Nat) : Nat := (stops.filter fun x => decide (x ≤ b)).foldl Nat.max 0
noncomputable def dStep (W stops : List Nat) (q : List (List Nat) × List Nat) : List (List Nat) × List Nat :=
  (if q.1.flatten.length < W.length then q.1 ++ [(W.drop q.1.flatten.length).take (mxOf stops (q.1.flatten.length + 3) - q.1.flatten.length)] else q.1, q.2 ++ [q.1.flatten.length])
noncomputable def dRun (W stops : List Nat) : Nat → List (List Nat) × List Nat
  | 0 => ([], [])
  | n + 1 => dStep W stops (dRun W stops n)
noncomputable def st6 : Stmt := pickSt (k := 6) _ rfl
noncomputable def st7 : Stmt := pickSt (k := 7) _ rfl
noncomputable abbrev isN (m : Nat) (v : Value) : Prop := isI m v
noncomputable abbrev isL (l : List Nat) (v : Value) : Prop := isS (mk l) v
theorem mk_len (l : List Nat) : (mk l).length = l.length := by rw [str_len]; rfl
theorem join_mk (l : List (List Nat)) : Txt.join (Str.ofString "") (l.map mk) = mk l.flatten := by
  rw [join_e, List.map_map]; unfold mk; congr 3
  induction l with
  | nil => rfl
  | cons a r ih => rw [List.map_cons, ih]; rfl
theorem mk_sum (l : List (List Nat)) : ((l.map mk).map (·.length)).sum = l.flatten.length := by
  induction l with
  | nil => rfl
  | cons a r ih => rw [List.map_cons, List.map_cons, List.sum_cons, ih, mk_len, List.flatten_cons, List.length_append]
section
variable {w : World} {A : Around} {E : Value → Shared → Prop} {s₀ s : Shared} {led led' : Led} {gs : GL} {env : Env} {n : Nat} {t u : Tok}
theorem l_add {a b : Addr} {xs ys : List Value} {Q : Value → Shared → Prop} (H : Inn s₀ led gs s) (k : ∀ D s', Inn s₀ ((D, lstC (xs ++ ys)) :: led) gs s' → Q (.ref D) s') (ra : Row a (lstC xs) led) (rb : Row b (lstC ys) led) (hz : xs.length + ys.length ≤ sizeLine) : wpAny (MM w) A (binaryOp .Add (.ref a) (.ref b)) Q E s := by
  obtain ⟨n1, e1⟩ := (H.has ra.mem).pln
  obtain ⟨n2, e2⟩ := (H.has rb.mem).pln
  exact P.add_list e1 e2 (k _ _ (H.push (o := { cls := .type "list", data := .seq (xs.toArray ++ ys.toArray) }) (show lstC (xs ++ ys) _ from ⟨0, by simp⟩) s.toks)) (by simpa using hz)
end
theorem slice_mk {W : List Nat} {a b : Nat} (hab : a ≤ b) (hb : b ≤ W.length) : Txt.slice (mk W) (some (a : Int)) (some (b : Int)) = mk ((W.drop a).take (b - a)) := by
  have := StrLaws.sliceText_nat (mk W) hab (by rw [mk_len]; exact hb)
  exact this
theorem foldl_max : ∀ (l : List Nat) (b : Nat), b ≤ l.foldl Nat.max b ∧ (∀ a ∈ l, a ≤ l.foldl Nat.max b) ∧ (l.foldl Nat.max b = b ∨ l.foldl Nat.max b ∈ l)
  | [], b => ⟨Nat.le_refl _, fun _ h => (nomatch h), .inl rfl⟩
  | x :: r, b => by
    obtain ⟨h1, h2, h3⟩ := foldl_max r (Nat.max b x)
    rw [List.foldl_cons]
    have e1 : b ≤ Nat.max b x := Nat.le_max_left ..
    have e2 : x ≤ Nat.max b x := Nat.le_max_right ..
    refine ⟨Nat.le_trans e1 h1, fun a ha => ?_, ?_⟩
    · rcases List.mem_cons.mp ha with rfl | ha
      · exact Nat.le_trans e2 h1
      · exact h2 a ha
    · rcases h3 with h3 | h3
      · rw [h3]
        rcases Nat.le_total b x with h | h
        · exact .inr (by rw [show Nat.max b x = x from Nat.max_eq_right h]; exact List.mem_cons_self)
        · exact .inl (Nat.max_eq_left h)
      · exact .inr (List.mem_cons_of_mem _ h3)
theorem max_is {l : List Nat} {M : Int} (h1 : M ∈ l.map fun m : Nat => (m : Int)) (h2 : ∀ a ∈ l.map (fun m : Nat => (m : Int)), a ≤ M) : M = ((l.foldl Nat.max 0 : Nat) : Int) := by
  obtain ⟨m, hm, rfl⟩ := List.mem_map.mp h1
  obtain ⟨g1, g2, g3⟩ := foldl_max l 0
  have := g2 m hm
  rcases g3 with g3 | g3
  · exact congrArg Int.ofNat (Nat.le_antisymm this (Nat.le_trans (Nat.le_of_eq g3) (Nat.zero_le m)))
  · exact congrArg Int.ofNat (Nat.le_antisymm this (Int.ofNat_le.mp (h2 _ (List.mem_map.mpr ⟨_, g3, rfl⟩))))
theorem dRun_len (W stops : List Nat) : ∀ n, (dRun W stops n).2.length = n ∧ (dRun W stops n).1.length ≤ n ∧ (dRun W stops n).1.flatten.length ≤ n * W.length
  | 0 => ⟨rfl, Nat.le_refl _, Nat.zero_le _⟩
  | n + 1 => by
    obtain ⟨h1, h2, h3⟩ := dRun_len W stops n
    unfold dRun dStep
    refine ⟨by simp [h1], ?_, ?_⟩
    · dsimp only; split
      · simp; exact h2
      · exact Nat.le_succ_of_le h2
    · dsimp only; rw [Nat.succ_mul]; split
      · rw [List.flatten_append, List.length_append]
        have : ([(W.drop (dRun W stops n).1.flatten.length).take (mxOf stops ((dRun W stops n).1.flatten.length + 3) - (dRun W stops n).1.flatten.length)] : List (List Nat)).flatten.length ≤ W.length := by
          simp only [List.flatten_cons, List.flatten_nil, List.append_nil, List.length_take, List.length_drop]; exact Nat.le_trans (Nat.min_le_right ..) (Nat.sub_le ..)
        exact Nat.add_le_add h3 this
      · exact Nat.le_trans h3 (Nat.le_add_right ..)
theorem segD {w : World} {A : Around} {n : Nat} {mg mb : Str → Option Value} {s₀ s : Shared} {led : Led} {gs : GL} {Q : Flow → Shared → Prop} {L cD cC cS cO cL cT cR cH cM cQ lp lt : Addr} {vt : List Value} {W stops : List Nat} {v1 v2 : Option Value} {tw tl : Tok} (G : GG w mg mb s₀.heap) (hA : AOk A (n + 8))
    (H : Inn s₀ ((L, nsC [(Str.ofString "whole", .str (mk W) tw), (Str.ofString "pieces", .ref lp), (Str.ofString "stops", .ref lt)]) :: (lt, lstC vt) :: (cL, celC (some (.int W.length tl))) :: (cT, celC v1) :: (cR, celC v2) :: led) gs s) (ht : Paired isN stops vt) (hn : W.length ≤ 18) (hs : stops.length ≤ 7)
    (h0 : 0 ∈ stops) (hsw : ∀ x ∈ stops, x ≤ W.length) (hmx : ∀ st, st < W.length → st ≤ mxOf stops (st + 3))
    (k : ∀ (ld lst lr : Addr) (vd vs : List Value) (s' : Shared), Paired isL (dRun W stops 6).1 vd → Paired isN (dRun W stops 6).2 vs → Inn s₀ ((L, nsC [(Str.ofString "due", .ref ld), (Str.ofString "pieces", .ref lp), (Str.ofString "stops", .ref lt)]) :: (cT, celC (some (.ref lst))) :: (cR, celC (some (.ref lr))) :: (ld, lstC vd) :: (lst, lstC vs) :: (lr, lstC []) :: (lt, lstC vt) ::
      (cL, celC (some (.int W.length tl))) :: led) gs s' → Q .next s') :
    wpAny (MM w) A (execs [st6, st7] (lenv L cD cC cS cO cL cT cR cH cM cQ)) Q (fun _ _ => False) s := by
  unfold st6 st7 pickSt
  repeat' cell_call
  refine' for_ix (n := 6) (fun i s => ∃ (ld lst lr : Addr) (vd vs : List Value), Paired isL (dRun W stops i).1 vd ∧ Paired isN (dRun W stops i).2 vs ∧ Inn s₀ ((D, riC i 6) :: (L, nsC [(Str.ofString "due", .ref ld), (Str.ofString "whole", .str (mk W) tw), (Str.ofString "pieces", .ref lp), (Str.ofString "stops", .ref lt)]) :: (cT, celC (some (.ref lst))) :: (cR, celC (some (.ref lr))) :: (ld, lstC vd) :: (lst, lstC vs) :: (lr, lstC []) :: (lt, lstC vt) ::
      (cL, celC (some (.int W.length tl))) :: led) gs s) ?turn ?done ?h00
  case h00 =>
    exact ⟨_, _, _, [], [], .nil, .nil, H.pick (by tb_rel)⟩
  case done =>
    clear H; rintro s ⟨ld, lst, lr, vd, vs, h1, h2, H⟩
    refine nx_range_end H hA (fun s H => ⟨rfl, ?_⟩) .head (Int.le_refl _)
    repeat' cell_call
    have H := H.prune (L := L) (l' := [(Str.ofString "due", .ref ld), (Str.ofString "pieces", .ref lp), (Str.ofString "stops", .ref lt)]) (by tb_rel) (by tb_rel)
    exact k _ _ _ _ _ _ h1 h2 (H.pick (by tb_rel))
  case turn =>
    obtain ⟨J, rfl⟩ : ∃ J, J = D := ⟨_, rfl⟩
    clear H; rintro i s hi ⟨ld, lst, lr, vd, vs, h1, h2, H⟩
    intro Rq hRq
    refine nx_range H (fun t s H => ?_) .head (by omega)
    refine go_name ?_
    repeat' cell_call
    obtain ⟨g1, g2, g3⟩ := dRun_len W stops i
    have g4 : i * W.length ≤ 108 := Nat.le_trans (Nat.mul_le_mul (show i ≤ 6 by omega) hn) (by decide)
    refine s_join H (fun tj s H => ?_) ?r1 (paired_map mk h1) ?hz
    case r1 => tb_rel
    case hz => rw [mk_sum, show (Str.ofString "").length = 0 from by decide +kernel]; omega
    rw [join_mk]
    have hjz : (mk (dRun W stops i).1.flatten).length ≤ sizeLine := by rw [mk_len]; exact Nat.le_trans (show _ ≤ 108 by omega) (by decide)
    have hvz : vs.length ≤ sizeLine := by rw [← h2.length, g1]; exact Nat.le_trans (show i ≤ 6 by omega) (by decide)
    repeat' cell_call
    rw [mk_len] at H ⊢
    have hlt : (dRun W stops (i + 1)) = dStep W stops (dRun W stops i) := rfl
    rw [hlt] at hRq
    generalize dRun W stops i = q at *
    have hsnoc : ∀ t, Paired isN (q.2 ++ [q.1.flatten.length]) (vs ++ [Value.int (q.1.flatten.length : Nat) t]) := fun t => h2.snoc ⟨t, rfl⟩
    refine PyProof.Rows.split_bool (fun hb => ?_) (fun hb => ?_)
    · have hlt : q.1.flatten.length < W.length := by have := of_decide_eq_true hb; omega
      rw [show dStep W stops q = (q.1 ++ [(W.drop q.1.flatten.length).take (mxOf stops (q.1.flatten.length + 3) - q.1.flatten.length)], q.2 ++ [q.1.flatten.length]) from by unfold dStep; rw [if_pos hlt]] at hRq
      have hvdz : vd.length ≤ sizeLine := by rw [← h1.length]; exact Nat.le_trans (show q.1.length ≤ 6 by omega) (by decide)
      have hvtz : vt.length ≤ sizeLine := by rw [← ht.length]; exact Nat.le_trans hs (by decide)
      repeat' cell_call
      refine' LF_list (fun x : Nat => decide (x ≤ q.1.flatten.length + 3)) (fun (x : Nat) v => isN x v) ht hA H ?r2 rfl (by kernel_rfl!) hvtz (fun a v lc i ys s ha hf H => ?hp) (fun a v lc i ys s ha hf hpa H => ?hG) (fun lc ys s hP H => ?hK)
      case r2 => tb_rel
      case hp =>
        obtain ⟨ta, rfl⟩ := hf
        refine wpAny_tests_one ?_
        repeat' cell_call
        refine ⟨?_, H⟩
        rw [decide_eq_decide]; omega
      case hG =>
        obtain ⟨ta, rfl⟩ := hf
        repeat' cell_call
        exact ⟨⟨_, rfl⟩, H⟩
      case hK =>
        refine cp_none H (fun s H => ?_) .head
        repeat' cell_call
        have hP2 := paired_map (F := isI) (fun m : Nat => (m : Int)) hP
        refine c_max H hA (fun M tM s hM1 hM2 H => ?_) .head hP2 (by
          rw [List.length_map]
          exact List.length_pos_of_mem (List.mem_filter.mpr ⟨h0, by simp⟩))
        have hM := max_is hM1 hM2
        rw [show (stops.filter fun x => decide (x ≤ q.1.flatten.length + 3)).foldl Nat.max 0 = mxOf stops (q.1.flatten.length + 3) from rfl] at hM
        have hMW : mxOf stops (q.1.flatten.length + 3) ≤ W.length := by
          obtain ⟨m, hm, e⟩ := List.mem_map.mp hM1
          have := hsw m (List.mem_filter.mp hm).1
          omega
        have hMs := hmx _ hlt
        subst hM
        have hWz : (mk W).length ≤ sizeLine := by rw [mk_len]; exact Nat.le_trans hn (by decide)
        repeat' cell_call
        have hsl := slice_mk hMs hMW
        refine' l_add (xs := vd) H (fun Dn s H => ?_) ?ra .head ?hz
        case ra => tb_rel
        case hz => exact Nat.le_trans (Nat.add_le_add_right (show vd.length ≤ 6 by rw [← h1.length]; omega) 1) (by decide)
        repeat' cell_call
        exact ⟨_, _, _, _, _, h1.snoc ⟨_, congrArg (fun x => Value.str x _) hsl⟩, hsnoc _, (H.prune (L := L) (l' := [(Str.ofString "due", .ref _), (Str.ofString "whole", .str (mk W) tw), (Str.ofString "pieces", .ref lp), (Str.ofString "stops", .ref lt)]) (by tb_rel) (by tb_rel)).pick (by tb_rel)⟩
    · have hlt : ¬ q.1.flatten.length < W.length := by have := of_decide_eq_false hb; omega
      rw [show dStep W stops q = (q.1, q.2 ++ [q.1.flatten.length]) from by unfold dStep; rw [if_neg hlt]] at hRq
      repeat' cell_call
      exact ⟨_, _, _, _, _, h1, hsnoc _, (H.prune (L := L) (l' := [(Str.ofString "due", .ref ld), (Str.ofString "whole", .str (mk W) tw), (Str.ofString "pieces", .ref lp), (Str.ofString "stops", .ref lt)]) (by tb_rel) (by tb_rel)).pick (by tb_rel)⟩
end
/-! ### Z1 -/
section
/-! ### zip over two lists -/
noncomputable def zpC (TI TO : Addr) (f0 : Value) : Cell := fun o => o = { cls := .type "zip", dict := none, data := .fields #[f0, .bool false, .bool false, .ref TI, .ref TO], slots := #[] }
theorem Inn.adds {s₀ s s' : Shared} {led : Led} {gs : GL} (rs : Led) (H : Inn s₀ led gs s) (hk : ∀ b o, s.heap.get? b = some o → s'.heap.get? b = some o) (hn : ∀ p ∈ rs, s.heap.objs.size ≤ p.1) (hd : (rs.map Prod.fst).Nodup) (hh : ∀ p ∈ rs, Has s'.heap p) (ho : s'.os = s.os := by rfl) (hg : s'.gens = s.gens := by rfl) : Inn s₀ (rs ++ led) gs s' := by
  have none0 : ∀ j, s.heap.objs.size ≤ j → s.heap.get? j = none := fun j hj => get?_none_of_size hj
  have none1 : ∀ j, s.heap.objs.size ≤ j → s₀.heap.get? j = none := fun j hj => by
    cases q : s₀.heap.get? j with
    | none => rfl
    | some o => have := H.keep _ _ q; rw [none0 j hj] at this; cases this
  have g := H.keeps (s' := s') hk ho hg
  refine ⟨g.keep, fun p hp => ?_, ?_, g.os, g.bare, g.gl⟩
  · rcases List.mem_append.mp hp with hp | hp
    · exact ⟨hh p hp, none1 _ (hn p hp)⟩
    · exact g.ld p hp
  · rw [List.map_append, List.nodup_append]
    refine ⟨hd, g.nd, fun a ha b hb e => ?_⟩
    obtain ⟨p, hp, rfl⟩ := List.mem_map.mp ha
    obtain ⟨q, hq, rfl⟩ := List.mem_map.mp hb
    obtain ⟨o, ho', _⟩ := (H.ld q hq).1
    rw [← e, none0 _ (hn p hp)] at ho'; cases ho'
section
variable {w : World} {A : Around} {E : Value → Shared → Prop} {s₀ s : Shared} {led led' r₁ : Led} {gs : GL} {n : Nat}
theorem mk_zip {l1 l2 : Addr} {xs ys : List Value} {Q : Value → Shared → Prop} (H : Inn s₀ led gs s) (r1 : Row l1 (lstC xs) led) (r2 : Row l2 (lstC ys) led)
    (k : ∀ z TI TO i1 i2 s', Inn s₀ ((z, zpC TI TO .none) :: (TI, prC (.ref i1) (.ref i2)) :: (TO, toC) :: (i1, liC l1 0) :: (i2, liC l2 0) :: led) gs s' → Q (.ref z) s') : wpAny (MM w) A (call (.type "zip") [.ref l1, .ref l2]) Q E s :=
  call_zip_2 (H.has r1.mem).lst (H.has r2.mem).lst fun h' hz hTI hTO h1 h2 hsz hk => k _ (s.heap.objs.size + 2) (s.heap.objs.size + 3) s.heap.objs.size (s.heap.objs.size + 1) _ (by
    refine Inn.adds (s' := { s with heap := h' }) [(s.heap.objs.size + 4, _), (s.heap.objs.size + 2, _), (s.heap.objs.size + 3, _), (s.heap.objs.size, _), (s.heap.objs.size + 1, _)] H hk (fun p hp => ?_) ?_ (fun p hp => ?_)
    · simp only [List.mem_cons, List.not_mem_nil, or_false] at hp
      rcases hp with rfl | rfl | rfl | rfl | rfl <;> simp
    · simp
    · simp only [List.mem_cons, List.not_mem_nil, or_false] at hp
      rcases hp with rfl | rfl | rfl | rfl | rfl
      · exact ⟨_, hz, rfl⟩
      · exact ⟨_, hTI, rfl⟩
      · exact ⟨_, hTO, _, _, rfl⟩
      · exact h1
      · exact h2)
theorem zip_apart {z TI TO i1 i2 l1 l2 : Addr} {c1 c2 c3 c4 c5 c6 c7 : Cell} (H : Inn s₀ ((z, c1) :: (TI, c2) :: (TO, c3) :: (i1, c4) :: (i2, c5) :: r₁) gs s) (r1 : Row l1 c6 r₁) (r2 : Row l2 c7 r₁) : ZipApart z TI TO i1 i2 l1 l2 := by
  have nd := H.nd
  have m1 : l1 ∈ r₁.map Prod.fst := List.mem_map.mpr ⟨_, r1.mem, rfl⟩
  have m2 : l2 ∈ r₁.map Prod.fst := List.mem_map.mpr ⟨_, r2.mem, rfl⟩
  simp only [List.map_cons, List.nodup_cons, List.mem_cons, not_or] at nd
  obtain ⟨⟨a1, a2, a3, a4, a5⟩, ⟨b1, b2, b3, b4⟩, ⟨d1, d2, d3⟩, ⟨e1, e2⟩, f1, _⟩ := nd
  exact ⟨Ne.symm a1, Ne.symm a2, Ne.symm a3, Ne.symm a4, b1, b2, b3, d1, d2, e1, fun e => a5 (e ▸ m1), fun e => d3 (e ▸ m1), fun e => e2 (e ▸ m1), fun e => f1 (e ▸ m1), fun e => a5 (e ▸ m2), fun e => d3 (e ▸ m2), fun e => e2 (e ▸ m2), fun e => f1 (e ▸ m2)⟩
noncomputable abbrev zRows (z TI TO i1 i2 l1 l2 : Addr) (f0 : Value) (j : Nat) (r : Led) : Led := (z, zpC TI TO f0) :: (TI, prC (.ref i1) (.ref i2)) :: (TO, toC) :: (i1, liC l1 j) :: (i2, liC l2 j) :: r
theorem it_zip {z TI TO : Addr} {f0 : Value} {Q : Value → Shared → Prop} (H : Inn s₀ led gs s) (k : Q (.ref z) s) (r : Row z (zpC TI TO f0) led) : wpAny (MM w) A (pyIter (.ref z)) Q E s := by
  obtain ⟨o, ho, rfl⟩ := H.has r.mem
  exact wpAny_pyIter_zip ho k
theorem nx_zip {z TI TO i1 i2 l1 l2 : Addr} {j : Nat} {xs ys : List Value} {x y : Value} {Q : Option Value → Shared → Prop} (H : Inn s₀ (zRows z TI TO i1 i2 l1 l2 .none j r₁) gs s) (r1 : Row l1 (lstC xs) r₁) (r2 : Row l2 (lstC ys) r₁) (hx : xs[j]? = some x) (hy : ys[j]? = some y)
    (k : ∀ T s', Inn s₀ ((T, tupC [x, y]) :: zRows z TI TO i1 i2 l1 l2 (rawInt T) (j + 1) r₁) gs s' → Q (some (.ref T)) s') : wpAny (MM w) A (pyNext (.ref z)) Q E s := by
  have D := zip_apart H r1 r2
  obtain ⟨oz, hz, rfl⟩ := H.has (a := z) (c := zpC TI TO .none) (by simp)
  obtain ⟨oI, hI, rfl⟩ := H.has (a := TI) (c := prC (.ref i1) (.ref i2)) (by simp)
  obtain ⟨oO, hO, a, b, rfl⟩ := H.has (a := TO) (c := toC) (by simp)
  have h1 : s.heap.IsListIter i1 l1 j := H.has (a := i1) (c := liC l1 j) (by simp)
  have h2 : s.heap.IsListIter i2 l2 j := H.has (a := i2) (c := liC l2 j) (by simp)
  have m1 : (l1, lstC xs) ∈ zRows z TI TO i1 i2 l1 l2 .none j r₁ := by simp [r1.mem]
  have m2 : (l2, lstC ys) ∈ zRows z TI TO i1 i2 l1 l2 .none j r₁ := by simp [r2.mem]
  refine wpAny_pyNext_zip_item D hz hI hO h1 h2 (H.has m1).lst (H.has m2).lst (by simpa using hx) (by simpa using hy) fun h' a1 a2 a3 a4 a5 a6 hk => ?_
  have g : Inn s₀ (zRows z TI TO i1 i2 l1 l2 (rawInt s.heap.objs.size) (j + 1) r₁) gs { s with heap := h' } := by
    refine H.upds (ws := [(z, zpC TI TO .none, zpC TI TO (rawInt s.heap.objs.size)), (TO, toC, toC), (i1, liC l1 j, liC l1 (j + 1)), (i2, liC l2 j, liC l2 (j + 1))]) ⟨_, .head, _, .tail (.tail .head), _, .tail (.tail (.tail .head)), _, .tail (.tail (.tail (.tail .head))), rfl⟩
      (fun b o hb e => hk b o (hb _ List.mem_cons_self) (hb _ (List.mem_cons_of_mem _ List.mem_cons_self)) (hb _ (List.mem_cons_of_mem _ (List.mem_cons_of_mem _ List.mem_cons_self))) (hb _ (List.mem_cons_of_mem _ (List.mem_cons_of_mem _ (List.mem_cons_of_mem _ List.mem_cons_self)))) e) (fun p hp => ?_)
    simp only [List.mem_cons, List.not_mem_nil, or_false] at hp
    rcases hp with rfl | rfl | rfl | rfl
    · exact ⟨_, a1, rfl⟩
    · exact ⟨_, a2, _, _, rfl⟩
    · exact a3
    · exact a4
  have hT : s.heap.get? s.heap.objs.size = none := get?_none_of_size (Nat.le_refl _)
  refine k _ _ ⟨g.keep, fun p hp => ?_, ?_, g.os, g.bare, g.gl⟩
  · rcases List.mem_cons.mp hp with rfl | hp
    · refine ⟨⟨_, a5, rfl, _, rfl⟩, ?_⟩
      cases q : s₀.heap.get? s.heap.objs.size with
      | none => rfl
      | some o => rw [H.keep _ _ q] at hT; cases hT
    · exact g.ld p hp
  · rw [List.map_cons, List.nodup_cons]
    refine ⟨fun hm => ?_, g.nd⟩
    obtain ⟨p, hp, e⟩ := List.mem_map.mp (show s.heap.objs.size ∈ (zRows z TI TO i1 i2 l1 l2 .none j r₁).map Prod.fst from hm)
    obtain ⟨o, ho, _⟩ := (H.ld p hp).1
    rw [show p.1 = s.heap.objs.size from e, hT] at ho; cases ho
theorem nx_zip_end {z TI TO i1 i2 l1 l2 : Addr} {j : Nat} {xs ys : List Value} {Q : Option Value → Shared → Prop} (H : Inn s₀ (zRows z TI TO i1 i2 l1 l2 .none j r₁) gs s) (hA : AOk A n) (r1 : Row l1 (lstC xs) r₁) (r2 : Row l2 (lstC ys) r₁) (hend : xs.length ≤ j ∨ ys.length ≤ j)
    (k : ∀ s', Inn s₀ r₁ gs s' → Q none s') : wpAny (MM w) A (pyNext (.ref z)) Q E s := by
  have D := zip_apart H r1 r2
  obtain ⟨oz, hz, rfl⟩ := H.has (a := z) (c := zpC TI TO .none) (by simp)
  obtain ⟨oI, hI, rfl⟩ := H.has (a := TI) (c := prC (.ref i1) (.ref i2)) (by simp)
  obtain ⟨oO, hO, a, b, rfl⟩ := H.has (a := TO) (c := toC) (by simp)
  have h1 : s.heap.IsListIter i1 l1 j := H.has (a := i1) (c := liC l1 j) (by simp)
  have h2 : s.heap.IsListIter i2 l2 j := H.has (a := i2) (c := liC l2 j) (by simp)
  have m1 : (l1, lstC xs) ∈ zRows z TI TO i1 i2 l1 l2 .none j r₁ := by simp [r1.mem]
  have m2 : (l2, lstC ys) ∈ zRows z TI TO i1 i2 l1 l2 .none j r₁ := by simp [r2.mem]
  refine wpAny_pyNext_zip_end hA.h D hz hI hO h1 h2 (H.has m1).lst (H.has m2).lst (by simpa using hend) fun h' hk => k _ ?_
  have nd := H.nd
  simp only [List.map_cons, List.nodup_cons, List.mem_cons, not_or] at nd
  obtain ⟨⟨_, _, _, _, a5⟩, ⟨_, _, _, _⟩, ⟨_, _, d3⟩, ⟨_, e2⟩, f1, nd⟩ := nd
  have hne : ∀ p ∈ r₁, p.1 ≠ z ∧ p.1 ≠ TO ∧ p.1 ≠ i1 ∧ p.1 ≠ i2 := fun p hp => by
    have : p.1 ∈ r₁.map Prod.fst := List.mem_map.mpr ⟨p, hp, rfl⟩
    exact ⟨fun e => a5 (e ▸ this), fun e => d3 (e ▸ this), fun e => e2 (e ▸ this), fun e => f1 (e ▸ this)⟩
  have fr : ∀ p ∈ zRows z TI TO i1 i2 l1 l2 .none j r₁, ∀ o, s₀.heap.get? p.1 ≠ some o := fun p hp o e => by rw [(H.ld p hp).2] at e; cases e
  refine ⟨fun b o e => hk b o (fun q => ?_) (fun q => ?_) (fun q => ?_) (fun q => ?_) (H.keep b o e), fun p hp => ?_, nd, H.os, H.bare, H.gl⟩
  · exact fr (z, zpC TI TO .none) (by simp) o (q ▸ e)
  · exact fr (TO, toC) (by simp) o (q ▸ e)
  · exact fr (i1, liC l1 j) (by simp) o (q ▸ e)
  · exact fr (i2, liC l2 j) (by simp) o (q ▸ e)
  · have h := H.ld p (by simp [hp])
    obtain ⟨n1, n2, n3, n4⟩ := hne p hp
    exact ⟨h.1.keeps fun o e => hk _ o n1 n2 n3 n4 e, h.2⟩
theorem go_zip {elts : List Expr} {x1 : Nat} {pos : Pos} {z TI TO T : Addr} {Q : Unit → Shared → Prop} (H : Inn s₀ led gs s) (k : ∀ s', Inn s₀ led' gs s' → Q () s') (u : Upd z (zpC TI TO (rawInt T)) (zpC TI TO .none) led led') : wpAny (MM w) A (letOwnedTupleGo (.Tuple elts x1 pos) (.ref z) (.ref T)) Q E s := by
  obtain ⟨o, ho, rfl⟩ := H.has u.mem
  exact wpAny_letOwnedTupleGo_zip ho fun h' h1 h2 => k _ (H.upd u (fun b o hb e => h2.extBut b o hb e) ⟨_, h1, rfl⟩)
end
end
/-! ### L5 -/
section
/-- what the loop hands to _max_append -/
noncomputable def prefS : Str := Str.ofString " \t"
noncomputable def handE (starts : List Nat) (p : Pc) (first : Nat) : Str := if (starts.contains first && !p.2) = true then prefS ++ mk p.1 else mk p.1
noncomputable def eRun (starts : List Nat) : List Pc → List Nat → List Str → List Str
  | p :: ps, f :: fs, rows => eRun starts ps fs (maxA rows (handE starts p f))
  | _, _, rows => rows
theorem Upd.uniq {a : Addr} {c c' : Cell} {l l1 l2 : Led} (nd : (l.map Prod.fst).Nodup) (u : Upd a c c' l l1) (v : Upd a c c' l l2) : l1 = l2 := by
  induction u generalizing l2 with
  | head => cases v with
    | head => rfl
    | tail h =>
      rw [List.map_cons, List.nodup_cons] at nd
      exact absurd (List.mem_map.mpr ⟨_, h.mem, rfl⟩) nd.1
  | tail h ih =>
    rw [List.map_cons, List.nodup_cons] at nd
    cases v with
    | head => exact absurd (List.mem_map.mpr ⟨_, h.mem, rfl⟩) nd.1
    | tail g => rw [ih nd.2 g]
theorem any_cast (l : List Nat) (f : Nat) : (l.map fun m : Nat => (m : Int)).any (· == (f : Int)) = l.contains f := by
  induction l with
  | nil => rfl
  | cons a r ih =>
    rw [List.map_cons, List.any_cons, ih, List.contains_cons]
    congr 1
    rw [Bool.eq_iff_iff]; simp; omega
theorem maxA_len {rows : List Str} {x : Str} {b : Nat} (hb : 3 ≤ b) (h : ∀ y ∈ rows, y.length ≤ b) (hx : x.length ≤ b) : (maxA rows x).length ≤ rows.length + 1 ∧ ∀ y ∈ maxA rows x, y.length ≤ b := by
  have hl := len_lstrip x
  unfold maxA
  rcases List.eq_nil_or_concat rows with rfl | ⟨r0, y, rfl⟩
  · exact ⟨Nat.le_refl _, fun z hz => by rw [List.mem_singleton.mp hz]; omega⟩
  · rw [List.concat_eq_append] at *
    have hrev : (r0 ++ [y]).reverse = y :: r0.reverse := by simp
    rw [hrev]
    dsimp only
    split
    · refine ⟨by simp, fun z hz => ?_⟩
      rcases List.mem_append.mp hz with hz | hz
      · exact h z (List.mem_append_left _ (by simpa using hz))
      · rw [List.mem_singleton.mp hz, app_len]; omega
    · refine ⟨by simp, fun z hz => ?_⟩
      rcases List.mem_append.mp hz with hz | hz
      · exact h z hz
      · rw [List.mem_singleton.mp hz]; omega
noncomputable def st8 : Stmt := pickSt (k := 8) _ rfl
theorem segE {w : World} {A : Around} {n : Nat} {mg mb : Str → Option Value} {s₀ s : Shared} {led : Led} {gs : GL} {Q : Flow → Shared → Prop} {L cD cC cS cO cL cT cR cH cM cQ ld lp lt lst lr : Addr} {vp vt vs : List Value} {ps : List Pc} {stops starts : List Nat} (G : GG w mg mb s₀.heap) (hA : AOk A (n + 8))
    (H : Inn s₀ ((L, nsC [(Str.ofString "due", .ref ld), (Str.ofString "pieces", .ref lp), (Str.ofString "stops", .ref lt)]) :: (cT, celC (some (.ref lst))) :: (cR, celC (some (.ref lr))) :: (lp, lstC vp) :: (lt, lstC vt) :: (lst, lstC vs) :: (lr, lstC []) :: led) gs s)
    (hp : Paired isP ps vp) (ht : Paired isN stops vt) (hst : Paired isN starts vs) (hok : ∀ p ∈ ps, PcOk p) (hn : ps.length ≤ 6) (hs : stops.length = ps.length + 1)
    (k : ∀ (vr : List Value) (s' : Shared), Paired isS (eRun starts ps stops []) vr → Inn s₀ ((L, nsC [(Str.ofString "due", .ref ld)]) :: (cR, celC (some (.ref lr))) :: (lr, lstC vr) :: led) gs s' → Q .next s') :
    wpAny (MM w) A (execs [st8] (lenv L cD cC cS cO cL cT cR cH cM cQ)) Q (fun _ _ => False) s := by
  unfold st8 pickSt
  repeat' cell_call
  refine' mk_zip (xs := vp) (ys := vt) H ?r1 ?r2 (fun z TI TO i1 i2 s H => ?_)
  case r1 => tb_rel
  case r2 => tb_rel
  refine it_zip H ?_ .head
  refine' for_ix (n := ps.length) (fun i s => ∃ (rows : List Str) (vr : List Value), Paired isS rows vr ∧ rows.length ≤ i ∧ (∀ y ∈ rows, y.length ≤ 10) ∧ eRun starts (ps.drop i) (stops.drop i) rows = eRun starts ps stops [] ∧
      Inn s₀ (zRows z TI TO i1 i2 lp lt .none i ((L, nsC [(Str.ofString "due", .ref ld), (Str.ofString "pieces", .ref lp), (Str.ofString "stops", .ref lt)]) :: (cT, celC (some (.ref lst))) :: (cR, celC (some (.ref lr))) :: (lp, lstC vp) :: (lt, lstC vt) :: (lst, lstC vs) :: (lr, lstC vr) :: led)) gs s) ?turn ?done ?h0
  case h0 => exact ⟨[], [], .nil, Nat.le_refl _, fun _ h => (nomatch h), rfl, H⟩
  case done =>
    clear H; rintro s ⟨rows, vr, hr, hl, hy, he, H⟩
    refine nx_zip_end H hA (.tail (.tail (.tail .head))) (.tail (.tail (.tail (.tail .head)))) (.inl (by rw [← hp.length]; exact Nat.le_refl _)) (fun s H => ⟨rfl, ?_⟩)
    repeat' cell_call
    rw [List.drop_length] at he
    rw [← he] at k
    have H := H.prune (L := L) (l' := [(Str.ofString "due", .ref ld)]) (by tb_rel) (by tb_rel)
    exact k _ _ hr (H.pick (by tb_rel))
  case turn =>
    clear H; rintro i s hi ⟨rows, vr, hr, hl, hy, he, H⟩
    intro Rq hRq
    obtain ⟨v, hvi, hpv⟩ := paired_get' hp (List.getElem?_eq_getElem hi)
    have hi2 : i < stops.length := by rw [hs]; exact Nat.lt_succ_of_lt hi
    obtain ⟨v2, hvi2, t2, rfl⟩ := paired_get' ht (List.getElem?_eq_getElem hi2)
    refine nx_zip H (.tail (.tail (.tail .head))) (.tail (.tail (.tail (.tail .head)))) hvi hvi2 (fun T s H => ?_)
    refine go_zip H (fun s H => ?_) (.tail .head)
    rw [List.drop_eq_getElem_cons hi, List.drop_eq_getElem_cons hi2] at he
    have hpk := hok ps[i] (List.getElem_mem hi)
    generalize ps[i] = p at hpv hpk he
    generalize stops[i] = f at H he
    refine as_tuple H hA (fun s H => ?_) .head rfl rfl
    repeat' cell_call
    refine i_in H ?_ ?r3 (paired_map (F := isI) (fun m : Nat => (m : Int)) hst)
    case r3 => tb_rel
    rw [any_cast]
    have hstep : eRun starts (p :: ps.drop (i + 1)) (f :: stops.drop (i + 1)) rows = eRun starts (ps.drop (i + 1)) (stops.drop (i + 1)) (maxA rows (handE starts p f)) := rfl
    rw [hstep] at he
    have hpx : (handE starts p f).length ≤ 10 := by
      unfold handE
      split
      · rw [app_len, mk_len, show prefS.length = 2 from by decide +kernel]; exact Nat.le_trans (Nat.add_le_add_left hpk.hi 2) (by decide)
      · rw [mk_len]; exact Nat.le_trans hpk.hi (by decide)
    have hmx := maxA_len (by decide : 3 ≤ 10) hy hpx
    have haz : (Str.ofString " \t").length + (mk p.1).length ≤ sizeLine := by
      rw [mk_len, show (Str.ofString " \t").length = 2 from by decide +kernel]; exact Nat.le_trans (Nat.add_le_add_left hpk.hi 2) (by decide)
    have hrz : rows.length ≤ 1000 := Nat.le_trans hl (Nat.le_trans (Nat.le_of_lt hi) (Nat.le_trans hn (by decide)))
    have hyz : ∀ y ∈ rows, y.length ≤ 1000 := fun y h => Nat.le_trans (hy y h) (by decide)
    have hpz : (handE starts p f).length ≤ 1000 := Nat.le_trans hpx (by decide)
    repeat' cell_call
    cases hb : p.2
    · unfold isP at hpv; rw [hb, if_neg Bool.false_ne_true] at hpv
      obtain ⟨tv, rfl⟩ := hpv
      rw [show (⟨p.1.toArray⟩ : Str) = mk p.1 from rfl] at H
      refine PyProof.Rows.split_bool (fun hc => ?_) (fun hc => ?_)
      · have hE : handE starts p f = Str.ofString " \t" ++ mk p.1 := by unfold handE; rw [hc, hb]; rfl
        repeat' cell_call
        refine max_ct (led' := []) (rows := rows) (x := handE starts p f) G (hA.le (Nat.le_refl _ : (n + 4) + 4 ≤ n + 8)) H hr hrz hyz hpz (.inl ⟨_, by rw [hE]⟩) (by tb_rel) (fun vr' led' s hu hr' H2 => ?_)
        have e := Upd.uniq H.nd hu (.tail (.tail (.tail (.tail (.tail (.tail (.tail (.tail (.tail (.tail (.tail (.tail .head))))))))))))
        subst e
        clear H; rename Inn _ _ _ _ => H
        repeat' cell_call
        exact ⟨_, vr', hr', Nat.le_trans hmx.1 (Nat.succ_le_succ hl), hmx.2, he, (H.prune (L := L) (l' := [(Str.ofString "due", .ref ld), (Str.ofString "pieces", .ref lp), (Str.ofString "stops", .ref lt)]) (by tb_rel) (by tb_rel)).pick (by tb_rel)⟩
      · have hE : handE starts p f = mk p.1 := by unfold handE; rw [hc]; rfl
        repeat' cell_call
        refine max_ct (led' := []) (rows := rows) (x := handE starts p f) G (hA.le (Nat.le_refl _ : (n + 4) + 4 ≤ n + 8)) H hr hrz hyz hpz (.inl ⟨_, by rw [hE]⟩) (by tb_rel) (fun vr' led' s hu hr' H2 => ?_)
        have e := Upd.uniq H.nd hu (.tail (.tail (.tail (.tail (.tail (.tail (.tail (.tail (.tail (.tail (.tail (.tail .head))))))))))))
        subst e
        clear H; rename Inn _ _ _ _ => H
        repeat' cell_call
        exact ⟨_, vr', hr', Nat.le_trans hmx.1 (Nat.succ_le_succ hl), hmx.2, he, (H.prune (L := L) (l' := [(Str.ofString "due", .ref ld), (Str.ofString "pieces", .ref lp), (Str.ofString "stops", .ref lt)]) (by tb_rel) (by tb_rel)).pick (by tb_rel)⟩
    · unfold isP at hpv; rw [hb, if_pos rfl] at hpv
      obtain ⟨tv, rfl⟩ := hpv
      have hE : handE starts p f = mk p.1 := by unfold handE; rw [hb, show (!true) = false from rfl, Bool.and_false]; rfl
      obtain ⟨c, hc1⟩ := List.length_eq_one_iff.mp (hpk.num hb)
      have hcz := hpk.az c (by rw [hc1]; simp)
      rw [hc1] at hE H
      refine PyProof.Rows.split_bool (fun hc => ?_) (fun hc => ?_)
      · repeat' cell_call
        refine max_ct (led' := []) (rows := rows) (x := handE starts p f) G (hA.le (Nat.le_refl _ : (n + 4) + 4 ≤ n + 8)) H hr hrz hyz hpz (.inr ⟨c, _, rfl, hE, Nat.le_trans hcz.2 (by decide)⟩) (by tb_rel) (fun vr' led' s hu hr' H2 => ?_)
        have e := Upd.uniq H.nd hu (.tail (.tail (.tail (.tail (.tail (.tail (.tail (.tail (.tail (.tail (.tail (.tail .head))))))))))))
        subst e
        clear H; rename Inn _ _ _ _ => H
        repeat' cell_call
        exact ⟨_, vr', hr', Nat.le_trans hmx.1 (Nat.succ_le_succ hl), hmx.2, he, (H.prune (L := L) (l' := [(Str.ofString "due", .ref ld), (Str.ofString "pieces", .ref lp), (Str.ofString "stops", .ref lt)]) (by tb_rel) (by tb_rel)).pick (by tb_rel)⟩
      · repeat' cell_call
        refine max_ct (led' := []) (rows := rows) (x := handE starts p f) G (hA.le (Nat.le_refl _ : (n + 4) + 4 ≤ n + 8)) H hr hrz hyz hpz (.inr ⟨c, _, rfl, hE, Nat.le_trans hcz.2 (by decide)⟩) (by tb_rel) (fun vr' led' s hu hr' H2 => ?_)
        have e := Upd.uniq H.nd hu (.tail (.tail (.tail (.tail (.tail (.tail (.tail (.tail (.tail (.tail (.tail (.tail .head))))))))))))
        subst e
        clear H; rename Inn _ _ _ _ => H
        repeat' cell_call
        exact ⟨_, vr', hr', Nat.le_trans hmx.1 (Nat.succ_le_succ hl), hmx.2, he, (H.prune (L := L) (l' := [(Str.ofString "due", .ref ld), (Str.ofString "pieces", .ref lp), (Str.ofString "stops", .ref lt)]) (by tb_rel) (by tb_rel)).pick (by tb_rel)⟩
end
/-! ### L6 -/
section
noncomputable def st9 : Stmt := pickSt (k := 9) _ rfl
theorem segF {w : World} {A : Around} {n : Nat} {mg mb : Str → Option Value} {s₀ s : Shared} {led : Led} {gs : GL} {Q : Flow → Shared → Prop} {L cD cC cS cO cL cT cR cH cM cQ ld lr : Addr} {vd vr : List Value} {due : List (List Nat)} {rows : List Str} (G : GG w mg mb s₀.heap) (hA : AOk A (n + 8))
    (H : Inn s₀ ((L, nsC [(Str.ofString "due", .ref ld)]) :: (cR, celC (some (.ref lr))) :: (ld, lstC vd) :: (lr, lstC vr) :: led) gs s)
    (hd : Paired isL due vd) (hr : Paired isS rows vr) (h1 : due.length ≤ 1000) (h2 : rows.length ≤ 1000) (h3 : ∀ y ∈ rows, y.length ≤ 1000) (h4 : ∀ y ∈ due, y.length ≤ 1000)
    (k : ∀ (ls lc : Addr) (vs : List Value) (t : Tok) (s' : Shared), Paired isN (due.map (·.length)) vs → Inn s₀ ((L, nsC [(Str.ofString "sizes", .ref ls), (Str.ofString "page", .str (Txt.join sepS rows) t), (Str.ofString "counts", .ref lc), (Str.ofString "due", .ref ld)]) :: (cR, celC (some (.ref lr))) :: (ls, lstC vs) :: (lc, lstC []) :: (ld, lstC vd) :: (lr, lstC vr) :: led) gs s' → Q .next s') :
    wpAny (MM w) A (execs [st9] (lenv L cD cC cS cO cL cT cR cH cM cQ)) Q (fun _ _ => False) s := by
  unfold st9 pickSt
  have hdz : vd.length ≤ sizeLine := by rw [← hd.length]; exact Nat.le_trans h1 (by decide)
  repeat' cell_call
  refine' LF_list0 (fun (l : List Nat) v => isN l.length v) hd hA H ?ur rfl (by kernel_rfl!) hdz (fun l v lc i ys s hm hf H => ?hG) (fun lc ys s hP H => ?hK)
  case ur => tb_rel
  case hG =>
    obtain ⟨tv, rfl⟩ := hf
    have hlz : (mk l).length ≤ sizeLine := by rw [mk_len]; exact Nat.le_trans (h4 l hm) (by decide)
    repeat' cell_call
    rw [mk_len]
    exact ⟨⟨_, rfl⟩, H⟩
  case hK =>
    refine cp_none H (fun s H => ?_) .head
    repeat' cell_call
    refine' s_join (xs := rows) H (fun tj s H => ?_) ?r2 hr ?hz
    case r2 => tb_rel
    case hz =>
      have key : ∀ l : List Str, (∀ y ∈ l, y.length ≤ 1000) → (l.map (·.length)).sum ≤ l.length * 1000 := by
        intro l; induction l with
        | nil => intro _; simp
        | cons a r ih =>
          intro h
          have h5 := ih fun b hb => h b (List.mem_cons_of_mem _ hb)
          have h6 := h a List.mem_cons_self
          simp only [List.map_cons, List.sum_cons, List.length_cons]; omega
      have := key rows h3
      rw [show (Str.ofString "=\n").length = 2 from by decide +kernel]; omega
    repeat' cell_call
    have hP' := paired_map (F := isN) (fun l : List Nat => l.length) hP
    exact k _ _ _ _ _ hP' (H.pick (by tb_rel))
end
/-! ### Z2 -/
section
variable {w : World} {A : Around} {E : Value → Shared → Prop} {s₀ s : Shared} {led led' : Led} {gs : GL} {env : Env} {n : Nat}
theorem walks_str (hA : A.handled = none) (I : Addr) (x : Str) (t : Tok) : Walks (Challenge.rw_wz0010_01.row.prog) w A I [I] [I] x.cps.size (SignAt x) (fun i h => h.IsStrIter I (strIterType x) x t i) := by
  unfold strIterType
  cases ha : x.cps.all (· < 128)
  · exact Walks.strWide hA I x t
  · exact Walks.strAscii hA I x t
theorem it_str {x : Str} {t : Tok} {Q : Value → Shared → Prop} (H : Inn s₀ led gs s) (k : ∀ D s', Inn s₀ ((D, siC x t 0) :: led) gs s' → Q (.ref D) s') : wpAny (MM w) A (pyIter (.str x t)) Q E s := by
  cases ha : x.cps.all (· < 128)
  · exact wpAny_pyIter_wide ha (k _ _ (H.push (show siC x t 0 _ from ⟨by unfold strIterType; rw [ha]; rfl, rfl⟩) _))
  · exact wpAny_pyIter_ascii ha (k _ _ (H.push (show siC x t 0 _ from ⟨by unfold strIterType; rw [ha]; rfl, rfl⟩) _))
theorem src_str {y : Str} {py : Pos} {I C : Addr} {x : Str} {tx : Tok} {m : Nat} (hA : AOk A m) (hL : env.locals = C) (hk : env.scope.kind = .function) (hy : env.kindOf y = some .local) :
    Src w A env (.Name y py) (.ref I) s₀ gs C x.cps.size (fun i => [(I, siC x tx i)]) (fun i b => ∃ c u, x.cps[i]? = some c ∧ b = [(y, .str ⟨#[c]⟩ u)]) (fun led => True) where
  next := fun i lc led s R hi hok H hR => by
    have hit : s.heap.IsStrIter I (strIterType x) x tx i := H.has (a := I) (c := siC x tx i) (by simp)
    refine (walks_str (w := w) (A := A) hA.h I x tx).item i s _ _ hi hit fun v h' tk hP hst hk' => ?_
    obtain ⟨c, u, hc, rfl⟩ := hP
    have H1 := H.upd (s' := { s with heap := h', toks := tk }) (c' := siC x tx (i + 1)) (.tail .head) (fun b o hb e => hk' b o (by simpa using hb) e) hst
    refine go_name ?_
    exact wpAny_assign_Name (st_local H1 (fun s₂ H => hR _ _ ⟨c, u, hc, rfl⟩ H) .head hL hk hy)
  last := fun lc led s R hok H hR => by
    have hit : s.heap.IsStrIter I (strIterType x) x tx x.cps.size := H.has (a := I) (c := siC x tx x.cps.size) (by simp)
    refine (walks_str (w := w) (A := A) hA.h I x tx).done s _ _ hit fun h' tk hk' => ⟨rfl, hR _ ?_⟩
    exact H.drop (s' := { s with heap := h', toks := tk }) (.tail .head) fun b o hb e => hk' b o (by simpa using hb) e
  self := fun i led s Q hok H q => by
    have hit : s.heap.IsStrIter I (strIterType x) x tx i := H.has (a := I) (c := siC x tx i) (by simp)
    exact (walks_str (w := w) (A := A) hA.h I x tx).self i s _ _ hit q
end
section
variable {w : World} {A : Around} {E : Value → Shared → Prop} {s₀ s : Shared} {led led' : Led} {gs : GL} {env : Env} {mg mb : Str → Option Value}
variable {scope : Scope} {cl : List (Str × Addr)} {pos : Pos} {elt iter : Expr} {ifs : List Expr} {C D I : Addr} {R : Result → Shared → Prop} {m : Nat}
theorem LF_str {x : Str} {tx : Tok} {y : Str} {py : Pos} (p : Nat → Bool) (G : Nat → Value → Prop) (hA : AOk A m)
    (H : Inn s₀ ((C, nsC []) :: (D, lstC []) :: (I, siC x tx 0) :: led) gs s) (hk : (compEnvC scope cl C env).scope.kind = .function) (hy : (compEnvC scope cl C env).kindOf y = some .local) (hn : x.length ≤ sizeLine)
    (hp : ∀ c u lc ri ys s, c ∈ x.cps.toList → Inn s₀ ((C, nsC ((y, .str ⟨#[c]⟩ u) :: lc)) :: (I, ri) :: (D, lstC ys) :: led) gs s → wpAny (MM w) A (tests ifs (compEnvC scope cl C env)) (fun ok s' => ok = p c ∧ Inn s₀ ((C, nsC ((y, .str ⟨#[c]⟩ u) :: lc)) :: (I, ri) :: (D, lstC ys) :: led) gs s') (fun _ _ => False) s)
    (hG : ∀ c u lc ri ys s, c ∈ x.cps.toList → p c = true → Inn s₀ ((C, nsC ((y, .str ⟨#[c]⟩ u) :: lc)) :: (I, ri) :: (D, lstC ys) :: led) gs s → wpAny (MM w) A (eval elt (compEnvC scope cl C env)) (fun z s' => G c z ∧ Inn s₀ ((C, nsC ((y, .str ⟨#[c]⟩ u) :: lc)) :: (I, ri) :: (D, lstC ys) :: led) gs s') (fun _ _ => False) s)
    (k : ∀ lc ys s', Paired G (x.cps.toList.filter p) ys → Inn s₀ ((C, nsC lc) :: (D, lstC ys) :: led) gs s' → R (.ok .next) s') :
    codeAny (MM w) A (.compStart (.ListComp elt [⟨.Name y py, iter, ifs, 0⟩] scope pos) 0 (.ref I) (.ref D) (compEnvC scope cl C env)) R s := by
  refine LF (fun i => (x.cps.toList[i]?).elim false p) (fun i z => ∃ a, x.cps.toList[i]? = some a ∧ G a z) (src_str (x := x) (tx := tx) hA rfl hk hy) (fun ys => trivial) hn (H.pick (.cons .head rfl (.cons (.tail .head) rfl .all)))
    (fun i b lc ys s hi hB H => ?_) (fun i b lc ys s hi hB hpi H => ?_) (fun lc ys s' hP H => k lc ys s' (conv_paired (by simpa using hP)) H)
  · obtain ⟨c, u, hc, rfl⟩ := hB
    have hc' : x.cps.toList[i]? = some c := by simpa using hc
    exact wpAny_mono (hp c u lc _ ys s (List.mem_of_getElem? hc') H) (fun ok s' h => ⟨by rw [h.1, hc']; rfl, h.2⟩) fun _ _ f => f
  · obtain ⟨c, u, hc, rfl⟩ := hB
    have hc' : x.cps.toList[i]? = some c := by simpa using hc
    simp only [hc', Option.elim] at hpi
    exact wpAny_mono (hG c u lc _ ys s (List.mem_of_getElem? hc') hpi H) (fun z s' h => ⟨⟨c, hc', h.1⟩, h.2⟩) fun _ _ f => f
end
theorem lay_Z2_1 : True := by
  k_with "cell_call.Z2.1" => (first
  | ((with_reducible refine' it_str ?kqlfA1 ?_); (case kqlfA1 => with_reducible assumption); f_fact)
  | fail "-")
  exact True.intro
local macro_rules | `(tactic| cell_call) => `(tactic| k_extra "cell_call.Z2.1")
/-! ### P1 -/
section
open PySem.Builtin PySem.Builtin.Str
noncomputable def AZ (l : List Nat) : Prop := ∀ x ∈ l, 97 ≤ x ∧ x ≤ 122
noncomputable def capL : List Nat → List Nat
  | [] => []
  | a :: r => (a - 32) :: r
theorem flatten_idx (g : Nat → Nat → Nat) : ∀ (l : List Nat) (f : Nat → Nat → List Nat), (∀ i c, l[i]? = some c → f i c = [g i c]) → (l.mapIdx f).flatten = l.mapIdx g
  | [], _, _ => rfl
  | a :: r, f, h => by
    rw [List.mapIdx_cons, List.flatten_cons, h 0 a rfl, List.mapIdx_cons, flatten_idx (fun i c => g (i + 1) c) r (fun i c => f (i + 1) c) fun i c hc => h (i + 1) c (by simpa using hc)]
    rfl
theorem placed_idx (x : Str) (f : Nat → Nat → List Nat) (g : Nat → Nat → Nat) (h : ∀ i c, x.cps.toList[i]? = some c → f i c = [g i c]) : (placed x f).toList = x.cps.toList.mapIdx g := by
  have := flatten_idx g x.cps.toList f h
  simp only [placed, Array.toList_flatten, Array.toList_map, Array.toList_mapIdx]
  rw [map_toList_mapIdx]
  exact this
theorem title_ascii : ∀ c, c < 128 → Unicode.titleOf c = [up1 c] := by decide +kernel
theorem lowerAt_ascii {x : Str} {i c : Nat} (hc : x.cps.toList[i]? = some c) (hlt : c < 128) : Unicode.lowerAt x.cps i = [lo1 c] := by
  have hc' : x.cps[i]? = some c := by simpa using hc
  unfold Unicode.lowerAt
  rw [hc']
  have hne : (c == 0x3A3) = false := by rw [beq_eq_false_iff_ne]; omega
  simp only [hne, Bool.false_and, Bool.false_eq_true, if_false]
  exact lowerOf_ascii c hlt
theorem mk_cps (l : List Nat) : (mk l).cps.toList = l := by simp [mk]
theorem mk_eta (x : Str) : mk x.cps.toList = x := by cases x; simp [mk]
theorem mk_app (a b : List Nat) : mk a ++ mk b = mk (a ++ b) := str_ext (by rw [str_app, mk_cps, mk_cps, mk_cps])
theorem mk_inj {a b : List Nat} (h : mk a = mk b) : a = b := by have := congrArg (fun x : Str => x.cps.toList) h; simpa [mk_cps] using this
theorem lo1_az {c : Nat} (h : 97 ≤ c ∧ c ≤ 122) : lo1 c = c := by unfold lo1; rw [if_neg (by omega)]
theorem up1_az {c : Nat} (h : 97 ≤ c ∧ c ≤ 122) : up1 c = c - 32 := by unfold up1; rw [if_pos h]
theorem mapIdx_id : ∀ (l : List Nat) (f : Nat → Nat → Nat), (∀ i c, l[i]? = some c → f i c = c) → l.mapIdx f = l
  | [], _, _ => rfl
  | a :: r, f, h => by
    rw [List.mapIdx_cons, h 0 a rfl, mapIdx_id r (fun i c => f (i + 1) c) fun i c hc => h (i + 1) c (by simpa using hc)]
theorem cap_az {l : List Nat} (h : AZ l) : Txt.capitalize (mk l) = mk (capL l) := by
  cases l with
  | nil => rfl
  | cons a r =>
    unfold Txt.capitalize
    rw [if_neg (by rw [mk_len]; simp)]
    refine str_ext ?_
    show (placed _ _).toList = _
    rw [placed_idx (mk (a :: r)) _ (fun i c => if i = 0 then c - 32 else c) (fun i c hc => ?_)]
    · rw [mk_cps, mk_cps, List.mapIdx_cons, mapIdx_id _ _ (fun i c _ => by simp)]; rfl
    · have hm : c ∈ a :: r := by rw [mk_cps] at hc; exact List.mem_of_getElem? hc
      have haz := h c hm
      by_cases hi : i = 0
      · subst hi
        show (if (0 == 0) = true then Unicode.titleOf c else _) = _
        rw [if_pos rfl, title_ascii c (by omega), up1_az haz]; rfl
      · rw [if_neg (by simpa using hi), if_neg hi, lowerAt_ascii hc (by omega), lo1_az haz]
theorem lower_mk {l : List Nat} (h : ∀ c ∈ l, c < 128) : Txt.lower (mk l) = mk (l.map lo1) := by
  rw [lower_ascii (by rw [mk_cps]; exact h)]
  refine str_ext ?_
  simp [mk]
theorem upper_mk {l : List Nat} (h : ∀ c ∈ l, c < 128) : Txt.upper (mk l) = mk (l.map up1) := by
  rw [upper_ascii (by rw [mk_cps]; exact h)]
  refine str_ext ?_
  simp [mk]
end
/-! ### P2 -/
section
open PySem.Builtin PySem.Builtin.Str
open PySem.StrLaws (At ChainG partsFrom partsBetween_eq occ_tight subAt_eq strSub_toList sub_whole)
theorem sep_mk : sepS = mk [61, 10] := by decide +kernel
theorem len_mk' (x : Str) : x.cps.toList.length = x.length := by simp [Str.length]
theorem at_iff (x : Str) (k : Nat) : At x sepS x.length k ↔ (k + 2 ≤ x.length ∧ (x.cps.toList.drop k).take 2 = [61, 10]) := by
  unfold StrLaws.At
  rw [subAt_eq, sep_mk, mk_len, mk_cps, beq_iff_eq]; rfl
theorem chain_uniq {x : Str} {n : Nat} : ∀ (c1 c2 : List Nat) (a f1 f2 : Nat), ChainG x sepS n a c1 f1 → (∀ k, f1 ≤ k → ¬ At x sepS n k) → ChainG x sepS n a c2 f2 → (∀ k, f2 ≤ k → ¬ At x sepS n k) → c1 = c2
  | [], [], _, _, _, _, _, _, _ => rfl
  | [], c :: r, a, f1, f2, h1, n1, h2, _ => by
    have e : f1 = a := h1
    exact absurd h2.2.1 (n1 c (by rw [e]; exact h2.1))
  | c :: r, [], a, f1, f2, h1, _, h2, n2 => by
    have e : f2 = a := h2
    exact absurd h1.2.1 (n2 c (by rw [e]; exact h1.1))
  | c :: r, d :: q, a, f1, f2, h1, n1, h2, n2 => by
    have e : c = d := by
      rcases Nat.lt_trichotomy c d with h | h | h
      · exact absurd h1.2.1 (h2.2.2.1 c h1.1 h)
      · exact h
      · exact absurd h2.2.1 (h1.2.2.1 d h2.1 h)
    subst e
    rw [chain_uniq r q _ f1 f2 h1.2.2.2 n1 h2.2.2.2 n2]
theorem take2_head {l r : List Nat} (h : l ≠ []) (h2 : (l ++ r).take 2 = [61, 10]) : 61 ∈ l := by
  cases l with
  | nil => exact absurd rfl h
  | cons a t =>
    simp only [List.cons_append, List.take_succ_cons, List.cons.injEq] at h2
    rw [h2.1]; exact List.mem_cons_self
theorem pr_no {k a n m : Nat} (hk : a ≤ k) (h : k + 2 ≤ n) (hl : n - a = m) (e : m ≤ k - a) : False := by omega
theorem pr_le {n a b J : Nat} (hl : n - a = b + (2 + J)) : a + b + 2 ≤ n := by omega
theorem parts_rows {x : Str} : ∀ (bs : List (List Nat)) (b : List Nat) (a : Nat), x.cps.toList.drop a = jcps [61, 10] (b :: bs) → a ≤ x.length → (∀ c ∈ b :: bs, 61 ∉ c) →
    ∃ cuts f, ChainG x sepS x.length a cuts f ∧ (∀ k, f ≤ k → ¬ At x sepS x.length k) ∧ partsFrom x 2 a cuts = (b :: bs).map mk
  | [], b, a, hx, ha, hc => by
    have hx' : x.cps.toList.drop a = b := hx
    have hl : x.length - a = b.length := by have := congrArg List.length hx'; rwa [List.length_drop, len_mk'] at this
    refine ⟨[], a, rfl, fun k hk hA => ?_, ?_⟩
    · rw [at_iff] at hA
      have e : x.cps.toList.drop k = b.drop (k - a) := by rw [← hx', List.drop_drop, Nat.add_sub_of_le hk]
      rw [e] at hA
      have h2 := take2_head (l := b.drop (k - a)) (r := []) (fun h => pr_no hk hA.1 hl (List.drop_eq_nil_iff.mp h)) (by simpa using hA.2)
      exact hc b List.mem_cons_self (List.mem_of_mem_drop h2)
    · show [strSub x a x.length] = [mk b]
      congr 1
      refine str_ext ?_
      rw [strSub_toList, mk_cps, hx', hl]; simp
  | b' :: bs, b, a, hx, ha, hc => by
    have hx' : x.cps.toList.drop a = b ++ ([61, 10] ++ jcps [61, 10] (b' :: bs)) := by rw [hx]; show b ++ [61, 10] ++ _ = _; rw [List.append_assoc]
    have hl : x.length - a = b.length + (2 + (jcps [61, 10] (b' :: bs)).length) := by have := congrArg List.length hx'; rwa [List.length_drop, len_mk', List.length_append, List.length_append] at this
    have e1 : x.cps.toList.drop (a + b.length) = [61, 10] ++ jcps [61, 10] (b' :: bs) := by rw [← List.drop_drop, hx']; simp
    have e2 : x.cps.toList.drop (a + b.length + 2) = jcps [61, 10] (b' :: bs) := by rw [← List.drop_drop, e1]; rfl
    obtain ⟨cuts, f, h1, h2, h3⟩ := parts_rows bs b' (a + b.length + 2) e2 (pr_le hl) fun c h => hc c (List.mem_cons_of_mem _ h)
    refine ⟨(a + b.length) :: cuts, f, ⟨Nat.le_add_right .., (at_iff ..).mpr ⟨pr_le hl, by rw [e1]; rfl⟩, fun k hk hk2 hA => ?_, by rw [show sepS.length = 2 from by decide +kernel]; exact h1⟩, h2, ?_⟩
    · rw [at_iff] at hA
      have e : x.cps.toList.drop k = b.drop (k - a) ++ ([61, 10] ++ jcps [61, 10] (b' :: bs)) := by
        have := congrArg (List.drop (k - a)) hx'
        rw [List.drop_drop, Nat.add_sub_of_le hk, List.drop_append_of_le_length (Nat.sub_le_iff_le_add'.mpr (Nat.le_of_lt hk2))] at this
        exact this
      rw [e] at hA
      have h2 := take2_head (l := b.drop (k - a)) (fun h => absurd (List.drop_eq_nil_iff.mp h) (Nat.not_le_of_lt (Nat.sub_lt_left_of_lt_add hk hk2))) hA.2
      exact hc b List.mem_cons_self (List.mem_of_mem_drop h2)
    · show strSub x a (a + b.length) :: partsFrom x 2 (a + b.length + 2) cuts = _
      rw [h3, List.map_cons (l := b' :: bs)]
      congr 1
      refine str_ext ?_
      rw [strSub_toList, mk_cps, hx']; simp
theorem join_mk_cps (l : List (List Nat)) : (Txt.join sepS (l.map mk)).cps.toList = jcps [61, 10] l := by
  rw [join_cps, sep_mk, mk_cps, List.map_map, show ((fun x : Str => x.cps.toList) ∘ mk) = _root_.id from funext mk_cps, List.map_id]
theorem parts_join {l : List (List Nat)} (h0 : l ≠ []) (h : ∀ c ∈ l, 61 ∉ c) : partsBetween (Txt.join sepS (l.map mk)) (occurrences (Txt.join sepS (l.map mk)) sepS 0 (Txt.join sepS (l.map mk)).length ((Txt.join sepS (l.map mk)).length + 1)) 2 = l.map mk := by
  cases l with
  | nil => exact absurd rfl h0
  | cons b bs =>
    have hx := join_mk_cps (b :: bs)
    generalize Txt.join sepS ((b :: bs).map mk) = x at hx
    obtain ⟨cuts, f, h1, h2, h3⟩ := parts_rows bs b 0 hx (Nat.zero_le _) h
    obtain ⟨f', g1, g2⟩ := occ_tight x sepS (by decide +kernel)
    rw [chain_uniq _ _ _ _ _ g1 g2 h1 h2, partsBetween_eq, h3]
theorem split_join {l : List (List Nat)} (h0 : l ≠ []) (h : ∀ c ∈ l, 61 ∉ c) : Txt.split (Txt.join sepS (l.map mk)) sepS = l.map mk := by
  have hp := parts_join h0 h
  generalize Txt.join sepS (l.map mk) = x at hp
  have hw : ∀ l : List (List Nat), l.map mk = [x] → True := fun _ _ => trivial
  have hemp : occurrences x sepS 0 x.length (x.length + 1) = [] → [x] = l.map mk := by
    intro he
    rw [he, partsBetween_eq] at hp
    rw [← hp]
    show [x] = [strSub x 0 x.length]
    rw [sub_whole]
  unfold Txt.split
  split
  · rename_i hc
    rw [Bool.or_eq_true, decide_eq_true_eq, decide_eq_true_eq] at hc
    refine hemp ?_
    obtain ⟨f', g1, g2⟩ := occ_tight x sepS (by decide +kernel)
    rcases ho : occurrences x sepS 0 x.length (x.length + 1) with _ | ⟨c, r⟩
    · rfl
    · rw [ho] at g1
      have := g1.2.1.1
      rcases hc with hc | hc
      · omega
      · rw [show PySem.Builtin.Str.strKind sepS = 1 from by decide +kernel] at hc
        unfold PySem.Builtin.Str.strKind at hc
        split at hc
        · omega
        · split at hc <;> omega
  · split
    · rename_i he
      exact hemp (List.isEmpty_iff.mp he)
    · exact hp
/-- the lines of a page -/
noncomputable def lns : List (List Nat) → List (List Nat × Bool)
  | [] => []
  | [b] => if b = [] then [] else [(b, false)]
  | b :: c :: r => (b, true) :: lns (c :: r)
noncomputable def lsF (s : Str) (st : StrLaws.LsSt) (i : Nat) : StrLaws.LsSt := if (decide (st.snd ≤ i) && Unicode.isLineBreak (s.cps.getD i 0)) = true then (st.fst.push (st.snd, i, StrLaws.lsNext s i), StrLaws.lsNext s i) else (st.fst, st.snd)
theorem ls_fold (s : Str) : ∀ (l : List Nat) (st : StrLaws.LsSt), Id.run (forIn (m := Id) l st (StrLaws.lsBody s)) = l.foldl (lsF s) st
  | [], _ => rfl
  | a :: r, st => by
    rw [List.forIn_cons, List.foldl_cons]
    unfold StrLaws.lsBody lsF
    split <;> exact ls_fold s r _
theorem ls_skip (s : Str) : ∀ (m cur : Nat) (st : StrLaws.LsSt), (∀ k, cur ≤ k → k < cur + m → Unicode.isLineBreak (s.cps.getD k 0) = false) → (List.range' cur m).foldl (lsF s) st = st
  | 0, _, _, _ => rfl
  | m + 1, cur, st, h => by
    rw [List.range'_succ, List.foldl_cons]
    have : lsF s st cur = st := by unfold lsF; rw [h cur (Nat.le_refl _) (Nat.lt_add_of_pos_right (Nat.succ_pos m)), Bool.and_false]; rfl
    rw [this]
    exact ls_skip s m (cur + 1) st fun k h1 h2 => h k (Nat.le_of_succ_le h1) (by rw [Nat.add_assoc, Nat.add_comm 1] at h2; exact h2)
noncomputable def isLet (c : Nat) : Prop := (65 ≤ c ∧ c ≤ 90) ∨ (97 ≤ c ∧ c ≤ 122)
theorem let_no (c : Nat) (h : isLet c ∨ c = 61) : Unicode.isLineBreak c = false ∧ Unicode.isSpace c = false := by
  have h2 : ∀ c, c < 128 → 60 < c → Unicode.isLineBreak c = false ∧ Unicode.isSpace c = false := by decide +kernel
  rcases h with (h | h) | h
  · exact h2 c (Nat.lt_of_le_of_lt h.2 (by decide)) (Nat.lt_of_lt_of_le (by decide) h.1)
  · exact h2 c (Nat.lt_of_le_of_lt h.2 (by decide)) (Nat.lt_of_lt_of_le (by decide) h.1)
  · rw [h]; exact h2 61 (by decide) (by decide)
theorem getD_drop {x : Str} {a k : Nat} {l : List Nat} (h : x.cps.toList.drop a = l) (hk : a ≤ k) : x.cps.getD k 0 = l.getD (k - a) 0 := by
  rw [← getD_list, ← h, drop_getD, Nat.add_sub_of_le hk]
theorem getD_mem' {l r : List Nat} {i : Nat} (h : i < l.length) : (l ++ r).getD i 0 ∈ l := by
  rw [List.getD_eq_getElem?_getD, List.getElem?_append_left h, List.getElem?_eq_getElem h]; exact List.getElem_mem h
theorem lr_eq {n a b J : Nat} (hl : n - a = b + 1 + (1 + J)) : n - a = (b + 1) + (1 + (n - (a + b + 2))) := by omega
theorem lr_le {n a b J : Nat} (hl : n - a = b + 1 + (1 + J)) : a + b + 2 ≤ n := by omega
theorem ls_rows {x : Str} : ∀ (bs : List (List Nat)) (b : List Nat) (a : Nat) (arr : Array (Nat × Nat × Nat)), x.cps.toList.drop a = jcps [61, 10] (b :: bs) → a ≤ x.length → (∀ c ∈ b :: bs, ∀ y ∈ c, isLet y) →
    (StrLaws.lsEnd x ((List.range' a (x.length - a)).foldl (lsF x) (arr, a))).map (fun p : Nat × Nat × Nat => strSub x p.1 p.2.1) = arr.toList.map (fun p : Nat × Nat × Nat => strSub x p.1 p.2.1) ++ (lns (b :: bs)).map dline
  | [], b, a, arr, hx, ha, hc => by
    have hx' : x.cps.toList.drop a = b := hx
    have hl : x.length - a = b.length := by have := congrArg List.length hx'; rwa [List.length_drop, len_mk'] at this
    rw [ls_skip x _ a (arr, a) fun k h1 h2 => ?_]
    · unfold StrLaws.lsEnd lns
      by_cases hb : b = []
      · subst hb
        rw [if_neg (show ¬ a < x.length from Nat.not_lt_of_le (Nat.le_of_sub_eq_zero hl)), if_pos rfl]; simp
      · have hbl : 0 < b.length := List.length_pos_iff.mpr hb
        rw [if_pos (show a < x.length from Nat.lt_of_sub_pos (by rw [hl]; exact hbl)), if_neg hb, Array.toList_push, List.map_append]
        congr 1
        show [strSub x a x.length] = [dline (b, false)]
        congr 1
        refine str_ext ?_
        rw [strSub_toList, hx', hl]; simp [dline]
    · have : x.cps.getD k 0 ∈ b := by
        rw [getD_drop hx' h1]
        have := getD_mem' (l := b) (r := []) (i := k - a) (by rw [hl] at h2; exact Nat.sub_lt_left_of_lt_add h1 h2)
        rwa [List.append_nil] at this
      exact (let_no _ (.inl (hc b List.mem_cons_self _ this))).1
  | b' :: bs, b, a, arr, hx, ha, hc => by
    have hx' : x.cps.toList.drop a = (b ++ [61]) ++ ([10] ++ jcps [61, 10] (b' :: bs)) := by rw [hx]; show b ++ [61, 10] ++ _ = _; simp
    have hl : x.length - a = b.length + 1 + (1 + (jcps [61, 10] (b' :: bs)).length) := by have := congrArg List.length hx'; rwa [List.length_drop, len_mk', List.length_append, List.length_append, List.length_append] at this
    have e2 : x.cps.toList.drop (a + b.length + 2) = jcps [61, 10] (b' :: bs) := by
      rw [Nat.add_assoc, ← List.drop_drop, hx']; simp
    have hr : List.range' a (x.length - a) = List.range' a (b.length + 1) ++ (a + b.length + 1) :: List.range' (a + b.length + 2) (x.length - (a + b.length + 2)) := by
      rw [lr_eq hl, ← List.range'_append_1]
      congr 1
      rw [Nat.add_comm 1, List.range'_succ]; rfl
    have hs : a + b.length + 1 - a = (b ++ [61]).length := (Nat.add_sub_cancel_left (n := a) (m := b.length + 1)).trans (by rw [List.length_append]; rfl)
    rw [hr, List.foldl_append, ls_skip x _ a (arr, a) fun k h1 h2 => ?_]
    · have h10 : x.cps.getD (a + b.length + 1) 0 = 10 := by
        rw [getD_drop hx' (show a ≤ a + b.length + 1 from Nat.le_add_right a (b.length + 1)), List.getD_eq_getElem?_getD, hs, List.getElem?_append_right (Nat.le_refl _), Nat.sub_self]; rfl
      have hstep : lsF x (arr, a) (a + b.length + 1) = (arr.push (a, a + b.length + 1, a + b.length + 2), a + b.length + 2) := by
        have hn : StrLaws.lsNext x (a + b.length + 1) = a + b.length + 2 := by
          unfold StrLaws.lsNext
          rw [h10, if_neg (by intro h; rw [Bool.and_eq_true] at h; exact absurd h.1 (by decide))]
        unfold lsF
        rw [h10, hn, if_pos (by rw [Bool.and_eq_true, decide_eq_true_eq]; exact ⟨Nat.le_add_right a (b.length + 1), by decide +kernel⟩)]
      rw [List.foldl_cons, hstep, ls_rows bs b' (a + b.length + 2) _ e2 (lr_le hl) fun c h => hc c (List.mem_cons_of_mem _ h)]
      rw [Array.toList_push, List.map_append, List.append_assoc]
      congr 1
      show strSub x a (a + b.length + 1) :: _ = dline (b, true) :: _
      congr 1
      refine str_ext ?_
      rw [strSub_toList, hx', hs, List.take_left']
      · simp [dline]
      · rfl
    · have : x.cps.getD k 0 ∈ b ++ [61] := by
        rw [getD_drop hx' h1]
        exact getD_mem' (by rw [List.length_append]; exact Nat.sub_lt_left_of_lt_add h1 h2)
      rcases List.mem_append.mp this with h | h
      · exact (let_no _ (.inl (hc b List.mem_cons_self _ h))).1
      · exact (let_no _ (.inr (List.mem_singleton.mp h))).1
theorem lines_of (x : Str) : Txt.lines x = linesOf x := by
  unfold Txt.lines
  split
  · rename_i h
    unfold linesOf
    rw [eq_of_beq h]
    show [x] = [strSub x 0 x.length]
    rw [sub_whole]
  · rfl
theorem lines_join {l : List (List Nat)} (h0 : l ≠ []) (h : ∀ c ∈ l, ∀ y ∈ c, isLet y) : Txt.lines (Txt.join sepS (l.map mk)) = (lns l).map dline := by
  cases l with
  | nil => exact absurd rfl h0
  | cons b bs =>
    have hx := join_mk_cps (b :: bs)
    generalize Txt.join sepS ((b :: bs).map mk) = x at hx
    have := ls_rows bs b 0 #[] hx (Nat.zero_le _) h
    rw [lines_of]
    unfold linesOf lineCuts
    rw [StrLaws.ls_eq, ls_fold, List.map_map]
    exact this.trans (List.nil_append _)
end
/-! ### P3 -/
section
open PySem.StrLaws (strSub_toList sub_whole)
theorem rstrip_id {x : Str} (h : ∀ c ∈ x.cps.toList, Unicode.isSpace c = false) : Txt.rstrip x = x := by
  unfold Txt.rstrip
  rw [PyProof.Rows.stripBy_eq]
  have hlo : stripLo Unicode.isSpace false x = 0 := rfl
  rw [hlo]
  obtain ⟨h1, h2, h3, h4⟩ := hi_facts Unicode.isSpace x 0 (Nat.zero_le _)
  have : stripHi Unicode.isSpace true x 0 = x.length := by
    rcases Nat.lt_or_ge (stripHi Unicode.isSpace true x 0) x.length with hl | hl
    · have h5 := h3 _ (Nat.le_refl _) hl
      have hm : x.cps.getD (stripHi Unicode.isSpace true x 0) 0 ∈ x.cps.toList := by
        rw [← getD_list]
        have := getD_mem' (l := x.cps.toList) (r := []) (i := stripHi Unicode.isSpace true x 0) (by rw [len_mk']; exact hl)
        rwa [List.append_nil] at this
      rw [h _ hm] at h5; cases h5
    · omega
  rw [this]; exact sub_whole x
theorem lstrip_cut {sp l : List Nat} (h1 : ∀ c ∈ sp, Unicode.isSpace c = true) (h2 : ∀ c ∈ l, Unicode.isSpace c = false) : Txt.lstrip (mk (sp ++ l)) = mk l := by
  unfold Txt.lstrip
  rw [PyProof.Rows.stripBy_eq]
  have hlen : (mk (sp ++ l)).length = sp.length + l.length := by rw [mk_len, List.length_append]
  have hlo : stripLo Unicode.isSpace true (mk (sp ++ l)) = sp.length := by
    show ((mk (sp ++ l)).cps.toList.takeWhile Unicode.isSpace).length = _
    rw [mk_cps, List.takeWhile_append_of_pos h1]
    cases l with
    | nil => simp
    | cons a r => rw [List.takeWhile_cons, h2 a List.mem_cons_self]; simp
  have hhi : stripHi Unicode.isSpace false (mk (sp ++ l)) (stripLo Unicode.isSpace true (mk (sp ++ l))) = (mk (sp ++ l)).length := rfl
  rw [hhi, hlo, hlen]
  refine str_ext ?_
  rw [strSub_toList, mk_cps, mk_cps]; simp
theorem let_sp {c : Nat} (h : isLet c ∨ c = 61) : Unicode.isSpace c = false := (let_no c h).2
/-- a row's letters -/
noncomputable def Lets (l : List (List Nat)) : Prop := ∀ c ∈ l, ∀ y ∈ c, isLet y
theorem lns_mem : ∀ {l : List (List Nat)} {p : List Nat × Bool}, p ∈ lns l → p.1 ∈ l ∧ (p.2 = true ∨ p.1 ≠ [])
  | [b], p, h => by
    unfold lns at h
    split at h
    · cases h
    · rw [List.mem_singleton.mp h]; exact ⟨List.mem_cons_self, .inr (by assumption)⟩
  | b :: c :: r, p, h => by
    rcases List.mem_cons.mp h with rfl | h
    · exact ⟨List.mem_cons_self, .inl rfl⟩
    · have := lns_mem h
      exact ⟨List.mem_cons_of_mem _ this.1, this.2⟩
theorem lns_len : ∀ l : List (List Nat), (lns l).length ≤ l.length
  | [] => Nat.le_refl _
  | [b] => by unfold lns; split <;> simp
  | b :: c :: r => by have := lns_len (c :: r); show (lns (c :: r)).length + 1 ≤ (c :: r).length + 1; omega
theorem jcps_len : ∀ (l : List (List Nat)) (m : Nat), (∀ c ∈ l, c.length ≤ m) → (jcps [61, 10] l).length ≤ l.length * (m + 2)
  | [], m, h => by simp [jcps]
  | [b], m, h => by have := h b List.mem_cons_self; show b.length ≤ 1 * (m + 2); omega
  | b :: c :: r, m, h => by
    have h1 := h b List.mem_cons_self
    have h2 := jcps_len (c :: r) m fun d hd => h d (List.mem_cons_of_mem _ hd)
    show (b ++ [61, 10] ++ jcps [61, 10] (c :: r)).length ≤ (c :: r).length.succ * (m + 2)
    rw [List.length_append, List.length_append, Nat.succ_mul]
    simp only [List.length_cons, List.length_nil] at h2 ⊢; omega
theorem page_len {l : List (List Nat)} (hn : l.length ≤ 10) (h : ∀ c ∈ l, c.length ≤ 10) : (Txt.join sepS (l.map mk)).length ≤ 120 := by
  rw [← len_mk', join_mk_cps]
  exact Nat.le_trans (jcps_len l 10 h) (by omega)
theorem decIn_join {l : List (List Nat)} (h0 : l ≠ []) (h : Lets l) (hn : l.length ≤ 10) (h3 : ∀ c ∈ l, c.length ≤ 10) (hp : 0 < (Txt.join sepS (l.map mk)).length) : DecIn (Txt.join sepS (l.map mk)) (lns l) where
  len := Nat.le_trans (page_len hn h3) (by decide)
  pos := hp
  lines := lines_join h0 h
  cuts := Nat.le_trans (lineCuts_le _) (Nat.le_trans (Nat.succ_le_succ (page_len hn h3)) (by decide))
  strip := fun p hp => rstrip_id fun c hc => by
    have hm := h _ (lns_mem hp).1
    have hc' : c ∈ p.1 ++ (if p.2 then [61] else []) := by simpa [dline] using hc
    rcases List.mem_append.mp hc' with hc' | hc'
    · exact let_sp (.inl (hm c hc'))
    · split at hc'
      · exact let_sp (.inr (List.mem_singleton.mp hc'))
      · cases hc'
  ne := fun p hp => by
    have := (lns_mem hp).2
    rw [str_len]; unfold dline
    rcases this with h | h
    · rw [h]; simp
    · have := List.length_pos_iff.mpr h
      rw [List.length_append]; omega
  no := fun p hp hm => by
    have := h _ (lns_mem hp).1 61 hm
    unfold isLet at this; omega
  sz := fun p hp => Nat.le_trans (h3 _ (lns_mem hp).1) (by decide)
  n := Nat.le_trans (lns_len l) (Nat.le_trans hn (by decide))
theorem dat_mk (d : List Nat) (p : List Nat × Bool) : dat (mk d) p (p.1.length + 1) = mk (d ++ (p.1 ++ if p.2 = false then [10] else [])) := by
  unfold dat
  refine str_ext ?_
  rw [str_app, mk_cps, mk_cps]
  rw [List.take_of_length_le (by omega)]
  simp
theorem decD_run : ∀ (bs : List (List Nat)) (b : List Nat) (d : List Nat), (lns (b :: bs)).foldl (fun d p => dat d p (p.1.length + 1)) (mk d) = mk (d ++ ((b :: bs).flatten ++ (if (b :: bs).getLast? = some [] then [] else [10])))
  | [], b, d => by
    unfold lns
    by_cases hb : b = []
    · subst hb; simp
    · rw [if_neg hb, List.foldl_cons, List.foldl_nil, dat_mk]
      simp [hb]
  | c :: r, b, d => by
    show ((b, true) :: lns (c :: r)).foldl _ _ = _
    rw [List.foldl_cons, dat_mk, decD_run r c]
    simp
theorem item_last {l : List Nat} {c : Nat} : Txt.item (mk (l ++ [c])) (-1) = ⟨#[c]⟩ := by
  have e : PySem.seqIndex? (-1) (mk (l ++ [c])).length = some l.length := by
    have hl : (mk (l ++ [c])).length = l.length + 1 := by rw [mk_len, List.length_append]; rfl
    have hn : -((l.length + 1 : Nat) : Int) ≤ -1 := Int.neg_le_neg (Int.ofNat_le.mpr (Nat.succ_le_succ (Nat.zero_le l.length)))
    rw [hl, seqIndex_neg (by decide) hn, minus_one]; rfl
  unfold Txt.item Txt.charAt
  rw [e]; simp [mk]
theorem ends_nl (l : List Nat) : Txt.endswith (mk (l ++ [10])) eolS = true := by
  unfold Txt.endswith
  rw [StrLaws.subAt_eq, mk_len, mk_cps, show eolS = mk [10] from by decide +kernel, mk_len, mk_cps]
  simp
theorem cut_last (l : List Nat) (c : Nat) : Txt.slice (mk (l ++ [c])) none (some (-1)) = mk l := by
  have hl : (mk (l ++ [c])).length = l.length + 1 := by rw [mk_len]; simp
  have := StrLaws.sliceText_to_neg (x := mk (l ++ [c])) (j := -1) (by decide) (by rw [hl]; omega)
  refine Eq.trans this (str_ext ?_)
  rw [hl, mk_cps]
  show (((l ++ [c]).drop 0).take _) = _
  rw [show ((-1 : Int) + (l.length + 1 : Nat) - 0).toNat = l.length from by omega, mk_cps]; simp
theorem jcps_last : ∀ (l : List (List Nat)) (b : List Nat), (jcps [61, 10] (l ++ [b])) = (if l = [] then [] else jcps [61, 10] l ++ [61, 10]) ++ b
  | [], b => rfl
  | [a], b => rfl
  | a :: c :: r, b => by
    have := jcps_last (c :: r) b
    show a ++ [61, 10] ++ jcps [61, 10] ((c :: r) ++ [b]) = _
    rw [this, if_neg (by simp), if_neg (by simp)]
    show _ = a ++ [61, 10] ++ jcps [61, 10] (c :: r) ++ [61, 10] ++ b
    simp only [List.append_assoc]
theorem decR_join {l : List (List Nat)} (h0 : l ≠ []) (h : Lets l) (hp : 0 < (Txt.join sepS (l.map mk)).length) : decR (Txt.join sepS (l.map mk)) (lns l) = mk l.flatten := by
  have hd : decD (lns l) = mk (l.flatten ++ (if l.getLast? = some [] then [] else [10])) := by
    cases l with
    | nil => exact absurd rfl h0
    | cons b bs =>
      have := decD_run bs b []
      rw [List.nil_append] at this
      rw [← this]; unfold decD
      rw [show Str.ofString "" = mk [] from by decide +kernel]
  have hx : Txt.join sepS (l.map mk) = mk (jcps [61, 10] l) := str_ext (by rw [join_mk_cps, mk_cps])
  rw [hx] at hp ⊢
  rw [mk_len] at hp
  rcases List.eq_nil_or_concat l with e | ⟨r, b, e⟩
  · exact absurd e h0
  rw [List.concat_eq_append] at e
  have hj := jcps_last r b
  rw [← e] at hj
  rw [show l.getLast? = some b from by rw [e]; simp] at hd
  unfold decR
  rcases List.eq_nil_or_concat b with hb | ⟨b', c, hb⟩
  · subst hb
    rw [List.append_nil] at hj
    have hr : r ≠ [] := by intro hr; rw [if_pos hr] at hj; rw [hj] at hp; cases hp
    rw [if_neg hr] at hj
    rw [hj, show jcps [61, 10] r ++ [61, 10] = (jcps [61, 10] r ++ [61]) ++ [10] from by simp, item_last, has_one, hd, if_pos rfl, List.append_nil]
    rw [show decide (10 ∈ (Str.ofString "\r\n").cps.toList) = true from by decide +kernel]; rfl
  · rw [List.concat_eq_append] at hb
    subst hb
    have hc : isLet c := h _ (by rw [e]; exact List.mem_append_right _ (List.mem_singleton.mpr rfl)) c (by simp)
    have hcn : (decide (c ∈ (Str.ofString "\r\n").cps.toList)) = false := by
      rw [show (Str.ofString "\r\n").cps.toList = [13, 10] from by decide +kernel]
      unfold isLet at hc
      simp; omega
    rw [if_neg (by simp)] at hd
    rw [hj, ← List.append_assoc, item_last, has_one, hcn, hd, ends_nl, cut_last]; rfl
/-- quoted great letters -/
noncomputable def qc (c : Nat) : List Nat := if c = lo1 c then [c] else [34, c, 34]
noncomputable def qL (l : List Nat) : List Nat := (l.map qc).flatten
theorem esc_plain : ∀ (l : List Nat) (k : Nat), 92 ∉ l → escL k false l = l.mapIdx fun i c => (k + i, [c])
  | [], k, _ => rfl
  | c :: r, k, h => by
    have hc : c ≠ 92 := fun e => h (e ▸ List.mem_cons_self)
    show (if c = 92 then escL (k + 1) true r else (k, [c]) :: escL (k + 1) false r) = _
    rw [if_neg hc, esc_plain r (k + 1) fun hm => h (List.mem_cons_of_mem _ hm), List.mapIdx_cons]
    congr 2
    funext i c; rw [show k + 1 + i = k + (i + 1) from by omega]
theorem qL_cons (c : Nat) (r : List Nat) : qL (c :: r) = qc c ++ qL r := rfl
theorem fold_idx {β : Type} (f : β → Nat × List Nat → β) (l : List Nat) (k : Nat) (a : Nat) (b : β) : ((a :: l).mapIdx fun i c => (k + i, [c])).foldl f b = (l.mapIdx fun i c => (k + 1 + i, [c])).foldl f (f b (k, [a])) := by
  rw [List.mapIdx_cons, List.foldl_cons]
  congr 2
  funext i c; rw [show k + 1 + i = k + (i + 1) from by omega]
theorem strip_run {x : Str} : ∀ (r pre : List Nat) (st : Nat) (acc : List Str), x.cps.toList = pre ++ qL r → st ≤ pre.length → 34 ∉ r →
    ∃ st' acc', ((qL r).mapIdx fun i c => (pre.length + i, [c])).foldl (stStep x) (st, none, acc) = (st', none, acc') ∧ st' ≤ x.length ∧
      (acc'.map (·.cps.toList)).flatten ++ x.cps.toList.drop st' = (acc.map (·.cps.toList)).flatten ++ pre.drop st ++ r.filter fun c => decide (c = lo1 c)
  | [], pre, st, acc, hx, hst, _ => by
    have hx' : x.cps.toList = pre := by rw [hx]; simp [qL]
    exact ⟨st, acc, rfl, by rw [← len_mk', hx']; exact hst, by rw [hx']; simp⟩
  | c :: r, pre, st, acc, hx, hst, h34 => by
    rw [qL_cons] at hx ⊢
    have hc : c ≠ 34 := fun e => h34 (e ▸ List.mem_cons_self)
    have h34' : 34 ∉ r := fun hm => h34 (List.mem_cons_of_mem _ hm)
    by_cases hl : c = lo1 c
    · have hq : qc c = [c] := if_pos hl
      rw [hq] at hx ⊢
      obtain ⟨st', acc', h1, h2, h3⟩ := strip_run r (pre ++ [c]) st acc (by rw [hx]; simp) (by simp; omega) h34'
      refine ⟨st', acc', ?_, h2, ?_⟩
      · rw [List.singleton_append, fold_idx]
        have : stStep x (st, none, acc) (pre.length, [c]) = (st, none, acc) := by unfold stStep; rw [if_neg (by simpa using hc)]
        rw [this, ← h1]; simp
      · rw [h3, List.filter_cons, if_pos (by simpa using hl), List.drop_append_of_le_length hst]; simp
    · have hq : qc c = [34, c, 34] := if_neg hl
      rw [hq] at hx ⊢
      have hn : pre.length ≤ x.length := by rw [← len_mk', hx, List.length_append]; omega
      have hsl : Txt.slice x (some (st : Nat)) (some (pre.length : Nat)) = mk (pre.drop st) := by
        refine Eq.trans (StrLaws.sliceText_nat x hst hn) (str_ext ?_)
        rw [mk_cps, hx, List.drop_append_of_le_length hst]
        show List.take (pre.length - st) _ = _
        rw [List.take_append_of_le_length (by simp), List.take_of_length_le (by simp)]
      obtain ⟨st', acc', h1, h2, h3⟩ := strip_run r (pre ++ [34, c, 34]) (pre.length + 3) (if st = pre.length then acc else acc ++ [mk (pre.drop st)]) (by rw [hx]; simp) (by simp) h34'
      refine ⟨st', acc', ?_, h2, ?_⟩
      · show ((34 :: c :: 34 :: qL r).mapIdx fun i c => (pre.length + i, [c])).foldl _ _ = _
        rw [fold_idx, fold_idx, fold_idx]
        have e1 : stStep x (st, none, acc) (pre.length, [34]) = (st, some pre.length, acc) := by unfold stStep; rw [if_pos rfl]
        have e2 : stStep x (st, some pre.length, acc) (pre.length + 1, [c]) = (st, some pre.length, acc) := by unfold stStep; rw [if_neg (by simpa using hc)]
        have e3 : stStep x (st, some pre.length, acc) (pre.length + 1 + 1, [34]) = (pre.length + 3, none, if st = pre.length then acc else acc ++ [mk (pre.drop st)]) := by
          unfold stStep; rw [if_pos rfl]; dsimp only; rw [hsl]
        rw [e1, e2, e3, ← h1]
        simp
      · rw [h3, List.filter_cons]
        have hd : (pre ++ [34, c, 34]).drop (pre.length + 3) = [] := List.drop_of_length_le (by simp)
        rw [hd, List.append_nil, if_neg (show ¬ decide (c = lo1 c) = true by simpa using hl)]
        congr 1
        split
        · rename_i e; rw [e, List.drop_of_length_le (Nat.le_refl _), List.append_nil]
        · simp [mk_cps]
theorem q_sub {l : List Nat} {c : Nat} (h : c ∈ qL l) : c ∈ l ∨ c = 34 := by
  unfold qL at h
  obtain ⟨y, hy, hc⟩ := List.mem_flatten.mp h
  obtain ⟨a, ha, rfl⟩ := List.mem_map.mp hy
  unfold qc at hc
  split at hc
  · rw [List.mem_singleton.mp hc]; exact .inl ha
  · simp only [List.mem_cons, List.not_mem_nil, or_false] at hc
    rcases hc with rfl | rfl | rfl
    · exact .inr rfl
    · exact .inl ha
    · exact .inr rfl
theorem q_end : ∀ {l : List Nat} (b : Bool), b = false → 92 ∉ l → endE b l = false
  | [], b, hb, _ => hb
  | c :: r, b, hb, h => by
    subst hb
    show endE (c == 92) r = false
    exact q_end _ (beq_eq_false_iff_ne.mpr fun e => h (e ▸ List.mem_cons_self)) fun hm => h (List.mem_cons_of_mem _ hm)
theorem strip_quoted {l : List Nat} (h34 : 34 ∉ l) (h92 : 92 ∉ l) : stripS (mk (qL l)) = mk (l.filter fun c => decide (c = lo1 c)) := by
  have h92' : 92 ∉ qL l := fun h => (q_sub h).elim h92 (by decide)
  unfold stripS
  rw [mk_cps]
  split
  · obtain ⟨st', acc', h1, h2, h3⟩ := strip_run (x := mk (qL l)) l [] 0 [] (by rw [mk_cps]; rfl) (Nat.le_refl _) h34
    have hrun : stripRun (mk (qL l)) = (st', none, acc') := by
      unfold stripRun
      rw [mk_cps, esc_plain _ _ h92']
      simpa using h1
    rw [hrun]
    refine str_ext ?_
    rw [join_e, mk_cps]
    show (List.map _ (acc' ++ if st' < (mk (qL l)).length then _ else [])).flatten = _
    simp only [List.map_nil, List.flatten_nil, List.drop_nil, List.nil_append] at h3
    rw [← h3]
    split
    · have hf := StrLaws.sliceText_from (x := mk (qL l)) (i := (st' : Int)) ⟨by omega, by rw [len_mk']; omega⟩
      rw [List.map_append, List.flatten_append]
      congr 1
      show (List.map _ [Txt.slice (mk (qL l)) (some (st' : Int)) none]).flatten = _
      rw [show Txt.slice (mk (qL l)) (some (st' : Int)) none = _ from hf]
      simp only [List.map_cons, List.map_nil, List.flatten_cons, List.flatten_nil, List.append_nil, mk_cps]
      exact List.take_of_length_le (by simp)
    · rw [List.append_nil, List.drop_of_length_le (by rw [len_mk']; omega), List.append_nil]
  · rename_i hno
    congr 1
    have : ∀ l : List Nat, 34 ∉ qL l → qL l = l ∧ l.filter (fun c => decide (c = lo1 c)) = l := by
      intro l
      induction l with
      | nil => intro _; exact ⟨rfl, rfl⟩
      | cons c r ih =>
        intro h
        rw [qL_cons] at h ⊢
        obtain ⟨i1, i2⟩ := ih fun hm => h (List.mem_append_right _ hm)
        have hl : c = lo1 c := by
          apply Classical.byContradiction
          intro hl
          exact h (List.mem_append_left _ (by unfold qc; rw [if_neg hl]; simp))
        rw [i1, List.filter_cons, if_pos (by simpa using hl), i2]
        exact ⟨by unfold qc; rw [if_pos hl]; rfl, rfl⟩
    obtain ⟨a, b⟩ := this l hno
    rw [a, b]
end
/-! ### P4 -/
section
/-- rows of small letters -/
structure RowsOk (dd : List (List Nat)) : Prop where
  ne : dd ≠ []
  n : dd.length ≤ 10
  sz : ∀ c ∈ dd, c.length ≤ 10
  az : ∀ c ∈ dd, AZ c
theorem RowsOk.drop1 {dd : List (List Nat)} (h : RowsOk dd) : RowsOk (dd.map (List.drop 1)) where
  ne := by have := h.ne; simpa using this
  n := by rw [List.length_map]; exact h.n
  sz := fun c hc => by
    obtain ⟨a, ha, rfl⟩ := List.mem_map.mp hc
    have := h.sz a ha; rw [List.length_drop]; omega
  az := fun c hc => by
    obtain ⟨a, ha, rfl⟩ := List.mem_map.mp hc
    exact fun x hx => h.az a ha x (List.mem_of_mem_drop hx)
noncomputable def pageS (dd : List (List Nat)) : Str := Txt.join sepS (dd.map mk)
theorem az_let {l : List Nat} (h : AZ l) : ∀ y ∈ l, isLet y := fun y hy => .inr (h y hy)
theorem cap_let {l : List Nat} (h : AZ l) : ∀ y ∈ capL l, isLet y := by
  cases l with
  | nil => intro y hy; cases hy
  | cons a r =>
    intro y hy
    rcases List.mem_cons.mp hy with rfl | hy
    · have := h a List.mem_cons_self; unfold isLet; omega
    · exact az_let h y (List.mem_cons_of_mem _ hy)
theorem cap_len (l : List Nat) : (capL l).length = l.length := by cases l <;> rfl
theorem lets_no {l : List (List Nat)} (h : Lets l) {d : Nat} (hd : ¬ isLet d) : ∀ c ∈ l, d ∉ c := fun c hc hm => hd (h c hc d hm)
theorem rows_lets {dd : List (List Nat)} (h : RowsOk dd) : Lets dd := fun c hc => az_let (h.az c hc)
theorem caps_lets {dd : List (List Nat)} (h : RowsOk dd) : Lets (dd.map capL) := fun c hc => by
  obtain ⟨a, ha, rfl⟩ := List.mem_map.mp hc
  exact cap_let (h.az a ha)
theorem split_page {dd : List (List Nat)} (h : RowsOk dd) : Txt.split (pageS dd) sepS = dd.map mk := split_join h.ne (lets_no (rows_lets h) (by unfold isLet; omega))
theorem parts_page {dd : List (List Nat)} (h : RowsOk dd) : Builtin.Str.partsBetween (pageS dd) (Builtin.Str.occurrences (pageS dd) sepS 0 (pageS dd).length ((pageS dd).length + 1)) 2 = dd.map mk := parts_join h.ne (lets_no (rows_lets h) (by unfold isLet; omega))
theorem cap_page {dd : List (List Nat)} (h : RowsOk dd) : Txt.join sepS ((Txt.split (pageS dd) sepS).map Txt.capitalize) = pageS (dd.map capL) := by
  rw [split_page h]
  unfold pageS
  congr 1
  rw [List.map_map, List.map_map]
  exact List.map_congr_left fun c hc => cap_az (h.az c hc)
theorem page_mk (dd : List (List Nat)) : pageS dd = mk (jcps [61, 10] dd) := str_ext (by unfold pageS; rw [join_mk_cps, mk_cps])
theorem jcps_mem : ∀ {l : List (List Nat)} {y : Nat}, y ∈ jcps [61, 10] l → (∃ c ∈ l, y ∈ c) ∨ y = 61 ∨ y = 10
  | [b], y, h => .inl ⟨b, List.mem_cons_self, h⟩
  | b :: c :: r, y, h => by
    have h' : y ∈ b ++ [61, 10] ++ jcps [61, 10] (c :: r) := h
    rcases List.mem_append.mp h' with h | h
    · rcases List.mem_append.mp h with h | h
      · exact .inl ⟨b, List.mem_cons_self, h⟩
      · simp at h; exact .inr h
    · rcases jcps_mem h with ⟨d, hd, hy⟩ | h
      · exact .inl ⟨d, List.mem_cons_of_mem _ hd, hy⟩
      · exact .inr h
theorem jcps_map_filter (p : Nat → Bool) (h61 : p 61 = true) (h10 : p 10 = true) : ∀ l : List (List Nat), (jcps [61, 10] l).filter p = jcps [61, 10] (l.map fun c => c.filter p)
  | [] => rfl
  | [b] => rfl
  | b :: c :: r => by
    show (b ++ [61, 10] ++ jcps [61, 10] (c :: r)).filter p = b.filter p ++ [61, 10] ++ jcps [61, 10] ((c :: r).map fun c => c.filter p)
    rw [List.filter_append, List.filter_append, jcps_map_filter p h61 h10 (c :: r)]
    congr 2
    simp [List.filter_cons, h61, h10]
theorem lo1_up {c : Nat} (h : 97 ≤ c ∧ c ≤ 122) : lo1 (c - 32) ≠ c - 32 := (by decide : ∀ c, c < 123 → 97 ≤ c → lo1 (c - 32) ≠ c - 32) c (Nat.lt_succ_of_le h.2) h.1
theorem cap_filter {l : List Nat} (h : AZ l) : (capL l).filter (fun c => decide (c = lo1 c)) = l.drop 1 := by
  cases l with
  | nil => rfl
  | cons a r =>
    show ((a - 32) :: r).filter _ = r
    have ha := lo1_up (h a List.mem_cons_self)
    rw [List.filter_cons, if_neg (by simpa using fun e => ha e.symm), List.filter_eq_self.mpr]
    intro y hy
    have := lo1_az (h y (List.mem_cons_of_mem _ hy))
    simp [this]
theorem cap_ups {l : List Nat} (h : AZ l) : (capL l).filter (fun c => decide (c ≠ lo1 c)) = ((l.head?.map (· - 32)).toList) := by
  cases l with
  | nil => rfl
  | cons a r =>
    show ((a - 32) :: r).filter _ = [a - 32]
    have ha := lo1_up (h a List.mem_cons_self)
    rw [List.filter_cons, if_pos (by simpa using fun e => ha e.symm), List.filter_eq_nil_iff.mpr]
    intro y hy
    have := lo1_az (h y (List.mem_cons_of_mem _ hy))
    simp [this]
theorem strip_page {dd : List (List Nat)} (h : RowsOk dd) : stripS (mk (qL (jcps [61, 10] (dd.map capL)))) = pageS (dd.map (List.drop 1)) := by
  have hno : ∀ d, ¬ isLet d → d ≠ 61 → d ≠ 10 → d ∉ jcps [61, 10] (dd.map capL) := fun d h1 h2 h3 hm => by
    rcases jcps_mem hm with ⟨c, hc, hy⟩ | hm | hm
    · exact h1 (caps_lets h c hc d hy)
    · exact h2 hm
    · exact h3 hm
  rw [strip_quoted (hno 34 (by unfold isLet; omega) (by decide) (by decide)) (hno 92 (by unfold isLet; omega) (by decide) (by decide))]
  rw [page_mk, jcps_map_filter _ (by decide) (by decide), List.map_map]
  congr 2
  exact List.map_congr_left fun c hc => cap_filter (h.az c hc)
/-- how many rows still have letters -/
noncomputable def cntU (dd : List (List Nat)) : Nat := (dd.filter fun c => !c.isEmpty).length
theorem ups_count : ∀ {dd : List (List Nat)}, (∀ c ∈ dd, AZ c) → ((dd.map capL).flatten.filter fun c => decide (c ≠ lo1 c)).length = cntU dd
  | [], _ => rfl
  | b :: r, h => by
    rw [List.map_cons, List.flatten_cons, List.filter_append, List.length_append, ups_count fun c hc => h c (List.mem_cons_of_mem _ hc), cap_ups (h b List.mem_cons_self)]
    unfold cntU
    cases b with
    | nil => simp
    | cons a t => simp; omega
theorem marked_low {dd : List (List Nat)} (h : RowsOk dd) : ∀ c ∈ jcps [61, 10] (dd.map capL), c < 128 := fun c hm => by
  rcases jcps_mem hm with ⟨d, hd, hy⟩ | hm | hm
  · have := caps_lets h d hd c hy; unfold isLet at this; omega
  · omega
  · omega
theorem marked_len {dd : List (List Nat)} (h : RowsOk dd) : (jcps [61, 10] (dd.map capL)).length ≤ 120 := by
  have h1 := jcps_len (dd.map capL) 10 fun c hc => by
    obtain ⟨a, ha, rfl⟩ := List.mem_map.mp hc
    rw [cap_len]; exact h.sz a ha
  rw [List.length_map] at h1
  have := h.n
  omega
theorem flat_len {dd : List (List Nat)} (h : RowsOk dd) : (dd.map capL).flatten.length ≤ 100 := by
  have key : ∀ l : List (List Nat), (∀ c ∈ l, c.length ≤ 10) → (l.map capL).flatten.length ≤ l.length * 10 := by
    intro l
    induction l with
    | nil => intro _; simp
    | cons a r ih =>
      intro h
      have h1 := ih fun c hc => h c (List.mem_cons_of_mem _ hc)
      have h2 := h a List.mem_cons_self
      rw [List.map_cons, List.flatten_cons, List.length_append, cap_len, List.length_cons, Nat.succ_mul]; omega
  have := key dd h.sz
  have := h.n
  omega
theorem word_low {dd : List (List Nat)} (h : RowsOk dd) : ∀ c ∈ (dd.map capL).flatten, c < 128 := fun c hm => by
  obtain ⟨d, hd, hy⟩ := List.mem_flatten.mp hm
  have := caps_lets h d hd c hy; unfold isLet at this; omega
theorem qL_len (l : List Nat) : (qL l).length ≤ 3 * l.length := by
  induction l with
  | nil => exact Nat.le_refl _
  | cons a r ih =>
    rw [qL_cons, List.length_append, List.length_cons]
    unfold qc; split <;> simp <;> omega
/-- what capital rows give when joined: row[:1].upper() + row[1:] -/
theorem cap_cut {l : List Nat} (h : AZ l) : Txt.upper (Txt.slice (mk l) none (some 1)) ++ Txt.slice (mk l) (some 1) none = mk (capL l) := by
  cases l with
  | nil => decide +kernel
  | cons a r =>
    have h1 : Txt.slice (mk (a :: r)) none (some 1) = mk [a] := by
      have := StrLaws.sliceText_to (x := mk (a :: r)) (j := 1) ⟨by decide, by rw [mk_cps]; simp; omega⟩
      refine Eq.trans this (str_ext ?_)
      rw [mk_cps, mk_cps]; simp
    have h2 : Txt.slice (mk (a :: r)) (some 1) none = mk r := by
      have := StrLaws.sliceText_from (x := mk (a :: r)) (i := 1) ⟨by decide, by rw [mk_cps]; simp; omega⟩
      refine Eq.trans this (str_ext ?_)
      rw [mk_cps, mk_cps]; simp
    have ha := h a List.mem_cons_self
    rw [h1, h2, upper_mk (by simp; omega), mk_app]
    show mk ([up1 a] ++ r) = mk ((a - 32) :: r)
    rw [up1_az ha]; rfl
theorem cut_one (l : List Nat) : Txt.slice (mk l) (some 1) none = mk (l.drop 1) := by
  cases l with
  | nil => decide +kernel
  | cons a r =>
    have := StrLaws.sliceText_from (x := mk (a :: r)) (i := 1) ⟨by decide, by rw [mk_cps]; simp; omega⟩
    refine Eq.trans this (str_ext ?_)
    rw [mk_cps, mk_cps]; simp
end
/-! ### L7 -/
section
noncomputable def st10 : Stmt := pickSt (k := 10) _ rfl
noncomputable def turnR (due : List (List Nat)) (i : Nat) : List (List Nat) := due.map (List.drop i)
theorem turnR_ok {due : List (List Nat)} (h : RowsOk due) (i : Nat) : RowsOk (turnR due i) where
  ne := by have := h.ne; simpa [turnR] using this
  n := by unfold turnR; rw [List.length_map]; exact h.n
  sz := fun c hc => by
    obtain ⟨a, ha, rfl⟩ := List.mem_map.mp hc
    have := h.sz a ha; rw [List.length_drop]; omega
  az := fun c hc => by
    obtain ⟨a, ha, rfl⟩ := List.mem_map.mp hc
    exact fun x hx => h.az a ha x (List.mem_of_mem_drop hx)
theorem turnR_succ (due : List (List Nat)) (i : Nat) : (turnR due i).map (List.drop 1) = turnR due (i + 1) := by
  unfold turnR; rw [List.map_map]
  exact List.map_congr_left fun c _ => by show (c.drop i).drop 1 = _; rw [List.drop_drop]
theorem turnR_zero (due : List (List Nat)) : turnR due 0 = due := (List.map_congr_left fun c _ => rfl).trans (List.map_id due)
noncomputable def cntsOf (due : List (List Nat)) (i : Nat) : List Nat := (List.range i).map fun j => cntU (turnR due j)
theorem cntsOf_succ (due : List (List Nat)) (i : Nat) : cntsOf due (i + 1) = cntsOf due i ++ [cntU (turnR due i)] := by unfold cntsOf; rw [List.range_succ, List.map_append]; rfl
theorem dec_any {w : World} {A : Around} {n : Nat} {mg mb : Str → Option Value} {s₀ s : Shared} {led : Led} {E : Value → Shared → Prop} {Q : Value → Shared → Prop} {gs : GL} (G : GG w mg mb s₀.heap) (hA : AOk A (n + 4)) (H : Inn s₀ led gs s) {dd : List (List Nat)} {tx : Tok} (hok : RowsOk dd)
    (k : ∀ t' s', Inn s₀ led gs s' → Q (.str (mk (dd.map capL).flatten) t') s') : wpAny (MM w) A (call (.ref 79) [.str (mk (jcps [61, 10] (dd.map capL))) tx]) Q E s := by
  have hne : dd.map capL ≠ [] := by have := hok.ne; simpa using this
  by_cases h0 : (mk (jcps [61, 10] (dd.map capL))).length = 0
  · refine dec_nil G hA H h0 (fun t s H => ?_)
    have e : jcps [61, 10] (dd.map capL) = (dd.map capL).flatten := by
      rw [mk_len] at h0
      match hd : dd.map capL with
      | [] => exact absurd hd hne
      | [b] => simp [jcps]
      | b :: c :: r =>
        rw [hd] at h0
        have : (b ++ [61, 10] ++ jcps [61, 10] (c :: r)).length = 0 := h0
        simp at this
    rw [e]; exact k t s H
  · have hp : 0 < (pageS (dd.map capL)).length := by rw [page_mk]; omega
    rw [← page_mk]
    refine dec_ct G hA H (decIn_join hne (caps_lets hok) (by rw [List.length_map]; exact hok.n) (fun c hc => ?_) hp) (fun t s H => ?_)
    · obtain ⟨a, ha, rfl⟩ := List.mem_map.mp hc
      rw [cap_len]; exact hok.sz a ha
    · have := decR_join hne (caps_lets hok) hp
      show Q (.str (decR (Txt.join sepS ((dd.map capL).map mk)) (lns (dd.map capL))) t) s
      rw [this]; exact k t s H
theorem cut_to_len (l : List Nat) : (Txt.slice (mk l) none (some 1)).length ≤ 5592405 := by
  cases l with
  | nil => decide +kernel
  | cons a r =>
    have := StrLaws.sliceText_to (x := mk (a :: r)) (j := 1) ⟨by decide, by rw [mk_cps]; simp; omega⟩
    rw [show Txt.slice (mk (a :: r)) none (some 1) = _ from this, str_len]
    show (List.take 1 _).length ≤ _
    rw [List.length_take]; omega
theorem segG {w : World} {A : Around} {n : Nat} {mg mb : Str → Option Value} {s₀ s : Shared} {led : Led} {Q : Flow → Shared → Prop} {L cD cC cS cO cL cT cR cH cM cQ ld lr ls lc : Addr} {vd vs : List Value} {due : List (List Nat)} {tp : Tok} (G : GG w mg mb s₀.heap) (hA : AOk A (n + 10))
    (H : Inn s₀ ((L, nsC [(Str.ofString "sizes", .ref ls), (Str.ofString "page", .str (pageS due) tp), (Str.ofString "counts", .ref lc), (Str.ofString "due", .ref ld)]) :: (ls, lstC vs) :: (lc, lstC []) :: (ld, lstC vd) :: led) [] s)
    (hd : Paired isL due vd) (hok : RowsOk due)
    (k : ∀ (vc : List Value) (s' : Shared), Paired isN (cntsOf due 4) vc → Inn s₀ ((L, nsC [(Str.ofString "sizes", .ref ls), (Str.ofString "counts", .ref lc)]) :: (ls, lstC vs) :: (lc, lstC vc) :: led) [] s' → Q .next s') :
    wpAny (MM w) A (execs [st10] (lenv L cD cC cS cO cL cT cR cH cM cQ)) Q (fun _ _ => False) s := by
  unfold st10 pickSt
  repeat' cell_call
  refine' for_ix (n := 4) (fun i s => ∃ (tp : Tok) (ld : Addr) (vd vc : List Value), Paired isL (turnR due i) vd ∧ Paired isN (cntsOf due i) vc ∧ Inn s₀ ((D, riC i 4) :: (L, nsC [(Str.ofString "sizes", .ref ls), (Str.ofString "page", .str (pageS (turnR due i)) tp), (Str.ofString "counts", .ref lc), (Str.ofString "due", .ref ld)]) :: (ls, lstC vs) :: (lc, lstC vc) :: (ld, lstC vd) :: led) [] s) ?turn ?done ?h0
  case h0 =>
    exact ⟨_, _, _, [], by rw [turnR_zero]; exact hd, .nil, by rw [turnR_zero]; exact H.pick (by tb_rel)⟩
  case done =>
    clear H; rintro s ⟨tp, ld, vd, vc, h1, h2, H⟩
    refine nx_range_end H hA (fun s H => ⟨rfl, ?_⟩) .head (Int.le_refl _)
    repeat' cell_call
    have H := H.prune (L := L) (l' := [(Str.ofString "sizes", .ref ls), (Str.ofString "counts", .ref lc)]) (by tb_rel) (by tb_rel)
    exact k _ _ h2 (H.pick (by tb_rel))
  case turn =>
    obtain ⟨J, rfl⟩ : ∃ J, J = D := ⟨_, rfl⟩
    clear H; rintro i s hi ⟨tp, ld, vd, vc, h1, h2, H⟩
    have hcl : vc.length ≤ 4 := by rw [← h2.length]; unfold cntsOf; simp; omega
    rw [cntsOf_succ, ← turnR_succ]
    have hok := turnR_ok hok i
    generalize turnR due i = dd at h1 H hok ⊢
    generalize cntsOf due i = cs at h2 ⊢
    intro Rq hRq
    refine nx_range H (fun t s H => ?_) .head (by omega)
    refine go_name ?_
    repeat' cell_call
    have hpz : (pageS dd).length ≤ 120 := page_len hok.n hok.sz
    refine cap_ct G (hA.le (Nat.le_refl _ : (n + 6) + 4 ≤ n + 10)) H (Nat.le_trans hpz (by decide)) ?z1 ?z2 ?z3 ?z4 (fun tm s H => ?_)
    case z1 => rw [parts_page hok, List.length_map]; exact Nat.le_trans hok.n (by decide)
    case z2 =>
      rw [split_page hok]
      intro y hy
      obtain ⟨c, hc, rfl⟩ := List.mem_map.mp hy
      rw [mk_len]; exact Nat.le_trans (hok.sz c hc) (by decide)
    case z3 => rw [split_page hok, List.length_map]; exact Nat.le_trans hok.n (by decide)
    case z4 =>
      rw [split_page hok]
      intro y hy
      obtain ⟨c, hc, rfl⟩ := List.mem_map.mp hy
      rw [cap_az (hok.az c hc), mk_len, cap_len]; exact Nat.le_trans (hok.sz c hc) (by decide)
    rw [cap_page hok, page_mk (dd.map capL)] at *
    repeat' cell_call
    refine dec_any G (hA.le (Nat.le_refl _ : (n + 6) + 4 ≤ n + 10)) H hok (fun tw s H => ?_)
    repeat' cell_call
    have hdz : vd.length ≤ sizeLine := by rw [← h1.length]; exact Nat.le_trans hok.n (by decide)
    refine' LF_list0 (fun (l : List Nat) v => isL (capL l) v) h1 hA H ?ur rfl (by kernel_rfl!) hdz (fun l v lc i ys s hm hf H => ?hG) (fun lc2 ys s hP H => ?hK)
    case ur => tb_rel
    case hG =>
      obtain ⟨tv, rfl⟩ := hf
      have hlz : (mk l).length ≤ sizeLine := by rw [mk_len]; exact Nat.le_trans (hok.sz l hm) (by decide)
      have hcc := cap_cut (hok.az l hm)
      have hus := cut_to_len l
      have hul : (Txt.upper (Txt.slice (mk l) none (some 1)) ++ Txt.slice (mk l) (some 1) none).length ≤ sizeLine := by rw [hcc, mk_len, cap_len]; exact Nat.le_trans (hok.sz l hm) (by decide)
      rw [app_len] at hul
      repeat' cell_call
      refine s_upper H (fun tu s H => ?_) hus
      repeat' cell_call
      refine s_add H (fun tc s H => ?_) hul
      exact ⟨⟨_, congrArg (fun x => Value.str x _) hcc⟩, H.pick (by tb_rel)⟩
    case hK =>
      refine cp_none H (fun s H => ?_) .head
      repeat' cell_call
      refine' s_join (xs := (dd.map capL).map mk) H (fun tj s H => ?_) ?r2 ?pp ?hz
      case r2 => tb_rel
      case pp => rw [List.map_map]; exact paired_map (fun l => mk (capL l)) hP
      case hz =>
        rw [mk_sum, show (Str.ofString "").length = 0 from by decide +kernel]
        exact Nat.le_trans (Nat.add_le_add_right (flat_len hok) _) (by omega)
      rw [join_mk]
      repeat' cell_call
      rw [bne_self_eq_false]
      repeat' cell_call
      have hwl := word_low hok
      have hwz : (mk (dd.map capL).flatten).length ≤ sizeLine := by rw [mk_len]; exact Nat.le_trans (flat_len hok) (by decide)
      have hwc : (mk (dd.map capL).flatten).cps.toList = (dd.map capL).flatten := mk_cps _
      refine' LF_str (fun c => decide (c ≠ lo1 c)) (fun c v => True) hA H rfl (by kernel_rfl!) hwz (fun c u lc3 ri ys s hc H => ?hp) (fun c u lc3 ri ys s hc hpc H => ?hG) (fun lc3 ys s hP H => ?hK)
      case hp =>
        rw [hwc] at hc
        have hsl : (⟨#[c]⟩ : Str).length ≤ 5592405 := by rw [str_len]; show 1 ≤ 5592405; decide
        refine wpAny_tests_one ?_
        repeat' cell_call
        rw [show Txt.lower ⟨#[c]⟩ = mk [lo1 c] from lower_mk (l := [c]) (by simpa using hwl c hc)]
        refine ⟨?_, H⟩
        rw [mk_cps, Bool.eq_iff_iff]; simp [bne]
      case hG =>
        repeat' cell_call
        exact ⟨trivial, H⟩
      case hK =>
        refine cp_none H (fun s H => ?_) .head
        have hup := ups_count hok.az
        have hcn : ys.length = cntU dd := by rw [← hP.length, hwc, hup]
        have hyz : ys.length ≤ sizeLine := by
          rw [hcn]; exact Nat.le_trans (List.length_filter_le ..) (Nat.le_trans hok.n (by decide))
        have hcz : vc.length ≤ sizeLine := Nat.le_trans hcl (by decide)
        repeat' cell_call
        have hml := marked_low hok
        have hmz : (mk (jcps [61, 10] (dd.map capL))).length ≤ sizeLine := by rw [mk_len]; exact Nat.le_trans (marked_len hok) (by decide)
        have hmc : (mk (jcps [61, 10] (dd.map capL))).cps.toList = jcps [61, 10] (dd.map capL) := mk_cps _
        refine' LF_str (fun c => true) (fun c v => isS (mk (qc c)) v) hA H rfl (by kernel_rfl!) hmz (fun c u lc4 ri zs s hc H => ?hp) (fun c u lc4 ri zs s hc hpc H => ?hG) (fun lc4 zs s hP2 H => ?hK)
        case hp =>
          exact wpAny_tests_nil ⟨rfl, H⟩
        case hG =>
          rw [hmc] at hc
          have hsl : (⟨#[c]⟩ : Str).length ≤ 5592405 := by rw [str_len]; show 1 ≤ 5592405; decide
          repeat' cell_call
          rw [show Txt.lower ⟨#[c]⟩ = mk [lo1 c] from lower_mk (l := [c]) (by simpa using hml c hc), mk_cps]
          refine PyProof.Rows.split_bool (fun hb => ?_) (fun hb => ?_)
          · have hq : qc c = [34, c, 34] := if_neg (by intro e; rw [← e] at hb; simp at hb)
            have hz1 : (Str.ofString "\"").length + (⟨#[c]⟩ : Str).length ≤ sizeLine := by rw [show (Str.ofString "\"").length = 1 from by decide +kernel]; show 1 + 1 ≤ sizeLine; decide
            have hz2 : (Str.ofString "\"" ++ (⟨#[c]⟩ : Str)).length + (Str.ofString "\"").length ≤ sizeLine := by rw [app_len, show (Str.ofString "\"").length = 1 from by decide +kernel]; show 1 + 1 + 1 ≤ sizeLine; decide
            repeat' cell_call
            rw [hq]
            exact ⟨⟨_, rfl⟩, H⟩
          · have hq : qc c = [c] := if_pos (by simpa using hb)
            repeat' cell_call
            rw [hq]
            exact ⟨⟨_, rfl⟩, H⟩
        case hK =>
          refine cp_none H (fun s H => ?_) .head
          repeat' cell_call
          rw [hmc, List.filter_eq_self.mpr (fun _ _ => rfl)] at hP2
          refine' s_join (xs := ((jcps [61, 10] (dd.map capL)).map qc).map mk) H (fun tj s H => ?_) ?r2 ?pp ?hz
          case r2 => tb_rel
          case pp => rw [List.map_map]; exact paired_map (fun c => mk (qc c)) hP2
          case hz =>
            rw [mk_sum, show (Str.ofString "").length = 0 from by decide +kernel]
            have h1 := qL_len (jcps [61, 10] (dd.map capL))
            have h2 := marked_len hok
            unfold qL at h1; omega
          rw [join_mk, show ((jcps [61, 10] (dd.map capL)).map qc).flatten = qL (jcps [61, 10] (dd.map capL)) from rfl]
          repeat' cell_call
          refine strip_ct G (hA.le (Nat.le_refl _ : (n + 4) + 6 ≤ n + 10)) H (by
            rw [mk_len]
            have h1 := qL_len (jcps [61, 10] (dd.map capL))
            have h2 := marked_len hok
            omega) (by
            rw [mk_cps]
            refine q_end _ rfl fun h => ?_
            rcases q_sub h with h | h
            · rcases jcps_mem h with ⟨c, hc, hy⟩ | h | h
              · have := caps_lets hok c hc _ hy; unfold isLet at this; omega
              · omega
              · omega
            · omega) (fun tq s H => ?_)
          rw [strip_page hok]
          repeat' cell_call
          refine' LF_list0 (fun (l : List Nat) v => isL (l.drop 1) v) h1 hA H ?r3 rfl (by kernel_rfl!) hdz (fun l v lc5 i zs s hm hf H => ?hG) (fun lc5 zs s hP3 H => ?hK)
          case r3 => tb_rel
          case hG =>
            obtain ⟨tv, rfl⟩ := hf
            have hlz : (mk l).length ≤ sizeLine := by rw [mk_len]; exact Nat.le_trans (hok.sz l hm) (by decide)
            repeat' cell_call
            exact ⟨⟨_, congrArg (fun x => Value.str x _) (cut_one l)⟩, H.pick (by tb_rel)⟩
          case hK =>
            refine cp_some (s₀ := s₀) ?_
            repeat' cell_call
            refine ⟨_, _, _, _, H, by tb_rel, fun s H => ?_⟩
            repeat' cell_call
            have hd3 : Paired isL (dd.map (List.drop 1)) zs := paired_map _ hP3
            have hc3 : ∀ t, Paired isN (cs ++ [cntU dd]) (vc ++ [Value.int (ys.length : Nat) t]) := fun t => h2.snoc ⟨t, by rw [hcn]⟩
            exact ⟨_, _, _, _, hd3, hc3 _, (H.prune (L := L) (l' := [(Str.ofString "sizes", .ref ls), (Str.ofString "page", .str (pageS (dd.map (List.drop 1))) _), (Str.ofString "counts", .ref lc), (Str.ofString "due", .ref _)]) (by tb_rel) (by tb_rel)).pick (by tb_rel)⟩
end
/-! ### Z3 -/
section
/-! ### a set's table: the places rise -/
noncomputable def Rise (xs : Array Nat) : Prop := ∀ i j, i < j → j < xs.size → xs.getD i 0 < xs.getD j 0
theorem getD_any (xs : Array Nat) {i : Nat} (h : i < xs.size) (a b : Nat) : xs.getD i a = xs.getD i b := by simp [Array.getD, h]
theorem mid_in {lo hi f : Nat} (h : lo < hi) (hf : hi - lo ≤ f + 1) : lo ≤ (lo + hi) / 2 ∧ (lo + hi) / 2 < hi ∧ hi - ((lo + hi) / 2 + 1) ≤ f ∧ (lo + hi) / 2 - lo ≤ f := by omega
theorem below_go (xs : Array Nat) (hr : Rise xs) (v : Nat) : ∀ (fuel lo hi : Nat), hi - lo ≤ fuel → lo ≤ hi → hi ≤ xs.size → (∀ i, i < lo → xs.getD i 0 < v) → (∀ i, hi ≤ i → i < xs.size → v ≤ xs.getD i 0) →
    (SetTable.below.go xs v fuel lo hi ≤ xs.size) ∧ (∀ i, i < SetTable.below.go xs v fuel lo hi → xs.getD i 0 < v) ∧ (∀ i, SetTable.below.go xs v fuel lo hi ≤ i → i < xs.size → v ≤ xs.getD i 0)
  | 0, lo, hi, hf, hle, hs, h1, h2 => by
    cases Nat.le_antisymm (Nat.le_of_sub_eq_zero (Nat.le_zero.mp hf)) hle
    exact ⟨hs, h1, h2⟩
  | fuel + 1, lo, hi, hf, hle, hs, h1, h2 => by
    unfold SetTable.below.go
    split
    · rename_i hlt
      dsimp only
      obtain ⟨m1, m2, m3, m4⟩ := mid_in hlt hf
      generalize (lo + hi) / 2 = m at m1 m2 m3 m4 ⊢
      have hmz := Nat.lt_of_lt_of_le m2 hs
      rw [getD_any xs hmz v 0]
      by_cases hm : xs.getD m 0 < v
      · rw [if_pos hm]
        refine below_go xs hr v fuel _ hi m3 m2 hs (fun i hi' => ?_) h2
        rcases Nat.lt_or_ge i m with h | h
        · exact Nat.lt_trans (hr i _ h hmz) hm
        · cases Nat.le_antisymm (Nat.le_of_lt_succ hi') h; exact hm
      · rw [if_neg hm]
        refine below_go xs hr v fuel lo _ m4 m1 (Nat.le_of_lt hmz) h1 (fun i hi' hi2 => ?_)
        rcases Nat.lt_or_ge m i with h | h
        · exact Nat.le_trans (Nat.le_of_not_lt hm) (Nat.le_of_lt (hr _ i h hi2))
        · cases Nat.le_antisymm h hi'; exact Nat.le_of_not_lt hm
    · rename_i hn
      cases Nat.le_antisymm (Nat.le_of_not_lt hn) hle
      exact ⟨hs, h1, h2⟩
theorem below_spec (xs : Array Nat) (hr : Rise xs) (v : Nat) : (SetTable.below xs v ≤ xs.size) ∧ (∀ i, i < SetTable.below xs v → xs.getD i 0 < v) ∧ (∀ i, SetTable.below xs v ≤ i → i < xs.size → v ≤ xs.getD i 0) :=
  below_go xs hr v xs.size 0 xs.size (Nat.sub_le ..) (Nat.zero_le _) (Nat.le_refl _) (fun i h => absurd h (Nat.not_lt_zero _)) (fun i h1 h2 => absurd h2 (Nat.not_lt_of_le h1))
theorem below_at {xs : Array Nat} (hr : Rise xs) {i : Nat} (hi : i < xs.size) : SetTable.below xs (xs.getD i 0 + 1) = i + 1 := by
  obtain ⟨h1, h2, h3⟩ := below_spec xs hr (xs.getD i 0 + 1)
  rcases Nat.lt_trichotomy (SetTable.below xs (xs.getD i 0 + 1)) (i + 1) with h | h | h
  · exact absurd (h3 i (Nat.le_of_lt_succ h) hi) (Nat.not_succ_le_self _)
  · exact h
  · exact absurd (Nat.le_of_lt_succ (h2 (i + 1) h)) (Nat.not_le_of_lt (hr i (i + 1) (Nat.lt_succ_self i) (Nat.lt_of_lt_of_le h h1)))
theorem below_zero {xs : Array Nat} (hr : Rise xs) : SetTable.below xs 0 = 0 := by
  obtain ⟨h1, h2, h3⟩ := below_spec xs hr 0
  rcases Nat.eq_zero_or_pos (SetTable.below xs 0) with h | h
  · exact h
  · exact absurd (h2 0 h) (Nat.not_lt_zero _)
theorem getD_list' (x : Array Nat) (k : Nat) : x.getD k 0 = x.toList.getD k 0 := by
  simp [List.getD, Array.getD]
  by_cases h : k < x.size <;> simp [h]
theorem rise_list {xs : Array Nat} (h : xs.toList.Pairwise (· < ·)) : Rise xs := by
  intro i j hij hj
  rw [getD_list', getD_list', List.getD_eq_getElem?_getD, List.getD_eq_getElem?_getD, List.getElem?_eq_getElem (by simpa using (by omega : i < xs.size)), List.getElem?_eq_getElem (by simpa using hj)]
  exact List.pairwise_iff_getElem.mp h i j _ _ hij
theorem rise_pw {xs : Array Nat} (h : Rise xs) : xs.toList.Pairwise (· < ·) := by
  rw [List.pairwise_iff_getElem]
  intro i j hi hj hij
  have := h i j hij hj
  rwa [getD_list', getD_list', List.getD_eq_getElem?_getD, List.getD_eq_getElem?_getD, List.getElem?_eq_getElem hi, List.getElem?_eq_getElem hj] at this
theorem rise_insert {xs : Array Nat} (hr : Rise xs) {v : Nat} (hv : xs[SetTable.below xs v]? ≠ some v) : Rise (SetTable.insertAt xs (SetTable.below xs v) v) := by
  obtain ⟨h1, h2, h3⟩ := below_spec xs hr v
  generalize SetTable.below xs v = p at *
  have hp := rise_pw hr
  have hg : ∀ i (h : i < xs.toList.length), xs.getD i 0 = xs.toList[i] := fun i h => by
    rw [getD_list', List.getD_eq_getElem?_getD, List.getElem?_eq_getElem h]; rfl
  have ht : ∀ a ∈ xs.toList.take p, a < v := fun a ha => by
    obtain ⟨i, hi, rfl⟩ := List.getElem_of_mem ha
    rw [List.length_take] at hi
    have := h2 i (Nat.lt_of_lt_of_le hi (Nat.min_le_left ..))
    rwa [hg i (Nat.lt_of_lt_of_le hi (Nat.min_le_right ..)), ← List.getElem_take] at this
  have hd : ∀ b ∈ xs.toList.drop p, v < b := fun b hb => by
    obtain ⟨i, hi, rfl⟩ := List.getElem_of_mem hb
    rw [List.getElem_drop]
    have hpi : p + i < xs.toList.length := Nat.add_comm i p ▸ Nat.add_lt_of_lt_sub (List.length_drop ▸ hi)
    rw [← hg (p + i) hpi]
    cases i with
    | zero =>
      refine Nat.lt_of_le_of_ne (h3 p (Nat.le_refl _) hpi) fun e => hv ?_
      have e : v = xs.getD p 0 := e
      have hpi : p < xs.size := hpi
      rw [Array.getElem?_eq_getElem hpi, e]; simp [Array.getD, hpi]
    | succ i =>
      have hlt : p < p + (i + 1) := Nat.lt_add_of_pos_right (Nat.succ_pos i)
      exact Nat.lt_of_le_of_lt (h3 p (Nat.le_refl _) (Nat.lt_trans hlt hpi)) (hr p _ hlt hpi)
  refine rise_list ?_
  rw [SetTable.toList_insertAt, List.pairwise_append, List.pairwise_cons]
  refine ⟨hp.sublist (List.take_sublist ..), ⟨hd, hp.sublist (List.drop_sublist ..)⟩, fun a ha b hb => ?_⟩
  rcases List.mem_cons.mp hb with rfl | hb
  · exact ht a ha
  · exact Nat.lt_trans (ht a ha) (hd b hb)
/-- a table that no one has taken from -/
structure TOk (led : Bool) (t : SetTable) : Prop where
  led : t.led = led
  nod : t.dummies = #[]
  rise : Rise t.place
theorem tok_fresh (led : Bool) : TOk led (.fresh 0 0 led) := ⟨rfl, rfl, fun i j h1 h2 => by simp [SetTable.fresh] at h2⟩
theorem TOk.standIn {b : Bool} {t : SetTable} (h : TOk b t) (n : Nat) : TOk b (t.standIn n) := ⟨h.led, rfl, rise_list (by simp [SetTable.standIn]; rw [List.range_eq_range']; exact List.pairwise_lt_range')⟩
theorem TOk.orStandIn {b : Bool} {t : SetTable} (h : TOk b t) (n : Nat) : TOk b (t.orStandIn n) := by
  unfold SetTable.orStandIn; split
  · exact h
  · exact h.standIn n
theorem TOk.unplain {b : Bool} {t : SetTable} (h : TOk b t) : TOk b { t with plain := false } := ⟨h.led, h.nod, h.rise⟩
theorem has_nil (j : Nat) : SetTable.has #[] j = false := by unfold SetTable.has; simp
theorem TOk.slot {b : Bool} {t : SetTable} (h : TOk b t) (j : Nat) : (∃ i, t.slot j = .live i) ∨ (t.slot j = .empty ∧ t.place[SetTable.below t.place j]? ≠ some j) := by
  unfold SetTable.slot
  dsimp only
  split
  · exact .inl ⟨_, rfl⟩
  · rename_i hc
    rw [h.nod, has_nil]
    exact .inr ⟨rfl, fun e => hc (by rw [e]; simp)⟩
theorem TOk.probe {b : Bool} {t : SetTable} (h : TOk b t) (g : Nat → Int) (hv : Int) : ∀ (fuel : Nat) (p : SetTable.Probe) (j : Nat) (d : Option Nat), p.dummy = none → SetTable.probe.go t g hv fuel p = some (.empty j d) → d = none ∧ t.place[SetTable.below t.place j]? ≠ some j
  | 0, p, j, d, _, e => by unfold SetTable.probe.go at e; cases e
  | fuel + 1, p, j, d, hp, e => by
    have hadv : (t.advance p).dummy = none := by
      unfold SetTable.advance
      split
      · exact hp
      · exact hp
    unfold SetTable.probe.go at e
    rcases h.slot p.j with ⟨i, hl⟩ | ⟨hl, hn⟩
    · rw [hl] at e
      dsimp only at e
      split at e
      · cases e
      · exact h.probe g hv fuel _ j d hadv e
    · rw [hl] at e
      dsimp only at e
      injection e with e
      injection e with e1 e2
      subst e1
      exact ⟨by rw [← e2]; exact hp, hn⟩
theorem TOk.freeSlot {b : Bool} {t : SetTable} (h : TOk b t) {hv : Int} {j : Nat} {d : Bool} (e : t.freeSlot hv = some (j, d)) : d = false ∧ t.place[SetTable.below t.place j]? ≠ some j := by
  unfold SetTable.freeSlot at e
  split at e
  · rename_i j' dm hp
    have := h.probe _ _ _ _ j' dm rfl hp
    rw [this.1] at e
    injection e with e
    injection e with e1 e2
    subst e1
    exact ⟨e2.symm, this.2⟩
  · cases e
theorem TOk.layNew {b : Bool} {t : SetTable} (h : TOk b t) (es : Array (Int × Value)) (hv : Int) (x : Value) : TOk b (PySem.layNew t es hv x).2.1 := by
  unfold PySem.layNew
  split
  · rename_i j d hf
    have hfs := h.freeSlot hf
    dsimp only
    refine TOk.orStandIn ?_ _
    unfold SetTable.put
    refine ⟨h.led, ?_, rise_insert h.rise hfs.2⟩
    dsimp only
    rw [h.nod, has_nil]; rfl
  · exact h.standIn _
theorem TOk.relayAll {b : Bool} {t : SetTable} (h : TOk b t) (es : Array (Int × Value)) (n : Nat) : TOk b (PySem.relayAll t es n).2.1 := by
  unfold PySem.relayAll
  split
  · rename_i t' order hr
    dsimp only
    split
    · unfold SetTable.relaid SetTable.laid at hr
      obtain ⟨owner, ho, hr⟩ := Option.bind_eq_some_iff.mp hr
      injection hr with hr
      injection hr with hr hr2
      subst hr
      refine ⟨h.led, rfl, rise_list ?_⟩
      dsimp only
      rw [List.pairwise_map]
      refine List.Pairwise.filterMap _ (fun a a' haa c hc c' hc' => ?_) (by rw [List.range_eq_range']; exact List.pairwise_lt_range')
      obtain ⟨k, _, rfl⟩ := Option.map_eq_some_iff.mp hc
      obtain ⟨k', _, rfl⟩ := Option.map_eq_some_iff.mp hc'
      exact haa
    · exact h.standIn _
  · exact h.standIn _
end
/-! ### Z4 -/
section
noncomputable abbrev iK (w : World) : KeyKind Challenge.rw_wz0010_01.row.prog w Int := intKind Challenge.rw_wz0010_01.row.prog w
noncomputable abbrev wb (w : World) : Bool := !(w.params.followText "set-order")
noncomputable def keyV : Value → Int
  | .int k _ => k
  | _ => 0
/-- a set of whole numbers, no more than seen through its walk -/
noncomputable def setC (b : Bool) (S : Int → Bool) : Cell := fun o => o.ExactSet ∧ ∃ es ep t, o.data = .set es ep t ∧ (∀ e ∈ es.toList, ∃ k u, e = (hashInt k, .int k u)) ∧ (es.toList.map fun e => keyV e.2).Nodup ∧ (∀ k, S k = true ↔ k ∈ es.toList.map fun e => keyV e.2) ∧ t.fits es.size = true ∧ TOk b t
section
variable {w : World} {A : Around} {E : Value → Shared → Prop} {s₀ s : Shared} {led led' : Led} {gs : GL} {env : Env} {n : Nat}
theorem elems_of {es : List (Int × Value)} (h : ∀ e ∈ es, ∃ k u, e = (hashInt k, .int k u)) : ElemsOf (iK w) es := fun e he => by
  obtain ⟨k, u, rfl⟩ := h e he
  exact ⟨⟨k, by show Value.isInt k (.int k u) = true; simp [Value.isInt], rfl⟩, rfl⟩
theorem is_key {es : List (Int × Value)} (h : ∀ e ∈ es, ∃ k u, e = (hashInt k, .int k u)) (k : Int) : k ∈ es.map (fun e => keyV e.2) ↔ ∃ e ∈ es, (iK w).is k e.2 = true := by
  constructor
  · intro hm
    obtain ⟨e, he, rfl⟩ := List.mem_map.mp hm
    obtain ⟨k', u, rfl⟩ := h e he
    exact ⟨_, he, by show Value.isInt k' (.int k' u) = true; simp [Value.isInt]⟩
  · rintro ⟨e, he, hk⟩
    obtain ⟨k', u, rfl⟩ := h e he
    have : k' = k := by
      have h2 : Value.isInt k (.int k' u) = true := hk
      simp [Value.isInt] at h2; exact h2
    exact List.mem_map.mpr ⟨_, he, this⟩
theorem nodup_len : ∀ (N : Nat) (l : List Int), l.Nodup → (∀ k ∈ l, 0 ≤ k ∧ k < N) → l.length ≤ N
  | 0, l, _, h => by
    cases l with
    | nil => exact Nat.le_refl _
    | cons a r => have := h a List.mem_cons_self; omega
  | N + 1, l, hn, h => by
    by_cases hm : (N : Int) ∈ l
    · have h1 := nodup_len N (l.erase (N : Int)) (hn.erase _) fun k hk => by
        have hk1 := h k (List.mem_of_mem_erase hk)
        have : k ≠ (N : Int) := fun e => by rw [e] at hk; exact (List.Nodup.not_mem_erase hn) hk
        omega
      rw [List.length_erase_of_mem hm] at h1; omega
    · have h1 := nodup_len N l hn fun k hk => by
        have hk1 := h k hk
        have : k ≠ (N : Int) := fun e => hm (e ▸ hk)
        omega
      omega
theorem set_small {es : Array (Int × Value)} {S : Int → Bool} (h2 : (es.toList.map fun e => keyV e.2).Nodup) (h3 : ∀ k, S k = true ↔ k ∈ es.toList.map fun e => keyV e.2) (hb : ∀ k, S k = true → 0 ≤ k ∧ k < 3000) : es.size ≤ 3000 := by
  have := nodup_len 3000 _ h2 fun k hk => hb k ((h3 k).mpr hk)
  rwa [List.length_map, Array.length_toList] at this
theorem set_of {S : Int → Bool} {a : Addr} {b : Bool} {h : Heap} (x : Has h (a, setC b S)) (hb : ∀ k, S k = true → 0 ≤ k ∧ k < 3000) : ∃ n, h.SetOf (iK w) a S n := by
  obtain ⟨o, ho, hex, es, ep, t, hd, h1, h2, h3, h4, h5⟩ := x
  have := set_small h2 h3 hb
  exact ⟨es.size, o, es, ep, t, ho, hex, hd, elems_of h1, fun k => (h3 k).trans (is_key h1 k), by rw [show scanBound = 4096 from rfl]; omega, h4, rfl⟩
theorem c_inset {S : Int → Bool} {a : Addr} {b : Bool} {k : Int} {u : Tok} {Q : Value → Shared → Prop} (H : Inn s₀ led gs s) (r : Row a (setC b S) led) (hb : ∀ k, S k = true → 0 ≤ k ∧ k < 3000) (kk : ∀ s', Inn s₀ led gs s' → Q (.bool (S k)) s') : wpAny (MM w) A (compareOp .In (.int k u) (.ref a)) Q E s := by
  obtain ⟨m, hS⟩ := set_of (w := w) (H.has r.mem) hb
  exact wpAny_inSet_of (knd := iK w) (k := k) (by show Value.isInt k (.int k u) = true; simp [Value.isInt]) rfl hS (kk _ (H.tok _))
/-- a number goes in -/
theorem add_walk {a : Addr} {o : Obj} {es : Array (Int × Value)} {ep : Nat} {t : SetTable} {b : Bool} {k : Int} {u : Tok} {Q : Bool → Shared → Prop} (ho : s.heap.get? a = some o) (hex : o.ExactSet) (hd : o.data = .set es ep t) (h1 : ∀ e ∈ es.toList, ∃ k u, e = (hashInt k, .int k u))
    (hb : es.size + 1 < scanBound) (hf : t.fits es.size = true) (ht : TOk b t)
    (found : k ∈ es.toList.map (fun e => keyV e.2) → Q false s)
    (new : ∀ es' ep' t' h', k ∉ es.toList.map (fun e => keyV e.2) → es'.toList.Perm (es.toList ++ [(hashInt k, .int k u)]) → t'.fits es'.size = true → TOk b t' → h'.get? a = some { o with data := .set es' ep' t' } → Heap.SameBut a s.heap h' → Q true { s with heap := h' }) :
    wpAny (MM w) A (setAddHashed a (.int k u) (hashInt k)) Q E s := by
  have hkey : (iK w).is k (.int k u) = true := by show Value.isInt k (.int k u) = true; simp [Value.isInt]
  have hel : ElemsOf (iK w) es.toList := elems_of h1
  unfold setAddHashed setAddHashedIn
  refine wpAny_holding (wpAny_bind (wpAny_setState_of ho hd hf ?_))
  dsimp only
  rw [byScan_of (knd := iK w) rfl (by omega) hel]
  simp only [↓reduceIte]
  unfold setAddByScan
  refine wpAny_bind ?_
  refine wpAny_bind (wpAny_rule ?_)
  refine wpAny_bind (wpAny_setScan_of (knd := iK w) hkey ho hd hf hel ?_)
  cases hr : List.findIdx? (fun e => (iK w).is k e.2) es.toList with
  | some j =>
    dsimp only
    obtain ⟨hj, hpj, _⟩ := List.findIdx?_eq_some_iff_getElem.mp hr
    exact wpAny_pure (wpAny_pure (found ((is_key (w := w) h1 k).mpr ⟨es.toList[j], List.getElem_mem hj, hpj⟩)))
  | none =>
    dsimp only
    have hno : k ∉ es.toList.map (fun e => keyV e.2) := fun hm => by
      obtain ⟨e, he, hp⟩ := (is_key (w := w) h1 k).mp hm
      have := List.findIdx?_eq_none_iff.mp hr e he
      rw [hp] at this; cases this
    have hgw : ∀ (b : Bool) {s₁ : Shared} {Q' : Unit → Shared → Prop}, Q' () s₁ → wpAny (MM w) A (match b with | true => rule "set.scan.the-table-gave-way" | false => pure ()) Q' E s₁ :=
      fun b s₁ Q' hq => by cases b <;> first | exact wpAny_pure hq | exact wpAny_rule hq
    have hperm := layNew_perm t es (hashInt k) (.int k u)
    have hfits := layNew_fits t es (hashInt k) (.int k u)
    have htok := ht.layNew es (hashInt k) (.int k u)
    generalize layNew t es (hashInt k) (.int k u) = L at hperm hfits htok ⊢
    obtain ⟨es1, t1, wasDummy, gave⟩ := L
    dsimp only at hperm hfits htok ⊢
    rw [Array.toList_push] at hperm
    have hsz1 : es1.size = es.size + 1 := by rw [← Array.length_toList, hperm.length_eq, List.length_append, Array.length_toList]; rfl
    refine wpAny_bind (hgw _ ?_)
    have tail : ∀ (t2 : SetTable), t2.fits es1.size = true → TOk b t2 → wpAny (MM w) A (do
        storeSet a es1 t2
        if (!wasDummy && t2.tooFull) = true then do
            (match (relayAll t2 es1 (SetTable.grown es1.size)).2.2 with | true => rule "set.scan.the-table-gave-way" | false => pure ())
            storeSet a (relayAll t2 es1 (SetTable.grown es1.size)).1 (relayAll t2 es1 (SetTable.grown es1.size)).2.1
            pure (some true)
          else pure (some true)) (fun x s' => wpAny (MM w) A (match x with | some added => (pure added : Sem Bool) | none => setAddHashedIn a (.int k u) (hashInt k) 99999) Q E s') E s := by
      intro t2 f2 k2
      refine wpAny_bind (wpAny_storeSet_of ho hd ?_ (fits_of_scanBound (by omega)))
      have hg : (s.heap.update a (Obj.putSet es1 t2)).get? a = some { o with data := .set es1 (ep + 1) t2 } := by
        have := Heap.get?_update_self (Obj.putSet es1 t2) ho (by rw [putSet_of es1 t2 hd]; rfl)
        rw [putSet_of es1 t2 hd] at this; exact this
      have hsb1 := Heap.SameBut.update s.heap a (Obj.putSet es1 t2)
      split
      · have hp := relayAll_perm t2 es1 (SetTable.grown es1.size)
        have hfr := relayAll_fits t2 es1 (SetTable.grown es1.size)
        have htr := k2.relayAll es1 (SetTable.grown es1.size)
        generalize relayAll t2 es1 (SetTable.grown es1.size) = Rl at hp hfr htr ⊢
        obtain ⟨es2, t3, gave2⟩ := Rl
        dsimp only at hp hfr htr ⊢
        have hsz : es2.size = es1.size := by rw [← Array.length_toList, hp.length_eq, Array.length_toList]
        refine wpAny_bind (hgw _ ?_)
        refine wpAny_bind (wpAny_storeSet_of hg rfl ?_ (fits_of_scanBound (by omega)))
        have hg2 : ((s.heap.update a (Obj.putSet es1 t2)).update a (Obj.putSet es2 t3)).get? a = some { o with data := .set es2 (ep + 1 + 1) t3 } := by
          have := Heap.get?_update_self (Obj.putSet es2 t3) hg (by rw [putSet_of es2 t3 rfl]; rfl)
          rw [putSet_of es2 t3 rfl] at this; exact this
        exact wpAny_pure (wpAny_pure (new es2 _ t3 _ hno (hp.trans hperm) hfr htr hg2 (hsb1.trans (Heap.SameBut.update _ a _))))
      · exact wpAny_pure (wpAny_pure (new es1 _ t2 _ hno hperm f2 k2 hg hsb1))
    split
    · refine wpAny_bind ?_
      rw [hashByValue_scannable 8 rfl]
      refine wpAny_pure ?_
      exact tail _ hfits htok
    · refine wpAny_bind (wpAny_pure ?_)
      exact tail _ hfits htok
theorem c_add {S : Int → Bool} {a : Addr} {b : Bool} {k : Int} {u : Tok} {Q : Value → Shared → Prop} (H : Inn s₀ led gs s) (hu : Upd a (setC b S) (setC b fun j => S j || decide (j = k)) led led') (hb : ∀ k, S k = true → 0 ≤ k ∧ k < 3000) (kk : ∀ s', Inn s₀ led' gs s' → Q .none s') :
    wpAny (MM w) A (call (.builtin "set.add") [.ref a, .int k u]) Q E s := by
  obtain ⟨o, ho, hex, es, ep, t, hd, h1, h2, h3, h4, h5⟩ := H.has hu.mem
  have hsm := set_small h2 h3 hb
  have hT : s.TypeIs (.ref a) "set" := ⟨o, ho, hex.1⟩
  refine wpAny_call_entry F.slot_set_add hT F.entry_set_add ?_ (F.args_set_add_2 _ _)
  unfold Builtin.«set.add» Builtin.Frozenset.oneOther
  simp only [List.isEmpty_nil, bind_assoc]
  unfold Builtin.Frozenset.addrOf setAdd
  refine wpAny_bind (wpAny_pure ?_)
  try dsimp only
  refine wpAny_bind (wpAny_pure ?_)
  try dsimp only
  refine wpAny_bind ?_
  refine wpAny_holding ?_
  refine wpAny_bind (wpAny_pyHash_int ?_)
  refine add_walk (s := { s with toks := s.toks + 1 }) ho hex hd h1 (by rw [show scanBound = 4096 from rfl]; omega) h4 h5 (fun hm => ?_) (fun es' ep' t' h' hn hp hf ht hg hs => ?_)
  · show wpAny _ _ (ret Value.none) _ _ _
    refine wpAny_pure ⟨_, rfl, kk _ (H.upd hu (fun b o _ e => e) ⟨o, ho, hex, es, ep, t, hd, h1, h2, fun j => ?_, h4, h5⟩)⟩
    rw [Bool.or_eq_true, decide_eq_true_eq, h3 j]
    exact ⟨fun h => h.elim id fun e => e ▸ hm, .inl⟩
  · show wpAny _ _ (ret Value.none) _ _ _
    refine wpAny_pure ⟨_, rfl, kk _ (H.upd hu (fun b o hb e => hs.extBut b o hb e) ⟨_, hg, hex, es', ep', t', rfl, fun e he => ?_, ?_, fun j => ?_, hf, ht⟩)⟩
    · rcases List.mem_append.mp (hp.mem_iff.mp he) with he | he
      · exact h1 e he
      · exact ⟨k, u, List.mem_singleton.mp he⟩
    · refine ((hp.map fun e => keyV e.2).nodup_iff).mpr ?_
      rw [List.map_append, List.nodup_append]
      exact ⟨h2, by simp, fun x hx y hy e => hn (by
        have : y = k := by simpa [keyV] using hy
        rw [← this, ← e]; exact hx)⟩
    · rw [Bool.or_eq_true, decide_eq_true_eq, h3 j, (hp.map fun e => keyV e.2).mem_iff, List.map_append, List.mem_append]
      simp [keyV]
theorem c_newset {Q : Value → Shared → Prop} (H : Inn s₀ led gs s) (kk : ∀ D s', Inn s₀ ((D, setC (wb w) fun _ => false) :: led) gs s' → Q (.ref D) s') : wpAny (MM w) A (newSet (.type "set")) Q E s := by
  unfold newSet setsByText
  refine wpAny_bind (wpAny_bind (wpAny_askSetting (wpAny_pure ?_)))
  dsimp only
  simp only [newObj]
  exact wpAny_bind (wpAny_alloc (wpAny_pure (kk _ _ (H.push (o := { cls := .type "set", dict := none, data := .set #[] 0 (.fresh 0 0 (wb w)) }) ⟨⟨rfl, rfl, rfl⟩, #[], 0, _, rfl, fun e he => by simp at he, by simp, fun k => by simp, by rfl, tok_fresh _⟩ s.toks))))
end
end
/-! ### Z5 -/
section
section
variable {w : World} {A : Around} {E : Value → Shared → Prop} {s₀ s : Shared} {led led' : Led} {gs : GL} {env : Env} {n : Nat}
theorem in_main {Q : Bool → Shared → Prop} {c : Addr} {vs : Array Value} {o : Obj} (hc : env.code = .ref c) (ho : s.heap.get? c = some o) (hd : o.data = .fields vs) (k : ∀ b, Q b s) : wpAny (MM w) A (inMainModule env) Q E s := by
  unfold inMainModule
  rw [hc]
  refine wpAny_bind (wpAny_fieldsOf ho hd ?_)
  split
  · refine wpAny_bind (wpAny_askSetting (wpAny_pure (k _)))
  · exact wpAny_pure (k _)
theorem wpAny_ite' {α : Type} {c : Prop} [Decidable c] {x y : Sem α} {Q : α → Shared → Prop} (h1 : c → wpAny (MM w) A x Q E s) (h2 : ¬ c → wpAny (MM w) A y Q E s) : wpAny (MM w) A (if c then x else y) Q E s := by
  split
  · exact h1 ‹_›
  · exact h2 ‹_›
theorem e_set1 {e : Expr} {pos : Pos} {c : Addr} {vs : Array Value} {o : Obj} {Q : Value → Shared → Prop} (H : Inn s₀ led gs s) (hc : env.code = .ref c) (ho : s.heap.get? c = some o) (hd : o.data = .fields vs)
    (hst : starEach [e] env = [(false, eval e env)])
    (k : ∀ D s', Inn s₀ ((D, setC (wb w) fun _ => false) :: led) gs s' → wpAny (MM w) A (eval e env) (fun v s₁ => ∃ k u, v = .int k u ∧ Inn s₀ ((D, setC (wb w) fun _ => false) :: led) gs s₁ ∧ ∀ s₂, Inn s₀ ((D, setC (wb w) fun j => decide (j = k)) :: led) gs s₂ → Q (.ref D) s₂) E s') :
    wpAny (MM w) A (eval (.Set [e] 0 pos) env) Q E s := by
  rw [arm_eval_Set, hst]
  refine wpAny_bind (wpAny_standAt ?_)
  refine wpAny_bind (in_main hc ho hd fun b => ?_)
  unfold setDisplay
  rw [show displayRoad 0 [e] = .oneByOne from rfl]
  refine wpAny_ite' (fun h => nomatch h) fun _ => ?_
  refine wpAny_bind (c_newset H fun D s H => ?_)
  show wpAny _ _ (holding [.ref D] (do
      let first ← evalAll [do let v ← eval e env; standAt pos; pure v]
      holding first (do
        for x in first do let _ ← setAdd D x
        pure ())
      pure ()) >>= fun _ => pure (.ref D)) Q E s
  refine wpAny_bind (wpAny_holding (wpAny_bind (wpAny_bind (wpAny_bind (wpAny_mono (k D s H) (fun v s₁ h₁ => ?_) fun _ _ f => f)))))
  obtain ⟨kv, u, rfl, H, kk⟩ := h₁
  refine wpAny_bind (wpAny_standAt (wpAny_pure ?_))
  refine wpAny_bind (wpAny_holding (wpAny_pure (wpAny_pure ?_)))
  refine wpAny_bind (wpAny_holding ?_)
  rw [List.forIn_cons]
  refine wpAny_bind (wpAny_bind (wpAny_bind ?_))
  unfold setAdd
  refine wpAny_holding (wpAny_bind (wpAny_pyHash_int ?_))
  obtain ⟨o, ho, hex, es, ep, t, hd, h1, h2, h3, h4, h5⟩ := H.has (a := D) List.mem_cons_self
  have hes : es.toList = [] := by
    cases hl : es.toList with
    | nil => rfl
    | cons a r =>
      have := (h3 (keyV a.2)).mpr (by rw [hl]; exact List.mem_cons_self)
      cases this
  have hsz : es.size = 0 := by rw [← Array.length_toList, hes]; rfl
  refine add_walk (s := { s₁ with toks := s₁.toks + 1 }) ho hex hd h1 (by rw [hsz]; decide) h4 h5 (fun hm => by rw [hes] at hm; cases hm) (fun es' ep' t' h' hn hp hf ht hg hs => ?_)
  rw [hes] at hp
  refine wpAny_pure (wpAny_pure ?_)
  refine wpAny_pure (wpAny_pure (wpAny_pure (kk _ (H.upd .head (fun b o hb e => hs.extBut b o hb e) ⟨_, hg, hex, es', ep', t', rfl, fun e he => ?_, ?_, fun j => ?_, hf, ht⟩))))
  · have := hp.mem_iff.mp he
    exact ⟨kv, u, List.mem_singleton.mp this⟩
  · refine ((hp.map fun e => keyV e.2).nodup_iff).mpr ?_
    simp
  · rw [decide_eq_true_eq, (hp.map fun e => keyV e.2).mem_iff]
    simp [keyV]
end
end
/-! ### Z6 -/
section
theorem slot_setiter_next : Slot "set_iterator" "__next__" "set_iterator.__next__" :=
  .of (owner := "set_iterator") (n := "__next__") (by rw [typeLookup_type, builtinLookup_eq_fast]; kernel_rfl) (by decide +kernel) (by decide +kernel) (by decide +kernel)
    (by first | exact .inl (by decide +kernel) | exact .inr (by decide +kernel)) (by rw [isSubtype_type]; kernel_rfl)
theorem entry_setiter_next : entryFor table "set_iterator.__next__" = some Builtin.«set_iterator.__next__» := entryFor_of_tree (by kernel_rfl)
theorem args_setiter_next (a : Value) : argsOk "set_iterator.__next__" ⟨[a], []⟩ := by unfold argsOk; kernel_rfl
theorem slot_setiter_iter : Slot "set_iterator" "__iter__" "set_iterator.__iter__" :=
  .of (owner := "set_iterator") (n := "__iter__") (by rw [typeLookup_type, builtinLookup_eq_fast]; kernel_rfl) (by decide +kernel) (by decide +kernel) (by decide +kernel)
    (by first | exact .inl (by decide +kernel) | exact .inr (by decide +kernel)) (by rw [isSubtype_type]; kernel_rfl)
theorem entry_setiter_iter : entryFor table "set_iterator.__iter__" = some Builtin.«dict_keyiterator.__iter__» :=
  entryFor_alias (id' := "dict_keyiterator.__iter__") (by rw [fastTable_eq_tree]; kernel_rfl) rfl (by decide +kernel) (by rw [fastTable_eq_tree]; kernel_rfl)
theorem args_setiter_iter (a : Value) : argsOk "set_iterator.__iter__" ⟨[a], []⟩ := by unfold argsOk; kernel_rfl
theorem entry_set_iter : entryFor table "set.__iter__" = some Builtin.«frozenset.__iter__» :=
  entryFor_alias (id' := "frozenset.__iter__") (by rw [fastTable_eq_tree]; kernel_rfl) rfl (by decide +kernel) (by rw [fastTable_eq_tree]; kernel_rfl)
noncomputable abbrev stO (f : Value) (i : Nat) (a : Addr) (n ep : Nat) : Obj := { cls := .type "set_iterator", dict := none, data := .fields #[f, .int i 0, .ref a, .int n 0, .int ep 0], slots := #[] }
section
variable {w : World} {A : Around} {E : Value → Shared → Prop} {s₀ s : Shared} {led led' : Led} {gs : GL} {env : Env} {n : Nat}
theorem erase_perm {α : Type} : ∀ (l : List α) (i : Nat) (h : i < l.length), (l[i] :: l.eraseIdx i).Perm l
  | a :: r, 0, h => .refl _
  | a :: r, i + 1, h => by
    show (r[i]'(by simpa using h) :: a :: r.eraseIdx i).Perm (a :: r)
    exact (List.Perm.swap _ _ _).trans ((erase_perm r i (by simpa using h)).cons a)
theorem wpAny_choose {src : Source} {n : Nat} {Q : Nat → Shared → Prop} (h : n ≠ 0) (k : ∀ i d, i < n → Q i { s with drawn := d }) : wpAny (MM w) A (choose src n) Q E s := fun Γ p hΓ => by
  unfold choose
  rw [Sem.wp_choose]
  exact ⟨h, k _ _ (Nat.mod_lt _ (Nat.pos_of_ne_zero h))⟩
theorem wpAny_drawOrder {α : Type} : ∀ (n : Nat) (xs : List α) {s : Shared} {Q : List α → Shared → Prop}, xs.length = n → (∀ ys d, ys.Perm xs → Q ys { s with drawn := d }) → wpAny (MM w) A (drawOrder n xs) Q E s
  | 0, xs, s, Q, h, k => by
    have e : xs = [] := List.length_eq_zero_iff.mp h
    subst e
    unfold drawOrder
    exact wpAny_pure (k [] s.drawn (.refl _))
  | n + 1, [], s, Q, h, k => by cases h
  | n + 1, x :: r, s, Q, h, k => by
    unfold drawOrder
    refine wpAny_bind (wpAny_choose (by simp) fun i d hi => ?_)
    rw [List.getElem?_eq_getElem hi]
    refine wpAny_bind (wpAny_drawOrder n _ (by rw [List.length_eraseIdx_of_lt hi, h]; rfl) fun ys d' hp => wpAny_pure (k _ d' ?_))
    exact (hp.cons _).trans (erase_perm _ _ hi)
theorem pick_perm {α : Type} (nx : Nat → Nat) : ∀ (fuel k : Nat) (left : List α) (out : Array α), left.length = fuel → (pickOrder.go nx fuel k left out).toList.Perm (out.toList ++ left)
  | 0, k, left, out, h => by
    have e : left = [] := List.length_eq_zero_iff.mp h
    subst e
    unfold pickOrder.go; simp
  | fuel + 1, k, left, out, h => by
    unfold pickOrder.go
    have hi : nx k % left.length < left.length := Nat.mod_lt _ (by omega)
    rw [List.getElem?_eq_getElem hi]
    dsimp only
    refine (pick_perm nx fuel (k + 1) _ _ (by rw [List.length_eraseIdx_of_lt hi]; omega)).trans ?_
    rw [Array.toList_push, List.append_assoc]
    exact List.Perm.append_left _ (erase_perm _ _ hi)
theorem pickOrder_perm {α : Type} (nx : Nat → Nat) (xs : Array α) : (pickOrder nx xs).toList.Perm xs.toList := by
  have := pick_perm nx xs.size 0 xs.toList #[] (by simp)
  simpa [pickOrder] using this
/-- the walk of a set: each of its members once -/
structure SRun (w : World) (A : Around) (s₀ : Shared) (gs : GL) (I : Addr) (zs : List Value) (rows : Nat → Led) (back : Led) : Prop where
  next : ∀ {i : Nat} {led : Led} {s : Shared} {Q : Option Value → Shared → Prop} {E : Value → Shared → Prop} {v : Value}, zs[i]? = some v → Inn s₀ (rows i ++ led) gs s → (∀ s', Inn s₀ (rows (i + 1) ++ led) gs s' → Q (some v) s') → wpAny (MM w) A (pyNext (.ref I)) Q E s
  stop : ∀ {led : Led} {s : Shared} {Q : Option Value → Shared → Prop} {E : Value → Shared → Prop}, Inn s₀ (rows zs.length ++ led) gs s → (∀ s', Inn s₀ (back ++ led) gs s' → Q none s') → wpAny (MM w) A (pyNext (.ref I)) Q E s
  self : ∀ {i : Nat} {led : Led} {s : Shared} {Q : Value → Shared → Prop} {E : Value → Shared → Prop}, Inn s₀ (rows i ++ led) gs s → Q (.ref I) s → wpAny (MM w) A (pyIter (.ref I)) Q E s
theorem self_set {I : Addr} {o : Obj} {Q : Value → Shared → Prop} (ho : s.heap.get? I = some o) (hc : o.cls = .type "set_iterator") (k : Q (.ref I) s) : wpAny (MM w) A (pyIter (.ref I)) Q E s := by
  have hT : s.TypeIs (.ref I) "set_iterator" := ⟨o, ho, hc⟩
  refine wpAny_pyIter_slot hT slot_setiter_iter (wpAny_call_entry slot_setiter_iter hT entry_setiter_iter ?_ (args_setiter_iter _))
  show wpAny _ _ (ret (.ref I)) _ _ s
  exact wpAny_pure ⟨_, rfl, "set_iterator", _, hT, slot_setiter_next.lookup, k⟩
theorem next_some {I a : Addr} {f f' : Value} {i m ep : Nat} {oa : Obj} {es : Array (Int × Value)} {t : SetTable} {v : Value} {Q : Option Value → Shared → Prop} (ho : s.heap.get? I = some (stO f i a m ep)) (ha : s.heap.get? a = some oa) (hd : oa.data = .set es ep t) (hf : t.fits es.size = true) (hm : es.size = m)
    (h : (∃ (sl : Int) (u : Tok) (nx : Nat), f = .int sl u ∧ f' = .int nx 0 ∧ ∀ {E : Value → Shared → Prop} {Q : Option (Value × Nat) → Shared → Prop}, Q (some (v, nx)) s → wpAny (MM w) A.in1 (setNext a sl.toNat i ep) Q E s) ∨
      (f' = f ∧ ∃ (T : Addr) (vs : Array Value) (p : Nat) (u : Tok) (o : Obj) (j : Nat), f = .ref T ∧ s.heap.get? T = some o ∧ o.data = .seq vs j ∧ vs[i]? = some (.int p u) ∧ (es[p]?).map (·.2) = some v))
    (k : ∀ h', h'.get? I = some (stO f' (i + 1) a m ep) → Heap.SameBut I s.heap h' → Q (some v) { s with heap := h' }) : wpAny (MM w) A (pyNext (.ref I)) Q E s := by
  have hT : s.TypeIs (.ref I) "set_iterator" := ⟨_, ho, rfl⟩
  unfold pyNext
  refine wpAny_bind (wpAny_attempt (wpAny_callSpecial?_slot (name := Str.ofString "__next__") hT slot_setiter_next (wpAny_call_entry slot_setiter_next hT entry_setiter_next ?_ (args_setiter_next _))))
  unfold Builtin.«set_iterator.__next__»
  refine wpAny_bind (wpAny_pure ?_)
  refine wpAny_bind (wpAny_fieldsOf ho rfl ?_)
  dsimp only
  refine wpAny_bind (wpAny_setEntries_of ha hd hf ?_)
  rw [hm]
  refine wpAny_ite' (fun e => absurd e (by simp)) fun _ => ?_
  rcases h with ⟨sl, u, nx, rfl, rfl, h⟩ | ⟨rfl, T, vs, p, u, o, j, rfl, hTo, hTd, hp, hv⟩
  · dsimp only
    refine wpAny_bind (h ?_)
    dsimp only
    refine wpAny_bind (wpAny_setField_rec ho (by simp) fun h1 g1 k1 => ?_)
    refine wpAny_bind (wpAny_setField_rec (s := { s with heap := h1 }) g1 (by simp) fun h2 g2 k2 => ?_)
    refine wpAny_pure ⟨_, rfl, wpAny_pure (k h2 ?_ (k1.trans k2))⟩
    rw [g2]; simp [rawInt]
  · dsimp only
    refine wpAny_bind (wpAny_seqItems hTo hTd ?_)
    dsimp only
    rw [Int.toNat_natCast, hp]
    dsimp only
    unfold setNextDrawn
    refine wpAny_bind (wpAny_bind (wpAny_setState_of ha hd hf ?_))
    dsimp only
    refine wpAny_ite' (fun e => absurd e (by simp)) fun _ => ?_
    rw [Int.toNat_natCast]
    cases he : es[p]? with
    | none => rw [he] at hv; cases hv
    | some e =>
      rw [he] at hv
      injection hv with hv
      subst hv
      obtain ⟨eh, ev⟩ := e
      dsimp only
      refine wpAny_pure ?_
      refine wpAny_bind (wpAny_setField_rec ho (by simp) fun h1 g1 k1 => ?_)
      refine wpAny_pure ⟨_, rfl, wpAny_pure (k h1 ?_ k1)⟩
      rw [g1]; simp [rawInt]
theorem next_none {I a : Addr} {f : Value} {i m ep : Nat} {oa : Obj} {es : Array (Int × Value)} {t : SetTable} {Q : Option Value → Shared → Prop} (hA : A.handled = none) (ho : s.heap.get? I = some (stO f i a m ep)) (ha : s.heap.get? a = some oa) (hd : oa.data = .set es ep t) (hf : t.fits es.size = true) (hm : es.size = m)
    (h : (∃ (sl : Int) (u : Tok), f = .int sl u ∧ ∀ {E : Value → Shared → Prop} {Q : Option (Value × Nat) → Shared → Prop}, Q none s → wpAny (MM w) A.in1 (setNext a sl.toNat i ep) Q E s) ∨
      (∃ (T : Addr) (vs : Array Value) (o : Obj) (j : Nat), f = .ref T ∧ s.heap.get? T = some o ∧ o.data = .seq vs j ∧ vs[i]? = none))
    (k : ∀ h', Heap.ExtBut I s.heap h' → Q none { s with heap := h' }) : wpAny (MM w) A (pyNext (.ref I)) Q E s := by
  have hT : s.TypeIs (.ref I) "set_iterator" := ⟨_, ho, rfl⟩
  have raises : ∀ (h1 : Heap), Heap.SameBut I s.heap h1 → wpAny (MM w) A.in1 (do raiseNew (← newExc (.type "StopIteration") []) : Sem Fin) (fun fin s' => ∃ v, fin = Fin.done (Flow.ret v) ∧ wpAny (MM w) A (pure (some v)) Q E s')
      (fun e s' => wpAny (MM w) A (do let __do_lift ← isInstance e (Value.type "StopIteration"); if __do_lift = true then pure none else throw e) Q E s') { s with heap := h1 } := by
    intro h1 k1
    refine wpAny_bind ?_
    simp only [newExc, newTuple]
    refine wpAny_bind (wpAny_newObj_type ?_ (by size_fits))
    refine wpAny_bind (m := firstArgMember _ _) (wpAny_of_eq (a := Value.none) (by first | rfl | (simp only [firstArgMember]; rfl)) ?_)
    refine wpAny_newObj_type ?_ (by size_fits)
    simp only [raiseNew]
    refine wpAny_bind (wpAny_handled ?_)
    rw [show A.in1.handled = none from hA]
    refine wpAny_bind (wpAny_pure (wpAny_throw ?_))
    refine wpAny_bind (wpAny_isInstance (T := "StopIteration") (b := true) ⟨_, Heap.get?_push_size _ rfl, rfl⟩ isSubtype_stop ?_)
    exact wpAny_pure (k _ ((k1.extBut.push _).push _))
  unfold pyNext
  refine wpAny_bind (wpAny_attempt (wpAny_callSpecial?_slot (name := Str.ofString "__next__") hT slot_setiter_next (wpAny_call_entry slot_setiter_next hT entry_setiter_next ?_ (args_setiter_next _))))
  unfold Builtin.«set_iterator.__next__»
  refine wpAny_bind (wpAny_pure ?_)
  refine wpAny_bind (wpAny_fieldsOf ho rfl ?_)
  dsimp only
  refine wpAny_bind (wpAny_setEntries_of ha hd hf ?_)
  rw [hm]
  refine wpAny_ite' (fun e => absurd e (by simp)) fun _ => ?_
  rcases h with ⟨sl, u, rfl, h⟩ | ⟨T, vs, o, j, rfl, hTo, hTd, hp⟩
  · dsimp only
    refine wpAny_bind (h ?_)
    dsimp only
    exact wpAny_bind (wpAny_setField_rec ho (by simp) fun h1 g1 k1 => raises h1 k1)
  · dsimp only
    refine wpAny_bind (wpAny_seqItems hTo hTd ?_)
    dsimp only
    rw [Int.toNat_natCast, hp]
    dsimp only
    refine wpAny_bind (wpAny_setField_rec ho (by simp) fun h1 g1 k1 => ?_)
    exact wpAny_bind (wpAny_setField_rec (s := { s with heap := h1 }) g1 (by simp) fun h2 g2 k2 => raises h2 (k1.trans k2))
end
end
/-! ### Z7 -/
section
section
variable {w : World} {A : Around} {E : Value → Shared → Prop} {s₀ s : Shared} {led led' : Led} {gs : GL} {env : Env} {n : Nat}
theorem keys_of {es : List (Int × Value)} {zs : List Value} {S : Int → Bool} (h1 : ∀ e ∈ es, ∃ k u, e = (hashInt k, .int k u)) (h2 : (es.map fun e => keyV e.2).Nodup) (h3 : ∀ k, S k = true ↔ k ∈ es.map fun e => keyV e.2) (hp : zs.Perm (es.map (·.2))) :
    Paired isI (zs.map keyV) zs ∧ (zs.map keyV).Nodup ∧ ∀ k, S k = true ↔ k ∈ zs.map keyV := by
  have hp2 : (zs.map keyV).Perm (es.map fun e => keyV e.2) := by
    have := hp.map keyV
    rwa [List.map_map] at this
  refine ⟨?_, hp2.nodup_iff.mpr h2, fun k => (h3 k).trans hp2.mem_iff.symm⟩
  have hz : ∀ z ∈ zs, ∃ k u, z = .int k u := fun z hz => by
    obtain ⟨e, he, rfl⟩ := List.mem_map.mp (hp.mem_iff.mp hz)
    obtain ⟨k, u, rfl⟩ := h1 e he
    exact ⟨k, u, rfl⟩
  clear hp hp2
  induction zs with
  | nil => exact .nil
  | cons z r ih =>
    obtain ⟨k, u, rfl⟩ := hz z List.mem_cons_self
    exact .cons ⟨u, rfl⟩ (ih fun y hy => hz y (List.mem_cons_of_mem _ hy))
theorem sn_text {a : Addr} {oa : Obj} {es : Array (Int × Value)} {t : SetTable} {ep sl i : Nat} {Q : Option (Value × Nat) → Shared → Prop} (hB : w.params.followText "set-order" = true) (ha : s.heap.get? a = some oa) (hd : oa.data = .set es ep t) (hf : t.fits es.size = true)
    (k : Q (((pickOrder (w.params.setOrder a ep) es)[i]?).map fun e => (e.2, sl)) s) : wpAny (MM w) A (setNext a sl i ep) Q E s := by
  unfold setNext setWalk setsByText
  refine wpAny_bind (wpAny_setState_of ha hd hf ?_)
  dsimp only
  refine wpAny_bind (wpAny_bind (wpAny_askSetting (wpAny_pure ?_)))
  refine wpAny_ite' (fun _ => ?_) fun e => absurd hB e
  refine wpAny_ite' (fun e => absurd e (by simp)) fun _ => ?_
  refine wpAny_bind (wpAny_bind (wpAny_setState_of ha hd hf ?_))
  dsimp only
  refine wpAny_bind (wpAny_bind (wpAny_askSetting (wpAny_pure ?_)))
  refine wpAny_ite' (fun _ => ?_) fun e => absurd hB e
  exact wpAny_bind (wpAny_askSetting (wpAny_pure (wpAny_pure k)))
theorem sn_place {a : Addr} {oa : Obj} {es : Array (Int × Value)} {t : SetTable} {ep sl i : Nat} {Q : Option (Value × Nat) → Shared → Prop} (hB : w.params.followText "set-order" = false) (ha : s.heap.get? a = some oa) (hd : oa.data = .set es ep t) (hf : t.fits es.size = true)
    (hl : t.led = true) (hdr : (!t.plain && decide (es.size > 1)) = false)
    (k : Q (match es[SetTable.below t.place sl]?, t.place[SetTable.below t.place sl]? with | some (_, x), some j => some (x, j + 1) | _, _ => none) s) : wpAny (MM w) A (setNext a sl i ep) Q E s := by
  unfold setNext setsByText
  refine wpAny_bind (wpAny_setState_of ha hd hf ?_)
  dsimp only
  refine wpAny_bind (wpAny_bind (wpAny_askSetting (wpAny_pure ?_)))
  refine wpAny_ite' (fun e => by rw [show w.params.followText "set-order" = true from e] at hB; cases hB) fun _ => ?_
  refine wpAny_ite' (fun e => by rw [show (!t.plain && decide (es.size > 1)) = true from e] at hdr; cases hdr) fun _ => ?_
  refine wpAny_bind (?_ : wpAny (MM w) A (if (!t.led && !es.isEmpty) = true then unsupported "set:maker-not-led" else pure ()) _ E s)
  rw [hl]
  exact wpAny_pure (wpAny_pure k)
theorem mk_siter {S : Int → Bool} {a : Addr} {Q : Value → Shared → Prop} (hA : AOk A n) (H : Inn s₀ ((a, setC (wb w) S) :: led) gs s) (hb : ∀ k, S k = true → 0 ≤ k ∧ k < 3000)
    (k : ∀ I zs ks rows s', SRun w A s₀ gs I zs rows [(a, setC (wb w) S)] → Paired isI ks zs → (∀ j, S j = true ↔ j ∈ ks) → ks.length ≤ 3000 → Inn s₀ (rows 0 ++ led) gs s' → Q (.ref I) s') : wpAny (MM w) A (pyIter (.ref a)) Q E s := by
  obtain ⟨o, ho, hex, es, ep, t, hd, h1, h2, h3, h4, h5⟩ := H.has (a := a) List.mem_cons_self
  have hsm := set_small h2 h3 hb
  have hT : s.TypeIs (.ref a) "set" := ⟨o, ho, hex.1⟩
  have H0 : Inn s₀ ((a, eqC o) :: led) gs s := H.upd .head (fun b o _ e => e) ⟨o, ho, rfl⟩
  have back : ∀ {led : Led} {s : Shared}, Inn s₀ ((a, eqC o) :: led) gs s → Inn s₀ ([(a, setC (wb w) S)] ++ led) gs s := fun {led s} H => by
    have hg := (H.has (a := a) (c := eqC o) List.mem_cons_self).eq
    exact H.upd .head (fun b o _ e => e) ⟨o, hg, hex, es, ep, t, hd, h1, h2, h3, h4, h5⟩
  have hkl : ∀ zs : List Value, zs.Perm (es.toList.map (·.2)) → (zs.map keyV).length ≤ 3000 := fun zs hp => by rw [List.length_map, hp.length_eq, List.length_map, Array.length_toList]; exact hsm
  refine wpAny_pyIter_slot hT F.slot_set_iter (wpAny_call_entry F.slot_set_iter hT entry_set_iter ?_ (F.args_set_iter_1 _))
  unfold Builtin.«frozenset.__iter__» Builtin.Frozenset.slot0
  refine wpAny_bind (wpAny_bind (wpAny_pure (wpAny_pure ?_)))
  unfold Builtin.Frozenset.sizeOf
  refine wpAny_bind (wpAny_bind (wpAny_setEntries_of ho hd h4 (wpAny_pure ?_)))
  unfold setDrawn setsByText
  refine wpAny_bind (wpAny_bind (wpAny_setState_of ho hd h4 ?_))
  dsimp only
  refine wpAny_bind (wpAny_bind (wpAny_askSetting (wpAny_pure ?_)))
  refine wpAny_pure ?_
  refine (?_ : wpAny (MM w) A.in1 (if (!w.params.followText "set-order" && (!t.plain && decide (es.size > 1))) = true then _ else _) _ E s)
  have fin : ∀ (f : Value) (s' : Shared) (led' : Led), Inn s₀ led' gs s' → s'.heap.get? a = some o → (∀ I s'', Inn s₀ ((I, eqC (stO f 0 a es.size ep)) :: led') gs s'' → Q (.ref I) s'') →
      wpAny (MM w) A.in1 (do let e ← setEpoch a; let r ← newFields "set_iterator" [f, rawInt 0, Value.ref a, rawInt es.size, rawInt e]; ret r)
        (fun fin s' => ∃ v, fin = Fin.done (Flow.ret v) ∧ ∃ T' r, s'.TypeIs v T' ∧ typeLookup (.type T') "__next__" = pure (some r) ∧ Q v s') E s' := by
    intro f s' led' H' ha kk
    refine wpAny_bind (wpAny_setEpoch_of ha hd h4 ?_)
    refine wpAny_bind (wpAny_newObj_type (wpAny_pure ⟨_, rfl, "set_iterator", _, ⟨_, Heap.get?_push_size _ rfl, rfl⟩, slot_setiter_next.lookup, kk _ _ (H'.push (o := stO f 0 a es.size ep) (c := eqC (stO f 0 a es.size ep)) rfl s'.toks)⟩))
  refine wpAny_ite' (fun hc => ?_) fun hc => ?_
  · rw [Bool.and_eq_true, Bool.and_eq_true] at hc
    refine wpAny_bind (wpAny_drawOrder _ _ (by simp) fun ys d hp => ?_)
    have H1 : Inn s₀ ((a, eqC o) :: led) gs { s with drawn := d } := H0.keeps fun _ _ e => e
    have hyl : ys.length = es.size := by rw [hp.length_eq, List.length_range]
    refine wpAny_bind (n_tuple H1 (fun T s H => ?_) (by rw [List.length_map, hyl]; exact Nat.le_trans hsm (by decide)))
    have ha := (H.has (a := a) (c := eqC o) (List.mem_cons_of_mem _ List.mem_cons_self)).eq
    have hval : ∀ i p, ys[i]? = some p → ∃ v, Option.map (fun e : Int × Value => e.2) (es[p]?) = some v ∧ (ys.map fun (p : Nat) => ((es[p]?).map (fun e => e.2)).getD Value.none)[i]? = some v := fun i p hi => by
      have hpl : p < es.size := List.mem_range.mp (hp.mem_iff.mp (List.mem_of_getElem? hi))
      refine ⟨es[p].2, by rw [Array.getElem?_eq_getElem hpl]; rfl, ?_⟩
      rw [List.getElem?_map, hi]
      show some (((es[p]?).map (fun e => e.2)).getD Value.none) = _
      rw [Array.getElem?_eq_getElem hpl]; rfl
    have hperm : (ys.map fun (p : Nat) => ((es[p]?).map (fun e => e.2)).getD Value.none).Perm (es.toList.map (·.2)) := by
      refine (hp.map _).trans ?_
      rw [← filterMap_getElem?_range, List.map_filterMap]
      refine List.Perm.of_eq ?_
      have key : ∀ l : List Nat, (∀ p ∈ l, p < es.size) → l.map (fun (p : Nat) => ((es[p]?).map (fun e => e.2)).getD Value.none) = l.filterMap fun (p : Nat) => (es[p]?).map (fun e => e.2) := by
        intro l
        induction l with
        | nil => intro _; rfl
        | cons p r ih =>
          intro hl
          have hpl := hl p List.mem_cons_self
          rw [List.map_cons, List.filterMap_cons, ih fun q hq => hl q (List.mem_cons_of_mem _ hq), Array.getElem?_eq_getElem hpl]
          rfl
      exact key _ fun p hp => List.mem_range.mp hp
    obtain ⟨q1, q2, q3⟩ := keys_of h1 h2 h3 hperm
    refine fin _ s _ H ha fun I s H => k I _ _ (fun i => [(I, eqC (stO (.ref T) i a es.size ep)), (T, tupC (ys.map fun i : Nat => rawInt i)), (a, eqC o)]) s ⟨?_, ?_, ?_⟩ q1 q3 (hkl _ hperm) H
    · intro i led s Q E v hv H kk
      have hi : i < ys.length := by
        have := (List.getElem?_eq_some_iff.mp hv).1
        rwa [List.length_map] at this
      obtain ⟨oT, hoT, _, j, hdT⟩ := H.has (a := T) (c := tupC (ys.map fun i : Nat => rawInt i)) (by simp)
      obtain ⟨v', e1, e2⟩ := hval i ys[i] (List.getElem?_eq_getElem hi)
      rw [hv] at e2
      injection e2 with e2
      subst e2
      refine next_some (f' := .ref T) (H.has (a := I) (c := eqC (stO (.ref T) i a es.size ep)) (by simp)).eq (H.has (a := a) (c := eqC o) (by simp)).eq hd h4 rfl (.inr ⟨rfl, T, _, ys[i], 0, oT, j, rfl, hoT, hdT, ?_, e1⟩) (fun h' g k1 => kk _ (H.upd .head (fun b o hb e => k1.extBut b o hb e) ⟨_, g, rfl⟩))
      simp [rawInt, hi]
    · intro led s Q E H kk
      obtain ⟨oT, hoT, _, j, hdT⟩ := H.has (a := T) (c := tupC (ys.map fun i : Nat => rawInt i)) (by simp)
      refine next_none hA.h (H.has (a := I) (c := eqC (stO (.ref T) _ a es.size ep)) (List.mem_cons_self)).eq (H.has (a := a) (c := eqC o) (by simp)).eq hd h4 rfl (.inr ⟨T, _, oT, j, rfl, hoT, hdT, ?_⟩) (fun h' k1 => kk _ ?_)
      · simp
      · have H2 : Inn s₀ ((T, tupC (ys.map fun i : Nat => rawInt i)) :: (a, eqC o) :: led) gs { s with heap := h' } := H.drop .head fun b o hb e => k1 b o hb e
        exact back (H2.pick (.skip .all))
    · intro i led s Q E H kk
      exact self_set (H.has (a := I) (c := eqC (stO (.ref T) i a es.size ep)) (by simp)).eq rfl kk
  · rw [Bool.not_eq_true] at hc
    refine wpAny_bind (wpAny_pure ?_)
    cases hB : w.params.followText "set-order"
    · rw [hB] at hc
      have hdr : (!t.plain && decide (es.size > 1)) = false := by simpa using hc
      have hl : t.led = true := by rw [h5.led]; simp [wb, hB]
      have hps : t.place.size = es.size := by
        have := h4
        simp only [SetTable.fits, Bool.and_eq_true, beq_iff_eq] at this
        exact this.1
      obtain ⟨q1, q2, q3⟩ := keys_of (zs := es.toList.map (·.2)) h1 h2 h3 (.refl _)
      refine fin _ s _ H0 ho fun I s H => k I _ _ (fun i => [(I, eqC (stO (.int ((if i = 0 then 0 else t.place.getD (i - 1) 0 + 1 : Nat) : Int) 0) i a es.size ep)), (a, eqC o)]) s ⟨?_, ?_, ?_⟩ q1 q3 (hkl _ (.refl _)) H
      · intro i led s Q E v hv H kk
        have hi : i < es.size := by
          have := (List.getElem?_eq_some_iff.mp hv).1
          rwa [List.length_map, Array.length_toList] at this
        have ha := (H.has (a := a) (c := eqC o) (by simp)).eq
        have hbl : SetTable.below t.place (if i = 0 then 0 else t.place.getD (i - 1) 0 + 1) = i := by
          split
          · rename_i h0; rw [h0]; exact below_zero h5.rise
          · rename_i h0; rw [below_at h5.rise (by rw [hps]; exact Nat.lt_of_le_of_lt (Nat.sub_le i 1) hi)]; exact Nat.sub_add_cancel (Nat.pos_of_ne_zero h0)
        refine next_some (f' := .int ((if i + 1 = 0 then 0 else t.place.getD (i + 1 - 1) 0 + 1 : Nat) : Int) 0) (H.has (a := I) (c := eqC _) (List.mem_cons_self)).eq ha hd h4 rfl (.inl ⟨_, _, _, rfl, rfl, fun {E Q} q => ?_⟩) (fun h' g k1 => kk _ (H.upd .head (fun b o hb e => k1.extBut b o hb e) ⟨_, g, rfl⟩))
        refine sn_place hB ha hd h4 hl hdr ?_
        rw [Int.toNat_natCast, hbl, Array.getElem?_eq_getElem hi, Array.getElem?_eq_getElem (show i < t.place.size by rw [hps]; exact hi)]
        have hv2 : es[i].2 = v := by
          rw [List.getElem?_map, Array.getElem?_toList, Array.getElem?_eq_getElem hi] at hv
          injection hv
        rw [if_neg (Nat.succ_ne_zero i), Nat.add_sub_cancel] at q
        have e : t.place.getD i 0 = t.place[i]'(by rw [hps]; exact hi) := by simp [Array.getD, show i < t.place.size by rw [hps]; exact hi]
        rw [e, ← hv2] at q
        exact q
      · intro led s Q E H kk
        have hz : (es.toList.map (·.2)).length = es.size := by rw [List.length_map, Array.length_toList]
        rw [hz] at H
        have ha := (H.has (a := a) (c := eqC o) (by simp)).eq
        have hbl : SetTable.below t.place (if es.size = 0 then 0 else t.place.getD (es.size - 1) 0 + 1) = es.size := by
          split
          · rename_i h0; rw [h0]; exact below_zero h5.rise
          · rename_i h0; rw [below_at h5.rise (by rw [hps]; exact Nat.sub_lt (Nat.pos_of_ne_zero h0) Nat.one_pos)]; exact Nat.sub_add_cancel (Nat.pos_of_ne_zero h0)
        refine next_none hA.h (H.has (a := I) (c := eqC _) (List.mem_cons_self)).eq ha hd h4 rfl (.inl ⟨_, _, rfl, fun {E Q} q => ?_⟩) (fun h' k1 => kk _ ?_)
        · refine sn_place hB ha hd h4 hl hdr ?_
          rw [Int.toNat_natCast, hbl, Array.getElem?_eq_none (Nat.le_refl _)]
          exact q
        · have H2 : Inn s₀ ((a, eqC o) :: led) gs { s with heap := h' } := H.drop .head fun b o hb e => k1 b o hb e
          exact back H2
      · intro i led s Q E H kk
        exact self_set (H.has (a := I) (c := eqC _) (List.mem_cons_self)).eq rfl kk
    · have hpp := pickOrder_perm (w.params.setOrder a ep) es
      have hpl : (pickOrder (w.params.setOrder a ep) es).size = es.size := by rw [← Array.length_toList, hpp.length_eq, Array.length_toList]
      have hperm : ((pickOrder (w.params.setOrder a ep) es).toList.map (·.2)).Perm (es.toList.map (·.2)) := hpp.map _
      obtain ⟨q1, q2, q3⟩ := keys_of h1 h2 h3 hperm
      refine fin _ s _ H0 ho fun I s H => k I _ _ (fun i => [(I, eqC (stO (.int ((0 : Nat) : Int) 0) i a es.size ep)), (a, eqC o)]) s ⟨?_, ?_, ?_⟩ q1 q3 (hkl _ hperm) H
      · intro i led s Q E v hv H kk
        have ha := (H.has (a := a) (c := eqC o) (by simp)).eq
        refine next_some (f' := .int ((0 : Nat) : Int) 0) (H.has (a := I) (c := eqC _) (List.mem_cons_self)).eq ha hd h4 rfl (.inl ⟨_, _, _, rfl, rfl, fun {E Q} q => ?_⟩) (fun h' g k1 => kk _ (H.upd .head (fun b o hb e => k1.extBut b o hb e) ⟨_, g, rfl⟩))
        refine sn_text hB ha hd h4 ?_
        rw [List.getElem?_map, Array.getElem?_toList] at hv
        cases he : (pickOrder (w.params.setOrder a ep) es)[i]? with
        | none => rw [he] at hv; cases hv
        | some e => rw [he] at hv; injection hv with hv; rw [← hv] at q; exact q
      · intro led s Q E H kk
        have hz : ((pickOrder (w.params.setOrder a ep) es).toList.map (·.2)).length = es.size := by rw [List.length_map, Array.length_toList, hpl]
        rw [hz] at H
        have ha := (H.has (a := a) (c := eqC o) (by simp)).eq
        refine next_none hA.h (H.has (a := I) (c := eqC _) (List.mem_cons_self)).eq ha hd h4 rfl (.inl ⟨_, _, rfl, fun {E Q} q => ?_⟩) (fun h' k1 => kk _ ?_)
        · refine sn_text hB ha hd h4 ?_
          rw [Array.getElem?_eq_none (Nat.le_of_eq hpl)]
          exact q
        · have H2 : Inn s₀ ((a, eqC o) :: led) gs { s with heap := h' } := H.drop .head fun b o hb e => k1 b o hb e
          exact back H2
      · intro i led s Q E H kk
        exact self_set (H.has (a := I) (c := eqC _) (List.mem_cons_self)).eq rfl kk
end
end
/-! ### L8 -/
section
section
variable {w : World} {A : Around} {E : Value → Shared → Prop} {s₀ s : Shared} {led led' : Led} {gs : GL} {env : Env} {n : Nat} {t u : Tok} {mg mb : Str → Option Value}
theorem sc_go {led₀ : Led} {gs₀ : GL} {elt target iter : Expr} {ifs : List Expr} {rest : List Comprehension} {scope : Scope} {pos : Pos} {cl : List (Str × Addr)} {Q : Value → Shared → Prop} (H₀ : Inn s₀ led₀ gs₀ s)
    (k : wpAny (MM w) A (eval iter env) (fun x s₁ => wpAny (MM w) A (pyIter x) (fun it s₂ => ∃ led gs, Inn s₀ led gs s₂ ∧ ∀ D C s₃, Inn s₀ ((C, nsC []) :: (D, setC (wb w) fun _ => false) :: led) gs s₃ →
        codeAny (MM w) A (.compStart (.SetComp elt (⟨target, iter, ifs, 0⟩ :: rest) scope pos) 0 it (.ref D) (compEnvC scope cl C env)) (compPost (MM w) A E none Q (.ref D) C) s₃) E s₁) E s)
    (hclos : Clos env scope.names [] cl) (hs : ∀ x, foldedSetIterable iter env x = pure x) (hkind : scope.kind = .function) (hnames : ∀ y ∈ scope.names, y.2 = .local → scope.names.lookup y.1 = some .local) (hc : ∀ x ∈ scope.names, x.2 ≠ .cell) :
    wpAny (MM w) A (eval (.SetComp elt (⟨target, iter, ifs, 0⟩ :: rest) scope pos) env) Q E s := by
  rw [arm_eval_SetComp]
  refine wpAny_comprehension_free (use := none) rfl hs (clos_pure hclos) hkind hnames ?_
  refine wpAny_mono k (fun x s₁ h₁ => wpAny_mono h₁ (fun it s₂ h₂ => ?_) fun _ _ f => f) fun _ _ f => f
  obtain ⟨led, gs, H, h⟩ := h₂
  exact c_newset H (fun D s₃ H => nf_comp H (fun C s₄ H => h D C s₄ H) hc hkind)
end
noncomputable def ones : Nat → List Int
  | 0 => [0]
  | 1 => [1, 16, 256]
  | 2 => [17, 257, 272]
  | 3 => [273]
  | _ => []
noncomputable def mixL (sizes : List Nat) : List Int := sizes.foldl (fun ms z => ms.flatMap fun m => (ones z).map (m + ·)) [0]
noncomputable def memS (l : List Int) : Int → Bool := fun k => decide (k ∈ l)
theorem setC_eq {b : Bool} {S S' : Int → Bool} (h : ∀ k, S k = S' k) : setC b S = setC b S' := by rw [funext h]
noncomputable def st11 : Stmt := pickSt (k := 11) _ rfl
noncomputable def st12 : Stmt := pickSt (k := 12) _ rfl
theorem ones_all : ∀ z, z < 4 → ∀ o ∈ ones z, 0 ≤ o ∧ o ≤ 273 := by decide
theorem upto3 (z : Nat) (h : z ≤ 3) : z = 0 ∨ z = 1 ∨ z = 2 ∨ z = 3 := (by decide : ∀ z, z < 4 → z = 0 ∨ z = 1 ∨ z = 2 ∨ z = 3) z (Nat.lt_succ_of_le h)
theorem ones_bound {z : Nat} {o : Int} (h : o ∈ ones z) : 0 ≤ o ∧ o ≤ 273 := by
  rcases Nat.lt_or_ge z 4 with hz | hz
  · exact ones_all z hz o h
  · obtain ⟨q, rfl⟩ := Nat.exists_eq_add_of_le' hz
    simp [ones] at h
theorem mix_bound' : ∀ (sizes : List Nat) (ms : List Int) (B : Int), (∀ k ∈ ms, 0 ≤ k ∧ k ≤ B) → ∀ k ∈ sizes.foldl (fun ms z => ms.flatMap fun m => (ones z).map (m + ·)) ms, 0 ≤ k ∧ k ≤ B + 273 * sizes.length
  | [], ms, B, h, k, hk => ⟨(h k hk).1, Int.le_trans (h k hk).2 (by simp)⟩
  | z :: r, ms, B, h, k, hk => by
    have := mix_bound' r (ms.flatMap fun m => (ones z).map (m + ·)) (B + 273) (fun k hk => by
      obtain ⟨m, hm, hk⟩ := List.mem_flatMap.mp hk
      obtain ⟨o, ho, rfl⟩ := List.mem_map.mp hk
      have h1 := h m hm
      have h2 := ones_bound ho
      exact ⟨Int.add_nonneg h1.1 h2.1, Int.add_le_add h1.2 h2.2⟩) k hk
    rw [List.length_cons]; omega
theorem mix_bound (sizes : List Nat) (hn : sizes.length ≤ 6) : ∀ k ∈ mixL sizes, 0 ≤ k ∧ k < 2500 := fun k hk => by
  have := mix_bound' sizes [0] 0 (fun k hk => by rw [List.mem_singleton.mp hk]; omega) k hk
  omega
theorem perm_out {xs rows led : Led} : (xs ++ (rows ++ led)).Perm (rows ++ (xs ++ led)) := by
  rw [← List.append_assoc, ← List.append_assoc]
  exact List.Perm.append_right _ List.perm_append_comm
theorem segH {w : World} {A : Around} {n : Nat} {mg mb : Str → Option Value} {s₀ s : Shared} {led : Led} {gs : GL} {Q : Flow → Shared → Prop} {L cD cC cS cO cL cT cR cH cM cQ ls lc : Addr} {vs : List Value} {sizes : List Nat} {v1 v2 v3 : Option Value} (G : GG w mg mb s₀.heap) (hA : AOk A (n + 8))
    (H : Inn s₀ ((L, nsC [(Str.ofString "sizes", .ref ls), (Str.ofString "counts", .ref lc)]) :: (cS, celC v1) :: (cH, celC v2) :: (cM, celC v3) :: (ls, lstC vs) :: led) gs s)
    (hs : Paired isN sizes vs) (hn : sizes.length ≤ 6) (hz : ∀ z ∈ sizes, z ≤ 3)
    (k : ∀ (m : Addr) (s' : Shared), Inn s₀ ((L, nsC [(Str.ofString "counts", .ref lc)]) :: (cM, celC (some (.ref m))) :: (m, setC (wb w) (memS (mixL sizes))) :: led) gs s' → Q .next s') :
    wpAny (MM w) A (execs [st11, st12] (lenv L cD cC cS cO cL cT cR cH cM cQ)) Q (fun _ _ => False) s := by
  unfold st11 st12 pickSt
  repeat' cell_call
  obtain ⟨oc, vc, hc1, hc2⟩ : ∃ o vs, (hd.heap_1 w.params).lookup 101 = some o ∧ o.data = .fields vs := ⟨_, _, rfl, rfl⟩
  refine e_set1 (c := 101) H rfl ((H.gg G).k _ _ hc1) hc2 rfl (fun M s H => ?_)
  repeat' cell_call
  refine ⟨_, _, rfl, H, fun s H => ?_⟩
  repeat' cell_call
  have hs3 : ∀ j, (fun j : Int => decide (j = 0)) j = memS (mixL (sizes.take 0)) j := fun j => by unfold memS mixL; simp
  rw [setC_eq hs3] at H
  obtain ⟨J, rfl⟩ : ∃ J, J = D := ⟨_, rfl⟩
  refine' for_ix (n := sizes.length) (fun i s => ∃ (v1 : Option Value) (m ch a0 a1 a2 a3 : Addr) (x0 x1 x2 x3 : List Value), Paired isI (ones 0) x0 ∧ Paired isI (ones 1) x1 ∧ Paired isI (ones 2) x2 ∧ Paired isI (ones 3) x3 ∧
    Inn s₀ ((J, liC ls i) :: (L, nsC [(Str.ofString "sizes", .ref ls), (Str.ofString "counts", .ref lc)]) :: (cS, celC v1) :: (cH, celC (some (.ref ch))) :: (cM, celC (some (.ref m))) :: (ch, lstC [.ref a0, .ref a1, .ref a2, .ref a3]) :: (a0, lstC x0) :: (a1, lstC x1) :: (a2, lstC x2) :: (a3, lstC x3) :: (m, setC (wb w) (memS (mixL (sizes.take i)))) :: (ls, lstC vs) :: led) gs s) ?turn ?done ?h0
  case h0 =>
    refine ⟨_, _, _, _, _, _, _, _, _, _, _, ?_, ?_, ?_, ?_, H.pick (by tb_rel)⟩
    · exact .cons ⟨_, rfl⟩ .nil
    · exact .cons ⟨_, rfl⟩ (.cons ⟨_, rfl⟩ (.cons ⟨_, rfl⟩ .nil))
    · exact .cons ⟨_, rfl⟩ (.cons ⟨_, rfl⟩ (.cons ⟨_, rfl⟩ .nil))
    · exact .cons ⟨_, rfl⟩ .nil
  case done =>
    clear H; rintro s ⟨v1, m, ch, a0, a1, a2, a3, x0, x1, x2, x3, p0, p1, p2, p3, H⟩
    refine' nx_list_end (vs := vs) H hA (fun s H => ⟨rfl, ?_⟩) .head ?ur ?ul
    case ur => tb_rel
    case ul => rw [← hs.length]; exact Nat.le_refl _
    repeat' cell_call
    rw [List.take_length] at H
    have H := H.prune (L := L) (l' := [(Str.ofString "counts", .ref lc)]) (by tb_rel) (by tb_rel)
    exact k _ _ (H.pick (by tb_rel))
  case turn =>
    clear H; rintro i0 s hi ⟨v1, m, ch, a0, a1, a2, a3, x0, x1, x2, x3, p0, p1, p2, p3, H⟩
    intro Rq hRq
    obtain ⟨v, hvi, tz, rfl⟩ := paired_get' hs (List.getElem?_eq_getElem hi)
    refine' nx_list (vs := vs) H (fun s H => ?_) .head ?ur hvi
    case ur => tb_rel
    refine go_name ?_
    have hzz := hz sizes[i0] (List.getElem_mem hi)
    have hmix : mixL (sizes.take (i0 + 1)) = (mixL (sizes.take i0)).flatMap fun m => (ones sizes[i0]).map (m + ·) := by
      unfold mixL; rw [List.take_succ_eq_append_getElem hi, List.foldl_append]; rfl
    rw [hmix] at hRq
    have hbd := mix_bound (sizes.take i0) (by rw [List.length_take]; exact Nat.le_trans (Nat.min_le_right ..) hn)
    generalize mixL (sizes.take i0) = ms at *
    generalize sizes[i0] = z at *
    repeat' cell_call
    refine' sc_go H ?uk ?uc (fun x => rfl) rfl (by decide +kernel) (by decide +kernel)
    case uc => tb_start
    repeat' cell_call
    have hb : ∀ k, memS ms k = true → 0 ≤ k ∧ k < 3000 := fun k hk => by
      exact ⟨(hbd k (of_decide_eq_true hk)).1, Int.lt_trans (hbd k (of_decide_eq_true hk)).2 (by decide)⟩
    refine mk_siter (a := m) hA (H.pick (led' := (m, setC (wb w) (memS ms)) :: (L, nsC [(Str.ofString "sizes", .ref ls), (Str.ofString "counts", .ref lc)]) :: (J, liC ls (i0 + 1)) :: (cS, celC (some (.int z tz))) :: (cH, celC (some (.ref ch))) :: (cM, celC (some (.ref m))) :: (ch, lstC [.ref a0, .ref a1, .ref a2, .ref a3]) :: (a0, lstC x0) :: (a1, lstC x1) :: (a2, lstC x2) :: (a3, lstC x3) :: (ls, lstC vs) :: led) (by tb_rel)) hb (fun I zs ks rows s SR hks hmem hkl H => ?_)
    refine ⟨_, _, H, fun D C s H => ?_⟩
    clear hvi
    refine' cs_S rfl (fun Q q => SR.self (i := 0) (H.pick (.skip (.skip .all))) q) (cl_ix2 (n := ks.length) (fun i s => ∃ lc2, Inn s₀ ((C, nsC lc2) :: (D, setC (wb w) (memS ((ks.take i).flatMap fun m => (ones z).map (m + ·)))) :: (L, nsC [(Str.ofString "sizes", .ref ls), (Str.ofString "counts", .ref lc)]) :: (J, liC ls (i0 + 1)) :: (cS, celC (some (.int z tz))) :: (cH, celC (some (.ref ch))) :: (cM, celC (some (.ref m))) :: (ch, lstC [.ref a0, .ref a1, .ref a2, .ref a3]) :: (a0, lstC x0) :: (a1, lstC x1) :: (a2, lstC x2) :: (a3, lstC x3) :: (ls, lstC vs) :: (rows i ++ led)) gs s) (tsh_S2 ..) rfl (Around.under_of_weight rfl) rfl (fun _ => rfl) ?turn ?done ?h0)
    case h0 =>
      refine ⟨[], ?_⟩
      rw [show setC (wb w) (fun _ => false) = setC (wb w) (memS ((ks.take 0).flatMap fun m => (ones z).map (m + ·))) from setC_eq fun k => by unfold memS; simp] at H
      exact H.pick (pick_of (.cons _ (.cons _ (perm_out (xs := [_, _, _, _, _, _, _, _, _, _, _])))))
    case done =>
      clear H; rintro s ⟨lc2, H⟩
      rw [List.take_length, show rows ks.length = rows zs.length from by rw [hks.length]] at H
      refine SR.stop (H.pick (pick_of (perm_out (xs := rows zs.length) (rows := [_, _, _, _, _, _, _, _, _, _, _, _, _])))) (fun s H => ⟨rfl, ?_⟩)
      replace H : Inn s₀ ((m, setC (wb w) (memS ms)) :: (C, nsC lc2) :: (D, setC (wb w) (memS (ks.flatMap fun m => (ones z).map (m + ·)))) :: (L, nsC [(Str.ofString "sizes", .ref ls), (Str.ofString "counts", .ref lc)]) :: (J, liC ls (i0 + 1)) :: (cS, celC (some (.int z tz))) :: (cH, celC (some (.ref ch))) :: (cM, celC (some (.ref m))) :: (ch, lstC [.ref a0, .ref a1, .ref a2, .ref a3]) :: (a0, lstC x0) :: (a1, lstC x1) :: (a2, lstC x2) :: (a3, lstC x3) :: (ls, lstC vs) :: led) gs s := H
      refine cp_none H (fun s H => ?_) (.tail .head)
      repeat' cell_call
      rw [show setC (wb w) (memS (ks.flatMap fun m => (ones z).map (m + ·))) = setC (wb w) (memS (ms.flatMap fun m => (ones z).map (m + ·))) from setC_eq fun j => by
        unfold memS
        rw [decide_eq_decide, List.mem_flatMap, List.mem_flatMap]
        constructor
        · rintro ⟨a, ha, h⟩; exact ⟨a, of_decide_eq_true ((hmem a).mpr ha), h⟩
        · rintro ⟨a, ha, h⟩; exact ⟨a, (hmem a).mp (decide_eq_true ha), h⟩] at H
      exact ⟨_, _, _, _, _, _, _, _, _, _, _, p0, p1, p2, p3, H.pick (by tb_rel)⟩
    case turn =>
      clear H; rintro i s hi ⟨lc2, H⟩
      obtain ⟨v, hv, tmx, rfl⟩ := paired_get' hks (List.getElem?_eq_getElem hi)
      refine SR.next hv (H.pick (pick_of (perm_out (xs := rows i) (rows := [_, _, _, _, _, _, _, _, _, _, _, _, _])))) (fun s H => ?_)
      replace H : Inn s₀ ((C, nsC lc2) :: (D, setC (wb w) (memS ((ks.take i).flatMap fun m => (ones z).map (m + ·)))) :: (L, nsC [(Str.ofString "sizes", .ref ls), (Str.ofString "counts", .ref lc)]) :: (J, liC ls (i0 + 1)) :: (cS, celC (some (.int z tz))) :: (cH, celC (some (.ref ch))) :: (cM, celC (some (.ref m))) :: (ch, lstC [.ref a0, .ref a1, .ref a2, .ref a3]) :: (a0, lstC x0) :: (a1, lstC x1) :: (a2, lstC x2) :: (a3, lstC x3) :: (ls, lstC vs) :: (rows (i + 1) ++ led)) gs s := H.pick (pick_of (perm_out (xs := [_, _, _, _, _, _, _, _, _, _, _, _, _])))
      refine go_name ?_
      have hks' : (ks.take (i + 1)).flatMap (fun m => (ones z).map (m + ·)) = (ks.take i).flatMap (fun m => (ones z).map (m + ·)) ++ (ones z).map (ks[i] + ·) := by
        rw [List.take_succ_eq_append_getElem hi, List.flatMap_append]; simp
      rw [hks']
      have hkb : 0 ≤ ks[i] ∧ ks[i] < 2500 := hbd _ (of_decide_eq_true ((hmem _).mpr (List.getElem_mem hi)))
      have hfb : ∀ k ∈ (ks.take i).flatMap (fun m => (ones z).map (m + ·)), 0 ≤ k ∧ k < 2800 := fun k hk => by
        obtain ⟨m, hm, hk⟩ := List.mem_flatMap.mp hk
        obtain ⟨o, ho, rfl⟩ := List.mem_map.mp hk
        have h1 := hbd _ (of_decide_eq_true ((hmem _).mpr (List.mem_of_mem_take hm)))
        have h2 := ones_bound ho
        exact ⟨Int.add_nonneg h1.1 h2.1, Int.lt_of_lt_of_le (Int.add_lt_add_of_lt_of_le h1.2 h2.2) (by decide)⟩
      generalize (ks.take i).flatMap (fun m => (ones z).map (m + ·)) = fl at H hfb ⊢
      generalize ks[i] = mix at H hkb ⊢
      repeat' cell_call
      refine wpAny_tests_nil ?_
      repeat' cell_call
      obtain ⟨az, xz, haz, hrow, hpz⟩ : ∃ az xz, [Value.ref a0, .ref a1, .ref a2, .ref a3][z]? = some (.ref az) ∧ (∀ p q : Addr × Cell, Row az (lstC xz) (p :: q :: (L, nsC [(Str.ofString "sizes", .ref ls), (Str.ofString "counts", .ref lc)]) :: (J, liC ls (i0 + 1)) :: (cS, celC (some (.int z tz))) :: (cH, celC (some (.ref ch))) :: (cM, celC (some (.ref m))) :: (ch, lstC [.ref a0, .ref a1, .ref a2, .ref a3]) :: (a0, lstC x0) :: (a1, lstC x1) :: (a2, lstC x2) :: (a3, lstC x3) :: (ls, lstC vs) :: (rows (i + 1) ++ led))) ∧ Paired isI (ones z) xz := by
        rcases upto3 z hzz with rfl | rfl | rfl | rfl
        · exact ⟨a0, x0, rfl, fun p q => by tb_rel, p0⟩
        · exact ⟨a1, x1, rfl, fun p q => by tb_rel, p1⟩
        · exact ⟨a2, x2, rfl, fun p q => by tb_rel, p2⟩
        · exact ⟨a3, x3, rfl, fun p q => by tb_rel, p3⟩
      refine' sb_list H ?sbk (r := ?sbr) (h0 := ?sba) (hf := ?sbb) (hx := ?sbc) (hs := ?sbd)
      case sbr => tb_rel
      case sba => exact Int.natCast_nonneg _
      case sbb => exact Int.lt_of_le_of_lt (Int.ofNat_le.mpr hzz) (by decide)
      case sbc => simpa using haz
      case sbd => with_unfolding_all rfl
      refine it_list H (fun I2 s H => ?_) (hrow _ _)
      refine' cs_S' rfl (fun Q q => wpAny_pyIter_listiter (H.has (a := I2) List.mem_cons_self) q) (cl_ix (n := xz.length) (fun j s => ∃ lc2, Inn s₀ ((I2, liC az j) :: (C, nsC ((Str.ofString "mix", .int mix tmx) :: lc2)) :: (D, setC (wb w) (memS (fl ++ ((ones z).take j).map (mix + ·)))) :: (L, nsC [(Str.ofString "sizes", .ref ls), (Str.ofString "counts", .ref lc)]) :: (J, liC ls (i0 + 1)) :: (cS, celC (some (.int z tz))) :: (cH, celC (some (.ref ch))) :: (cM, celC (some (.ref m))) :: (ch, lstC [.ref a0, .ref a1, .ref a2, .ref a3]) :: (a0, lstC x0) :: (a1, lstC x1) :: (a2, lstC x2) :: (a3, lstC x3) :: (ls, lstC vs) :: (rows (i + 1) ++ led)) gs s) (tsh_S2' ..) rfl (Around.under_of_weight rfl) rfl ?inT ?inD ?inZ)
      case inZ =>
        refine ⟨lc2, ?_⟩
        rw [show fl ++ ((ones z).take 0).map (mix + ·) = fl from by simp]
        exact H
      case inD =>
        clear H; rintro s ⟨lc2, H⟩
        refine nx_list_end (w := w) (A := A) H hA (fun s H => ⟨rfl, rfl, ?_⟩) .head (.tail (hrow _ _)) (Nat.le_refl _)
        refine ⟨(Str.ofString "mix", .int mix tmx) :: lc2, ?_⟩
        rw [show (ones z).take xz.length = ones z from List.take_of_length_le (Nat.le_of_eq hpz.length)] at H
        exact H
      case inT =>
        clear H; rintro j s hj ⟨lc2, H⟩
        have hj2 : j < (ones z).length := by rw [hpz.length]; exact hj
        obtain ⟨v, hv, t2, rfl⟩ := paired_get' hpz (List.getElem?_eq_getElem hj2)
        refine nx_list H (fun s H => ?_) .head (.tail (hrow _ _)) hv
        refine go_name ?_
        have hob := ones_bound (List.getElem_mem hj2)
        have htk : (ones z).take (j + 1) = (ones z).take j ++ [(ones z)[j]] := List.take_succ_eq_append_getElem hj2
        have hbl : ∀ k, memS (fl ++ ((ones z).take j).map (mix + ·)) k = true → 0 ≤ k ∧ k < 3000 := fun k hk => by
          rcases List.mem_append.mp (of_decide_eq_true hk) with h | h
          · exact ⟨(hfb k h).1, Int.lt_trans (hfb k h).2 (by decide)⟩
          · obtain ⟨o, ho, rfl⟩ := List.mem_map.mp h
            have := ones_bound (List.mem_of_mem_take ho)
            exact ⟨Int.add_nonneg hkb.1 this.1, Int.lt_of_lt_of_le (Int.add_lt_add_of_lt_of_le hkb.2 this.2) (by decide)⟩
        rw [htk]
        generalize (ones z)[j] = one at H hob ⊢
        repeat' cell_call
        refine wpAny_tests_nil ?_
        repeat' cell_call
        refine wpAny_bind ?_
        repeat' cell_call
        refine wpAny_bind (wpAny_standAt (wpAny_bind ?_))
        refine c_add H (.tail (.tail .head)) hbl (fun s H => wpAny_pure ?_)
        rw [show setC (wb w) (fun j_1 => memS (fl ++ ((ones z).take j).map (mix + ·)) j_1 || decide (j_1 = mix + one)) = setC (wb w) (memS (fl ++ ((ones z).take j ++ [one]).map (mix + ·))) from setC_eq fun k => by
          unfold memS
          rw [Bool.eq_iff_iff, Bool.or_eq_true, decide_eq_true_eq, decide_eq_true_eq, decide_eq_true_eq, List.map_append, ← List.append_assoc]
          simp [or_assoc]] at H
        exact ⟨[], H.prune (L := C) (l' := [(Str.ofString "mix", .int mix tmx)]) (by tb_rel) (by tb_rel)⟩
end
/-! ### L9 -/
section
/-! ### rows of made tuples -/
noncomputable abbrev T3 := Int × Int × Int
noncomputable def t3 (t : T3) : List Int := [t.1, t.2.1, t.2.2]
noncomputable abbrev Made := List (Addr × List Value)
noncomputable def refs (m : Made) : List Value := m.map fun p => Value.ref p.1
noncomputable def tRows (m : Made) : Led := m.map fun p => (p.1, tupC p.2)
noncomputable def lRows (m : Made) : Led := m.map fun p => (p.1, lstC p.2)
noncomputable def isT3 (t : T3) (p : Addr × List Value) : Prop := Paired isI (t3 t) p.2
theorem refs_len (m : Made) : (refs m).length = m.length := by unfold refs; rw [List.length_map]
theorem refs_snoc (m : Made) (T : Addr) (vs : List Value) : refs m ++ [.ref T] = refs (m ++ [(T, vs)]) := by unfold refs; rw [List.map_append]; rfl
theorem tRows_snoc {m : Made} {T : Addr} {vs : List Value} {led : Led} : (tRows (m ++ [(T, vs)]) ++ led).Perm ((T, tupC vs) :: (tRows m ++ led)) := by
  unfold tRows; rw [List.map_append, List.append_assoc]
  exact List.perm_middle
theorem lRows_snoc {m : Made} {T : Addr} {vs : List Value} {led : Led} : (lRows (m ++ [(T, vs)]) ++ led).Perm ((T, lstC vs) :: (lRows m ++ led)) := by
  unfold lRows; rw [List.map_append, List.append_assoc]
  exact List.perm_middle
theorem Inn.snocT {s₀ s : Shared} {gs : GL} {T : Addr} {vs : List Value} {m : Made} {led : Led} {xs : Led} (H : Inn s₀ ((T, tupC vs) :: (xs ++ (tRows m ++ led))) gs s) : Inn s₀ (xs ++ (tRows (m ++ [(T, vs)]) ++ led)) gs s :=
  H.pick (pick_of ((List.Perm.append_left xs tRows_snoc).trans List.perm_middle))
theorem Inn.snocL {s₀ s : Shared} {gs : GL} {T : Addr} {vs : List Value} {m : Made} {led : Led} {xs : Led} (H : Inn s₀ ((T, lstC vs) :: (xs ++ (lRows m ++ led))) gs s) : Inn s₀ (xs ++ (lRows (m ++ [(T, vs)]) ++ led)) gs s :=
  H.pick (pick_of ((List.Perm.append_left xs lRows_snoc).trans List.perm_middle))
noncomputable def totC (N top : Nat) (mid : Nat) : Bool := decide (0 ≤ (N : Int) - top - mid) && decide ((N : Int) - top - mid ≤ mid)
noncomputable def totL (N n : Nat) : List T3 := (List.range n).flatMap fun (top : Nat) => ((List.range (top + 1)).filter (totC N top)).map fun (mid : Nat) => ((top : Int), (mid : Int), (N : Int) - top - mid)
theorem tot_all : ∀ N, N < 9 → ∀ n, n < 10 → (totL N n).length ≤ 9 * n := by decide +kernel
theorem tot_len (N : Nat) : ∀ n, n < N + 1 → N ≤ 8 → (totL N n).length ≤ 9 * n := fun n h hN => tot_all N (Nat.lt_succ_of_le hN) n (Nat.lt_trans (Nat.lt_of_lt_of_le h (Nat.succ_le_succ hN)) (by decide))
noncomputable def st13 : Stmt := pickSt (k := 13) _ rfl
noncomputable def st14 : Stmt := pickSt (k := 14) _ rfl
theorem segI1 {w : World} {A : Around} {n : Nat} {mg mb : Str → Option Value} {s₀ s : Shared} {led : Led} {gs : GL} {Q : Flow → Shared → Prop} {L cD cC cS cO cL cT cR cH cM cQ lc : Addr} {N : Nat} {tl : Tok} (G : GG w mg mb s₀.heap) (hA : AOk A (n + 8))
    (H : Inn s₀ ((L, nsC [(Str.ofString "counts", .ref lc)]) :: (cL, celC (some (.int N tl))) :: led) gs s) (hN : N ≤ 8)
    (k : ∀ (D : Addr) (m : Made) (s' : Shared), Paired isT3 (totL N (N + 1)) m → Inn s₀ ((L, nsC [(Str.ofString "counts", .ref lc), (Str.ofString "totals", .ref D)]) :: (D, lstC (refs m)) :: (tRows m ++ (cL, celC (some (.int N tl))) :: led)) gs s' → Q .next s') :
    wpAny (MM w) A (execs [st13] (lenv L cD cC cS cO cL cT cR cH cM cQ)) Q (fun _ _ => False) s := by
  unfold st13 pickSt
  repeat' cell_call
  rename_i I sx
  obtain ⟨DL, rfl⟩ : ∃ J, J = D := ⟨_, rfl⟩
  refine' cs_L rfl (fun Q q => ?self) (cl_ix2 (n := N + 1) (fun i s => ∃ lc2 m, Paired isT3 (totL N i) m ∧ Inn s₀ ((C, nsC lc2) :: (DL, lstC (refs m)) :: (I, riC i (N + 1)) :: (L, nsC [(Str.ofString "counts", .ref lc)]) :: (cL, celC (some (.int N tl))) :: (tRows m ++ led)) gs s) (tsh_L2 ..) rfl (Around.under_of_weight rfl) rfl (fun _ => rfl) ?turn ?done ?h0)
  case self =>
    obtain ⟨o, ho, rfl⟩ := H.has (a := I) (c := riC 0 (N + 1)) (by simp)
    exact wpAny_pyIter_rangeiter ho q
  case h0 =>
    have H' : Inn s₀ ((C, nsC []) :: (DL, lstC []) :: (I, riC 0 (N + 1)) :: (L, nsC [(Str.ofString "counts", .ref lc)]) :: (cL, celC (some (.int N tl))) :: led) gs s := H.pick (by tb_rel)
    exact ⟨[], [], .nil, H'⟩
  case done =>
    clear H; rintro s ⟨lc2, m, hm, H⟩
    refine nx_range_end H hA (fun s H => ⟨rfl, ?_⟩) (.tail (.tail .head)) (by omega)
    refine cp_some (s₀ := s₀) ?_
    repeat' cell_call
    refine ⟨_, _, _, _, H, by tb_rel, fun s H => ?_⟩
    repeat' cell_call
    exact k _ m _ hm (((H.prune (L := L) (l' := [(Str.ofString "counts", .ref lc), (Str.ofString "totals", .ref DL)]) (by tb_rel) (by tb_rel)).pick (by tb_rel)).pick (pick_of (.trans (.cons _ (.cons _ List.perm_middle)) (.swap _ _ _))))
  case turn =>
    clear H; rintro i s hi ⟨lc2, m, hm, H⟩
    refine nx_range H (fun ttp s H => ?_) (.tail (.tail .head)) (by omega)
    refine go_name ?_
    have hlen : (totL N i).length ≤ 9 * i := tot_len N i hi hN
    have hsucc : totL N (i + 1) = totL N i ++ ((List.range (i + 1)).filter (totC N i)).map fun (mid : Nat) => ((i : Int), (mid : Int), (N : Int) - i - mid) := by
      unfold totL; rw [List.range_succ, List.flatMap_append]; simp only [List.flatMap_cons, List.flatMap_nil, List.append_nil, List.range_succ]
    rw [hsucc]
    generalize totL N i = tt at hm hlen ⊢
    repeat' cell_call
    refine wpAny_tests_nil ?_
    repeat' cell_call
    obtain ⟨I2, rfl⟩ : ∃ J, J = D := ⟨_, rfl⟩
    refine' cs_L' rfl (fun Q q => ?selfI) (cl_ix (n := i + 1) (fun j s => ∃ lc3 m, Paired isT3 (tt ++ ((List.range j).filter (totC N i)).map fun (mid : Nat) => ((i : Int), (mid : Int), (N : Int) - i - mid)) m ∧ Inn s₀ ((C, nsC ((Str.ofString "top", .int i ttp) :: lc3)) :: (DL, lstC (refs m)) :: (I2, riC j (i + 1)) :: (I, riC (i + 1) (N + 1)) :: (L, nsC [(Str.ofString "counts", .ref lc)]) :: (cL, celC (some (.int N tl))) :: (tRows m ++ led)) gs s) (tsh_L2' ..) rfl (Around.under_of_weight rfl) rfl ?inT ?inD ?inZ)
    case selfI =>
      obtain ⟨o, ho, rfl⟩ := H.has (a := I2) (c := riC 0 (i + 1)) (by simp)
      exact wpAny_pyIter_rangeiter ho q
    case inZ =>
      refine ⟨lc2, m, ?_, H.pick (by tb_rel)⟩
      rw [show ((List.range 0).filter (totC N i)) = [] from rfl, List.map_nil, List.append_nil]
      exact hm
    case inD =>
      clear H; rintro s ⟨lc3, m, hm, H⟩
      refine nx_range_end H hA (fun s H => ⟨rfl, rfl, ?_⟩) (.tail (.tail .head)) (by omega)
      exact ⟨_, m, hm, H⟩
    case inT =>
      clear H; rintro j s hj ⟨lc3, m2, hm2, H⟩
      refine nx_range H (fun t s H => ?_) (.tail (.tail .head)) (by omega)
      refine go_name ?_
      repeat' cell_call
      have hrng : (List.range (j + 1)).filter (totC N i) = (List.range j).filter (totC N i) ++ (if totC N i j = true then [j] else []) := by
        rw [List.range_succ, List.filter_append]; cases h : totC N i j <;> simp [h]
      have hll : (tt ++ ((List.range j).filter (totC N i)).map fun (mid : Nat) => ((i : Int), (mid : Int), (N : Int) - i - mid)).length ≤ 200 := by
        have := Nat.le_trans (List.length_filter_le (totC N i) (List.range j)) (Nat.le_of_eq List.length_range)
        rw [List.length_append, List.length_map]; omega
      have hrz : (refs m2).length ≤ sizeLine := by rw [refs_len, ← hm2.length]; exact Nat.le_trans hll (by decide)
      refine isTrue_chain ?_
      repeat' cell_call
      refine test_link ?_
      repeat' cell_call
      refine PyProof.Rows.split_bool (fun hb => ?_) (fun hb => ?_)
      · refine test_last ?_
        repeat' cell_call
        refine PyProof.Rows.split_bool (fun hb2 => ?_) (fun hb2 => ?_)
        · have hc : totC N i j = true := by unfold totC; rw [hb, hb2]; rfl
          rw [hrng, if_pos hc, List.map_append, ← List.append_assoc]
          refine el_app ?_
          repeat' cell_call
          have H := H.prune (L := C) (l' := [(Str.ofString "top", .int i ttp)]) (by tb_rel) (by tb_rel)
          rw [refs_snoc] at H
          have H2 := Inn.snocT (xs := [_, _, _, _, _, _]) H
          refine ⟨[], _, ?_, H2⟩
          exact hm2.snoc (a := ((i : Int), (j : Int), (N : Int) - i - j)) (.cons ⟨_, rfl⟩ (.cons ⟨_, rfl⟩ (.cons ⟨_, rfl⟩ .nil)))
        · have hc : totC N i j = false := by unfold totC; rw [hb, hb2]; rfl
          rw [hrng, if_neg (by rw [hc]; decide), List.append_nil]
          have H := H.prune (L := C) (l' := [(Str.ofString "top", .int i ttp)]) (by tb_rel) (by tb_rel)
          exact ⟨[], m2, hm2, H⟩
      · have hc : totC N i j = false := by unfold totC; rw [hb]; rfl
        rw [if_neg (by decide), hrng, if_neg (by rw [hc]; decide), List.append_nil]
        have H := H.prune (L := C) (l' := [(Str.ofString "top", .int i ttp)]) (by tb_rel) (by tb_rel)
        exact ⟨[], m2, hm2, H⟩
end
/-! ### L10 -/
section
noncomputable def moreL (t : T3) : List T3 := [(t.1, t.2.1, t.2.2 + -1), (t.1, t.2.1, t.2.2 + 1)]
theorem go_li {w : World} {A : Around} {E : Value → Shared → Prop} {s₀ s : Shared} {led : Led} {gs : GL} {elts : List Expr} {x1 : Nat} {pos : Pos} {a l : Addr} {i : Nat} {v : Value} {Q : Unit → Shared → Prop} (H : Inn s₀ led gs s) (k : Q () s) (r : Row a (liC l i) led) : wpAny (MM w) A (letOwnedTupleGo (.Tuple elts x1 pos) (.ref a) v) Q E s := by
  obtain ⟨o, ho, h1, h2⟩ := H.has r.mem
  cases v <;> unfold letOwnedTupleGo <;> first
    | exact wpAny_pure k
    | (refine wpAny_bind (wpAny_load ho ?_)
       rw [h1, h2]
       show wpAny _ A (if (["enumerate", "zip", "dict_itemiterator", "dict_reverseitemiterator", "odict_iterator", "itertools.zip_longest", "itertools.pairwise"].contains "list_iterator" && _) = true then _ else _) Q E s
       rw [if_neg (by
         intro h
         rw [show (["enumerate", "zip", "dict_itemiterator", "dict_reverseitemiterator", "odict_iterator", "itertools.zip_longest", "itertools.pairwise"].contains "list_iterator") = false from by decide, Bool.false_and] at h
         cases h)]
       exact wpAny_pure k)
theorem segI2 {w : World} {A : Around} {n : Nat} {mg mb : Str → Option Value} {s₀ s : Shared} {led : Led} {gs : GL} {Q : Flow → Shared → Prop} {L cD cC cS cO cL cT cR cH cM cQ lc DT : Addr} {m : Made} {t0 : T3} {ts : List T3} (G : GG w mg mb s₀.heap) (hA : AOk A (n + 8))
    (H : Inn s₀ ((L, nsC [(Str.ofString "counts", .ref lc), (Str.ofString "totals", .ref DT)]) :: (DT, lstC (refs m)) :: (tRows m ++ led)) gs s) (hm : Paired isT3 (t0 :: ts) m) (hn : m.length ≤ 100)
    (k : ∀ (D : Addr) (m : Made) (s' : Shared), Paired isT3 ((t0 :: ts) ++ moreL t0) m → Inn s₀ ((L, nsC [(Str.ofString "counts", .ref lc), (Str.ofString "totals", .ref D)]) :: (D, lstC (refs m)) :: (tRows m ++ led)) gs s' → Q .next s') :
    wpAny (MM w) A (execs [st14] (lenv L cD cC cS cO cL cT cR cH cM cQ)) Q (fun _ _ => False) s := by
  cases hm with
  | @cons _ p _ m' hp hm =>
  obtain ⟨pa, pv⟩ := p
  obtain ⟨ta, tb, tc, rfl⟩ : ∃ ta tb tc, pv = [.int t0.1 ta, .int t0.2.1 tb, .int t0.2.2 tc] := by
    cases hp with
    | cons h1 hp => cases hp with
      | cons h2 hp => cases hp with
        | cons h3 hp => cases hp; obtain ⟨_, rfl⟩ := h1; obtain ⟨_, rfl⟩ := h2; obtain ⟨_, rfl⟩ := h3; exact ⟨_, _, _, rfl⟩
  replace H : Inn s₀ ((L, nsC [(Str.ofString "counts", .ref lc), (Str.ofString "totals", .ref DT)]) :: (DT, lstC (.ref pa :: refs m')) :: (pa, tupC [.int t0.1 ta, .int t0.2.1 tb, .int t0.2.2 tc]) :: (tRows m' ++ led)) gs s := H
  unfold st14 pickSt
  repeat' cell_call
  refine' sl_list H (fun Ds s H => ?_) (r := ?slr) .head .none (.int 1 _) .none (by decide) ?slz (by with_unfolding_all rfl)
  case slr => tb_rel
  case slz =>
    show (refs m').length + 1 ≤ sizeLine
    rw [refs_len]
    exact Nat.le_trans (show m'.length + 1 ≤ 100 from hn) (by decide)
  rw [show (slicePick (Value.ref pa :: refs m').toArray none (some 1) none).toList = [.ref pa] from by
    rw [show (some (1 : Int)) = some ((1 : Nat) : Int) from rfl, slicePick_upto']; simp] at H
  repeat' cell_call
  rename_i I sx
  obtain ⟨DL, rfl⟩ : ∃ J, J = D := ⟨_, rfl⟩
  refine' cs_L rfl (fun Q q => wpAny_pyIter_listiter (H.has (a := I) (c := liC Ds 0) (by simp)) q) (cl_ix2 (n := 1) (fun i s => ∃ lc2 m2, Paired isT3 (if i = 0 then [] else moreL t0) m2 ∧ Inn s₀ ((C, nsC lc2) :: (DL, lstC (refs m2)) :: (I, liC Ds i) :: (Ds, lstC [.ref pa]) :: (L, nsC [(Str.ofString "counts", .ref lc), (Str.ofString "totals", .ref DT)]) :: (DT, lstC (.ref pa :: refs m')) :: (pa, tupC [.int t0.1 ta, .int t0.2.1 tb, .int t0.2.2 tc]) :: (tRows m2 ++ (tRows m' ++ led))) gs s) (tsh_L2 ..) rfl (Around.under_of_weight rfl) rfl (fun _ => rfl) ?turn ?done ?h0)
  case h0 =>
    refine ⟨[], [], .nil, ?_⟩
    have H' := H.pick (led' := (C, nsC []) :: (DL, lstC []) :: (I, liC Ds 0) :: (Ds, lstC [.ref pa]) :: (L, nsC [(Str.ofString "counts", .ref lc), (Str.ofString "totals", .ref DT)]) :: (DT, lstC (.ref pa :: refs m')) :: (pa, tupC [.int t0.1 ta, .int t0.2.1 tb, .int t0.2.2 tc]) :: (tRows m' ++ led)) (by tb_rel)
    exact H'
  case done =>
    clear H; rintro s ⟨lc2, m2, hm2, H⟩
    refine nx_list_end H hA (fun s H => ⟨rfl, ?_⟩) (.tail (.tail .head)) (.tail (.tail (.tail .head))) (Nat.le_refl _)
    refine cp_none H (fun s H => ?_) .head
    rw [if_neg (by decide)] at hm2
    refine' l_add (xs := .ref pa :: refs m') (ys := refs m2) H (fun Dn s H => ?_) ?ra ?rb ?hz
    case ra => tb_rel
    case rb => tb_rel
    case hz =>
      rw [refs_len, ← hm2.length]
      show (refs m').length + 1 + 2 ≤ sizeLine
      rw [refs_len]
      exact Nat.le_trans (show m'.length + 1 + 2 ≤ 102 from Nat.add_le_add_right hn 2) (by decide)
    repeat' cell_call
    have hall : Paired isT3 ((t0 :: ts) ++ moreL t0) (((pa, [.int t0.1 ta, .int t0.2.1 tb, .int t0.2.2 tc]) :: m') ++ m2) := paired_app (.cons hp hm) hm2
    refine k Dn _ _ hall ?_
    have H := H.prune (L := L) (l' := [(Str.ofString "counts", .ref lc), (Str.ofString "totals", .ref Dn)]) (by tb_rel) (by tb_rel)
    have H := H.pick (led' := (L, nsC [(Str.ofString "counts", .ref lc), (Str.ofString "totals", .ref Dn)]) :: (Dn, lstC (.ref pa :: refs m' ++ refs m2)) :: (pa, tupC [.int t0.1 ta, .int t0.2.1 tb, .int t0.2.2 tc]) :: (tRows m2 ++ (tRows m' ++ led))) (by tb_rel)
    rw [show Value.ref pa :: refs m' ++ refs m2 = refs (((pa, [.int t0.1 ta, .int t0.2.1 tb, .int t0.2.2 tc]) :: m') ++ m2) from by unfold refs; rw [List.map_append]; rfl] at H
    have hperm : (tRows (((pa, [.int t0.1 ta, .int t0.2.1 tb, .int t0.2.2 tc]) :: m') ++ m2) ++ led).Perm ((pa, tupC [.int t0.1 ta, .int t0.2.1 tb, .int t0.2.2 tc]) :: (tRows m2 ++ (tRows m' ++ led))) := by
      unfold tRows
      rw [List.map_append, List.append_assoc]
      exact List.Perm.cons _ perm_out
    exact H.pick (pick_of (.cons _ (.cons _ hperm)))
  case turn =>
    clear H; rintro i s hi ⟨lc2, m2, hm2, H⟩
    obtain rfl : i = 0 := by omega
    rw [if_pos rfl] at hm2
    refine nx_list (x := .ref pa) H (fun s H => ?_) (.tail (.tail .head)) (.tail (.tail (.tail .head))) rfl
    refine go_li H ?_ (.tail (.tail .head))
    refine' as_tuple (vs := [.int t0.1 ta, .int t0.2.1 tb, .int t0.2.2 tc]) H hA (fun s H => ?_) ?rt rfl rfl
    case rt => tb_rel
    repeat' cell_call
    refine wpAny_tests_nil ?_
    repeat' cell_call
    obtain ⟨I2, rfl⟩ : ∃ J, J = D := ⟨_, rfl⟩
    obtain ⟨Dm, rfl⟩ : ∃ J, J = D := ⟨_, rfl⟩
    obtain ⟨u1, u2, H⟩ : ∃ u1 u2, Inn s₀ ((C, nsC [(Str.ofString "top", .int t0.1 ta), (Str.ofString "mid", .int t0.2.1 tb), (Str.ofString "low", .int t0.2.2 tc)]) :: (DL, lstC (refs m2)) :: (I2, liC Dm 0) :: (Dm, lstC [.int (-1) u1, .int 1 u2]) :: (I, liC Ds (0 + 1)) :: (Ds, lstC [.ref pa]) :: (L, nsC [(Str.ofString "counts", .ref lc), (Str.ofString "totals", .ref DT)]) :: (DT, lstC (.ref pa :: refs m')) :: (pa, tupC [.int t0.1 ta, .int t0.2.1 tb, .int t0.2.2 tc]) :: (tRows m2 ++ (tRows m' ++ led))) gs s := ⟨_, _, (H.prune (L := C) (l' := [(Str.ofString "top", .int t0.1 ta), (Str.ofString "mid", .int t0.2.1 tb), (Str.ofString "low", .int t0.2.2 tc)]) (by tb_rel) (by tb_rel)).pick (by tb_rel)⟩
    refine' cs_L' rfl (fun Q q => wpAny_pyIter_listiter (H.has (a := I2) (c := liC Dm 0) (by simp)) q) (cl_ix (n := 2) (fun j s => ∃ m3, Paired isT3 ((moreL t0).take j) m3 ∧ Inn s₀ ((C, nsC [(Str.ofString "top", .int t0.1 ta), (Str.ofString "mid", .int t0.2.1 tb), (Str.ofString "low", .int t0.2.2 tc)]) :: (DL, lstC (refs m3)) :: (I2, liC Dm j) :: (Dm, lstC [.int (-1) u1, .int 1 u2]) :: (I, liC Ds (0 + 1)) :: (Ds, lstC [.ref pa]) :: (L, nsC [(Str.ofString "counts", .ref lc), (Str.ofString "totals", .ref DT)]) :: (DT, lstC (.ref pa :: refs m')) :: (pa, tupC [.int t0.1 ta, .int t0.2.1 tb, .int t0.2.2 tc]) :: (tRows m3 ++ (tRows m' ++ led))) gs s) (tsh_L2' ..) rfl (Around.under_of_weight rfl) rfl ?inT ?inD ?inZ)
    case inZ => exact ⟨m2, hm2, H⟩
    case inD =>
      clear H; rintro s ⟨m3, hm3, H⟩
      refine nx_list_end H hA (fun s H => ⟨rfl, rfl, ?_⟩) (.tail (.tail .head)) (.tail (.tail (.tail .head))) (Nat.le_refl _)
      exact ⟨_, m3, hm3, H.pick (by tb_rel)⟩
    case inT =>
      clear H; rintro j s hj ⟨m3, hm3, H⟩
      have hrz : (refs m3).length ≤ sizeLine := by
        rw [refs_len, ← hm3.length, List.length_take]; exact Nat.le_trans (Nat.min_le_left ..) (Nat.le_trans (Nat.le_of_lt hj) (by decide))
      rcases (show j = 0 ∨ j = 1 by omega) with rfl | rfl
      · refine nx_list H (fun s H => ?_) (.tail (.tail .head)) (.tail (.tail (.tail .head))) rfl
        refine go_name ?_
        repeat' cell_call
        refine wpAny_tests_nil ?_
        repeat' cell_call
        refine el_app ?_
        repeat' cell_call
        have H := H.prune (L := C) (l' := [(Str.ofString "top", .int t0.1 ta), (Str.ofString "mid", .int t0.2.1 tb), (Str.ofString "low", .int t0.2.2 tc)]) (by tb_rel) (by tb_rel)
        rw [refs_snoc] at H
        have H2 := Inn.snocT (xs := [_, _, _, _, _, _, _, _, _]) H
        refine ⟨_, ?_, H2⟩
        exact hm3.snoc (a := (t0.1, t0.2.1, t0.2.2 + -1)) (.cons ⟨_, rfl⟩ (.cons ⟨_, rfl⟩ (.cons ⟨_, rfl⟩ .nil)))
      · refine nx_list H (fun s H => ?_) (.tail (.tail .head)) (.tail (.tail (.tail .head))) rfl
        refine go_name ?_
        repeat' cell_call
        refine wpAny_tests_nil ?_
        repeat' cell_call
        refine el_app ?_
        repeat' cell_call
        have H := H.prune (L := C) (l' := [(Str.ofString "top", .int t0.1 ta), (Str.ofString "mid", .int t0.2.1 tb), (Str.ofString "low", .int t0.2.2 tc)]) (by tb_rel) (by tb_rel)
        rw [refs_snoc] at H
        have H2 := Inn.snocT (xs := [_, _, _, _, _, _, _, _, _]) H
        refine ⟨_, ?_, H2⟩
        exact hm3.snoc (a := (t0.1, t0.2.1, t0.2.2 + 1)) (.cons ⟨_, rfl⟩ (.cons ⟨_, rfl⟩ (.cons ⟨_, rfl⟩ .nil)))
end
/-! ### L11 -/
section
section
variable {w : World} {A : Around} {E : Value → Shared → Prop} {s₀ s : Shared} {led led' : Led} {gs : GL} {env : Env} {n : Nat} {t u : Tok} {mg mb : Str → Option Value}
/-- the frame of a comprehension that keeps one name in a cell -/
theorem nf_comp1 {scope : Scope} {cl : List (Str × Addr)} {nm : Str} {Q : Env → Shared → Prop} (H : Inn s₀ led gs s) (k : ∀ C c s', Inn s₀ ((C, nsC []) :: (c, celC none) :: led) gs s' → Q (newEnv scope C env.globals ((nm, c) :: cl) env.qual none .none (some env) builtinsNs) s')
    (hc : ∀ a, cellsFrom a scope.names cl = (nm, a) :: cl) (hp : ∀ h : Heap, pushCells h scope.names = h.push { cls := .type "cell", data := .cell none }) : wpAny (MM w) A (newFunctionEnv scope env.globals cl [] env.qual none .none (some env)) Q E s := by
  simp only [newFunctionEnv, Option.isSome_some, if_true]
  refine wpAny_bind (wpAny_alloc ?_)
  refine wpAny_bind (wpAny_layCells _ (fun name kind cells => by cases hkc : kind == NameKind.cell <;> simp [hkc]) _ _ _ _ ?_)
  rw [hp, show ({ s with heap := s.heap.push { cls := .type "dict", data := .dict #[] } } : Shared).heap.objs.size = s.heap.objs.size + 1 from Heap.size_push .., hc]
  refine wpAny_bind (wpAny_pure (wpAny_pure ?_))
  have H1 := H.push (o := { cls := .type "dict", data := .dict #[] }) (c := nsC []) ⟨#[], 0, rfl, fun e he => by simp at he, fun _ _ q => by simp at q⟩ s.toks
  have H2 := H1.push (o := { cls := .type "cell", data := .cell none }) (c := celC none) rfl s.toks
  have hsz : (s.heap.push { cls := .type "dict", data := .dict #[] }).objs.size = s.heap.objs.size + 1 := Heap.size_push ..
  rw [show ({ s with heap := s.heap.push { cls := .type "dict", data := .dict #[] }, toks := s.toks } : Shared).heap.objs.size = s.heap.objs.size + 1 from Heap.size_push ..] at H2
  exact k _ _ _ (H2.pick pick_swap)
theorem lc_use1 {led₀ : Led} {gs₀ : GL} {elt target iter : Expr} {ifs : List Expr} {rest : List Comprehension} {scope : Scope} {pos spos py : Pos} {y nm : Str} {cl : List (Str × Addr)} {Q : Flow → Shared → Prop} (H₀ : Inn s₀ led₀ gs₀ s)
    (k : wpAny (MM w) A (eval iter env) (fun x s₁ => wpAny (MM w) A (pyIter x) (fun it s₂ => ∃ led gs, Inn s₀ led gs s₂ ∧ ∀ D C c s₃, Inn s₀ ((C, nsC []) :: (c, celC none) :: (D, lstC []) :: led) gs s₃ →
        codeAny (MM w) A (.compStart (.ListComp elt (⟨target, iter, ifs, 0⟩ :: rest) scope pos) 0 it (.ref D) (compEnvC scope ((nm, c) :: cl) C env)) (compPost (MM w) A E (some (assign (.Name y py) env)) (fun _ s' => Q .next s') (.ref D) C) s₃) E s₁) E s)
    (hsw : swapsWith (.ListComp elt (⟨target, iter, ifs, 0⟩ :: rest) scope pos) (some (.Name y py)) spos.line env = pure true)
    (hclos : Clos env scope.names [] cl) (hs : ∀ x, foldedSetIterable iter env x = pure x) (hkind : scope.kind = .function) (hnames : ∀ y ∈ scope.names, y.2 = .local → scope.names.lookup y.1 = some .local)
    (hc : ∀ a, cellsFrom a scope.names cl = (nm, a) :: cl) (hp : ∀ h : Heap, pushCells h scope.names = h.push { cls := .type "cell", data := .cell none }) :
    wpAny (MM w) A (exec (.Assign [.Name y py] (.ListComp elt (⟨target, iter, ifs, 0⟩ :: rest) scope pos) spos) env) Q E s := by
  rw [exec_Assign_Name_used _ _ _ _ hsw]
  refine wpAny_bind (wpAny_standAt (wpAny_bind ?_))
  show wpAny _ A (do let _ ← comprehension (.ListComp elt (⟨target, iter, ifs, 0⟩ :: rest) scope pos) scope env _ (newList []) false (eval iter env) (some (assign (.Name y py) env))) _ _ s
  refine wpAny_bind (wpAny_mono (wpAny_comprehension_free (use := some (assign (.Name y py) env)) (Q := fun _ s' => Q .next s') rfl hs (clos_pure hclos) hkind hnames (wpAny_mono k (fun x s₁ h₁ => wpAny_mono h₁ (fun it s₂ h₂ => ?_) fun _ _ f => f) fun _ _ f => f)) (fun _ s' h => wpAny_pure (wpAny_pure h)) fun _ _ f => f)
  obtain ⟨led, gs, H, h⟩ := h₂
  exact n_list H (fun D s₃ H => nf_comp1 H (fun C c s₄ H => h D C c s₄ H) hc hp) (Nat.zero_le _)
end
theorem pick_drop {b : Led} : ∀ {a : Led}, Pick b (a ++ b)
  | [] => .all
  | _ :: _ => .skip pick_drop
theorem pick_app {l r : Led} (h : Pick l r) : ∀ {a : Led}, Pick (a ++ l) (a ++ r)
  | [] => h
  | _ :: _ => .cons .head rfl (pick_app h)
theorem Row.of_mem {a : Addr} {c : Cell} : ∀ {led : Led}, (a, c) ∈ led → Row a c led
  | p :: r, h => by
    rcases List.mem_cons.mp h with e | h
    · rw [← e]; exact .head
    · exact .tail (Row.of_mem h)
theorem mem_tRows {p : Addr × List Value} {m : Made} (h : p ∈ m) : (p.1, tupC p.2) ∈ tRows m := List.mem_map.mpr ⟨p, h, rfl⟩
theorem mem_lRows {p : Addr × List Value} {m : Made} (h : p ∈ m) : (p.1, lstC p.2) ∈ lRows m := List.mem_map.mpr ⟨p, h, rfl⟩
section
variable {w : World} {A : Around} {E : Value → Shared → Prop} {s₀ s : Shared} {led led' : Led} {gs : GL} {env : Env} {n : Nat} {t u : Tok}
variable {scope : Scope} {cl : List (Str × Addr)} {pos : Pos} {elt iter : Expr} {ifs : List Expr} {C D I : Addr} {R : Result → Shared → Prop} {m : Nat}
theorem LF_tup0 {α : Type} {as : List α} {vs : List Value} {l : Addr} {x : Str} {px : Pos} {F : α → Value → Prop} (G : α → Value → Prop) (hF : Paired F as vs) (hA : AOk A m)
    (H : Inn s₀ ((C, nsC []) :: (D, lstC []) :: (I, tiC l 0) :: led) gs s) (r : Row l (tupC vs) led) (hk : (compEnvC scope cl C env).scope.kind = .function) (hx : (compEnvC scope cl C env).kindOf x = some .local) (hn : vs.length ≤ sizeLine)
    (hG : ∀ a v lc i ys s, a ∈ as → F a v → Inn s₀ ((C, nsC ((x, v) :: lc)) :: (I, tiC l i) :: (D, lstC ys) :: led) gs s → wpAny (MM w) A (eval elt (compEnvC scope cl C env)) (fun y s' => G a y ∧ Inn s₀ ((C, nsC ((x, v) :: lc)) :: (I, tiC l i) :: (D, lstC ys) :: led) gs s') (fun _ _ => False) s)
    (k : ∀ lc ys s', Paired G as ys → Inn s₀ ((C, nsC lc) :: (D, lstC ys) :: led) gs s' → R (.ok .next) s') :
    codeAny (MM w) A (.compStart (.ListComp elt [⟨.Name x px, iter, [], 0⟩] scope pos) 0 (.ref I) (.ref D) (compEnvC scope cl C env)) R s := by
  refine LF (fun i => true) (fun i y => ∃ a, as[i]? = some a ∧ G a y) (src_tuple (l := l) (vs := vs) hA rfl hk hx) (fun ys => .tail r) hn (H.pick (.cons .head rfl (.cons (.tail .head) rfl .all)))
    (fun i b lc ys s hi hB H => wpAny_tests_nil ⟨rfl, H⟩) (fun i b lc ys s hi hB hpi H => ?_) (fun lc ys s' hP H => k lc ys s' (by
      have := conv_paired (as := as) (p := fun _ => true) (G := G) (ys := ys) (by
        rw [hF.length]
        refine Eq.mp ?_ hP
        congr 1
        exact List.filter_congr fun i hi => by
          have hil : i < as.length := by rw [hF.length]; exact List.mem_range.mp hi
          rw [List.getElem?_eq_getElem hil]; rfl)
      rwa [List.filter_eq_self.mpr (fun _ _ => rfl)] at this) H)
  obtain ⟨v, hv, rfl⟩ := hB
  obtain ⟨a, ha, hFa⟩ := paired_get hF hv
  exact wpAny_mono (hG a v lc (i + 1) ys s (List.mem_of_getElem? ha) hFa H) (fun y s' h => ⟨⟨a, ha, h.1⟩, h.2⟩) fun _ _ f => f
end
noncomputable def ordL : List T3 := [(0, 1, 2), (0, 2, 1), (1, 0, 2), (1, 2, 0), (2, 0, 1), (2, 1, 0)]
noncomputable def st15 : Stmt := pickSt (k := 15) _ rfl
noncomputable def st16 : Stmt := pickSt (k := 16) _ rfl
theorem segJ1 {w : World} {A : Around} {n : Nat} {mg mb : Str → Option Value} {s₀ s : Shared} {led : Led} {gs : GL} {Q : Flow → Shared → Prop} {L cD cC cS cO cL cT cR cH cM cQ lc DT : Addr} {v1 : Option Value} (G : GG w mg mb s₀.heap) (hA : AOk A (n + 8))
    (H : Inn s₀ ((L, nsC [(Str.ofString "counts", .ref lc), (Str.ofString "totals", .ref DT)]) :: (cQ, celC v1) :: led) gs s)
    (k : ∀ (D : Addr) (m : Made) (s' : Shared), Paired isT3 ordL m → Inn s₀ ((L, nsC [(Str.ofString "counts", .ref lc), (Str.ofString "totals", .ref DT)]) :: (cQ, celC (some (.ref D))) :: (D, lstC (refs m)) :: (tRows m ++ led)) gs s' → Q .next s') :
    wpAny (MM w) A (execs [st15] (lenv L cD cC cS cO cL cT cR cH cM cQ)) Q (fun _ _ => False) s := by
  unfold st15 pickSt
  cell_call
  refine' wpAny_Assign_Name ?_ ?hs
  case hs => rfl
  repeat' cell_call
  have key : ∃ a0 a1 a2 a3 a4 a5 w0 w1 w2 w3 w4 w5, Inn s₀ ((L, nsC [(Str.ofString "counts", .ref lc), (Str.ofString "totals", .ref DT)]) :: (cQ, celC (some (.ref D))) :: (D, lstC [.ref a0, .ref a1, .ref a2, .ref a3, .ref a4, .ref a5]) :: (a0, tupC w0) :: (a1, tupC w1) :: (a2, tupC w2) :: (a3, tupC w3) :: (a4, tupC w4) :: (a5, tupC w5) :: led) gs s ∧
      Paired isI [0, 1, 2] w0 ∧ Paired isI [0, 2, 1] w1 ∧ Paired isI [1, 0, 2] w2 ∧ Paired isI [1, 2, 0] w3 ∧ Paired isI [2, 0, 1] w4 ∧ Paired isI [2, 1, 0] w5 := by
    refine ⟨_, _, _, _, _, _, _, _, _, _, _, _, H.pick (by tb_rel), ?_, ?_, ?_, ?_, ?_, ?_⟩ <;> exact .cons ⟨_, rfl⟩ (.cons ⟨_, rfl⟩ (.cons ⟨_, rfl⟩ .nil))
  obtain ⟨a0, a1, a2, a3, a4, a5, w0, w1, w2, w3, w4, w5, H, p0, p1, p2, p3, p4, p5⟩ := key
  exact k D [(a0, w0), (a1, w1), (a2, w2), (a3, w3), (a4, w4), (a5, w5)] s (.cons p0 (.cons p1 (.cons p2 (.cons p3 (.cons p4 (.cons p5 .nil)))))) H
noncomputable def lightOf (c6 place : Nat) (t : T3) : List Int := (t3 (ordL.getD ((c6 / 6 ^ (place % 6) + place) % 6) (0, 0, 0))).map fun j => (t3 t).getD j.toNat 0
theorem segJ2 {w : World} {A : Around} {n : Nat} {mg mb : Str → Option Value} {s₀ s : Shared} {led : Led} {gs : GL} {Q : Flow → Shared → Prop} {L cD cC cS cO cL cT cR cH cM cQ lc DT DO lcl : Addr} {m mo : Made} {ts : List T3} {vc : List Value} {ns : List Nat} {c6 : Nat} (G : GG w mg mb s₀.heap) (hA : AOk A (n + 8))
    (H : Inn s₀ ((L, nsC [(Str.ofString "counts", .ref lc), (Str.ofString "totals", .ref DT)]) :: (cQ, celC (some (.ref DO))) :: (cC, celC (some (.ref lcl))) :: (lcl, lstC vc) :: (DT, lstC (refs m)) :: (DO, lstC (refs mo)) :: (tRows mo ++ (tRows m ++ led))) gs s)
    (hm : Paired isT3 ts m) (hmo : Paired isT3 ordL mo) (hn : m.length ≤ 100) (hc : Paired isN ns vc) (hc6 : ns[6]? = some c6)
    (k : ∀ (D : Addr) (m : Made) (s' : Shared), Paired (fun (l : List Int) (p : Addr × List Value) => Paired isI l p.2) (ts.mapIdx fun i t => lightOf c6 i t) m → Inn s₀ ((L, nsC [(Str.ofString "counts", .ref lc), (Str.ofString "lights", .ref D)]) :: (cC, celC (some (.ref lcl))) :: (lcl, lstC vc) :: (D, lstC (refs m)) :: (lRows m ++ led)) gs s' → Q .next s') :
    wpAny (MM w) A (execs [st16] (lenv L cD cC cS cO cL cT cR cH cM cQ)) Q (fun _ _ => False) s := by
  unfold st16 pickSt
  cell_call
  refine' lc_use1 H ?uk ?w ?uc (fun x => rfl) rfl (by decide +kernel) (fun _ => rfl) (fun _ => rfl)
  case w => kernel_rfl!
  case uc => tb_start
  repeat' cell_call
  obtain ⟨cc, rfl⟩ : ∃ J, J = s := ⟨_, rfl⟩
  obtain ⟨s9, rfl⟩ : ∃ J, J = H := ⟨_, rfl⟩
  intro H
  obtain ⟨DL, rfl⟩ : ∃ J, J = D := ⟨_, rfl⟩
  obtain ⟨E1, rfl⟩ : ∃ J, J = D := ⟨_, rfl⟩
  have hlm : m.length = ts.length := hm.length.symm
  refine L1_loop (n := ts.length) (fun i s => ∃ lc2 m2 v2, Paired (fun (l : List Int) (p : Addr × List Value) => Paired isI l p.2) ((ts.mapIdx fun i t => lightOf c6 i t).take i) m2 ∧ Inn s₀ ((E1, enC I i) :: (I, liC DT i) :: (C, nsC lc2) :: (cc, celC v2) :: (DL, lstC (refs m2)) :: (L, nsC [(Str.ofString "counts", .ref lc), (Str.ofString "totals", .ref DT)]) :: (cQ, celC (some (.ref DO))) :: (cC, celC (some (.ref lcl))) :: (lcl, lstC vc) :: (DT, lstC (refs m)) :: (DO, lstC (refs mo)) :: (lRows m2 ++ (tRows mo ++ (tRows m ++ led)))) gs s) (fun i s hi hI => ?_) (fun s hI => ?_) ⟨[], [], none, .nil, ?_⟩ (fun Q q => it_enum H q (by tb_rel))
  · clear H; obtain ⟨lc2, m2, v2, hm2, H⟩ := hI
    obtain ⟨p, hp, hpt⟩ := paired_get' hm (List.getElem?_eq_getElem hi)
    have hrf : (refs m)[i]? = some (.ref p.1) := by unfold refs; rw [List.getElem?_map, hp]; rfl
    refine' nx_enum (vs := refs m) (l := DT) H (fun T t s H => ?_) .all ?rw hrf
    case rw => tb_rel
    refine go_enum H (fun s H => ?_) (.tail .head)
    refine as_tuple H hA (fun s H => ?_) .head rfl rfl
    repeat' cell_call
    refine wpAny_tests_nil ?_
    repeat' cell_call
    obtain ⟨v6, hv6, t6, rfl⟩ := paired_get' hc hc6
    refine' sb_list H ?qk (r := ?qr) (h0 := by decide) (hf := by decide) (hx := hv6) (hs := by with_unfolding_all rfl)
    case qr => tb_rel
    repeat' cell_call
    rw [show ((i : Nat) : Int).fmod 6 = ((i % 6 : Nat) : Int) from fmodN i 6]
    refine i_pow H (fun tp s H => ?_) rfl (Nat.le_trans (Nat.le_of_lt (Nat.mod_lt i (by decide))) (by decide))
    refine i_fdivN (b := 6 ^ (i % 6)) H (fun tp s H => ?_) (by rw [Int.natCast_pow]; rfl) (Nat.pow_pos (by decide)) (Nat.lt_of_lt_of_le (Nat.pow_lt_pow_right (by decide) (Nat.mod_lt i (show 0 < 6 by decide))) (by decide))
    repeat' cell_call
    rw [show ((c6 / 6 ^ (i % 6) : Nat) : Int) + (i : Int) = ((c6 / 6 ^ (i % 6) + i : Nat) : Int) from rfl] at *
    rw [show ((c6 / 6 ^ (i % 6) + i : Nat) : Int).fmod 6 = (((c6 / 6 ^ (i % 6) + i) % 6 : Nat) : Int) from fmodN _ 6] at *
    have ho6 : (c6 / 6 ^ (i % 6) + i) % 6 < 6 := Nat.mod_lt _ (by decide)
    have hLO : lightOf c6 i ts[i] = (t3 (ordL.getD ((c6 / 6 ^ (i % 6) + i) % 6) (0, 0, 0))).map fun j => (t3 ts[i]).getD j.toNat 0 := rfl
    generalize (c6 / 6 ^ (i % 6) + i) % 6 = o at ho6 hLO ⊢
    have hol : o < ordL.length := ho6
    obtain ⟨q, hq, hqt⟩ := paired_get' hmo (List.getElem?_eq_getElem hol)
    have hqr : Row q.1 (tupC q.2) (lRows m2 ++ (tRows mo ++ (tRows m ++ led))) := Row.of_mem (List.mem_append_right _ (List.mem_append_left _ (mem_tRows (List.mem_of_getElem? hq))))
    have hpr : Row p.1 (tupC p.2) (lRows m2 ++ (tRows mo ++ (tRows m ++ led))) := Row.of_mem (List.mem_append_right _ (List.mem_append_right _ (List.mem_append_left _ (mem_tRows (List.mem_of_getElem? hp)))))
    have hrq : (refs mo)[((o : Nat) : Int).toNat]? = some (.ref q.1) := by unfold refs; rw [Int.toNat_natCast, List.getElem?_map, hq]; rfl
    refine' sb_list H ?ok1 (r := ?or1) (h0 := Int.natCast_nonneg _) (hf := Int.lt_of_lt_of_le (Int.ofNat_lt.mpr ho6) (by decide)) (hx := hrq) (hs := by with_unfolding_all rfl)
    case or1 => tb_rel
    refine' it_tuple H (fun I2 s H => ?_) ?or2
    case or2 => repeat (first | exact hqr | refine Row.tail ?_)
    refine ⟨_, _, H, fun D2 C2 s H => ?_⟩
    have hot : ordL.getD o (0, 0, 0) = ordL[o] := by rw [List.getD_eq_getElem?_getD, List.getElem?_eq_getElem hol]; rfl
    have hob : ∀ a ∈ t3 ordL[o], 0 ≤ a ∧ a ≤ 2 := by
      have : ∀ t ∈ ordL, ∀ a ∈ t3 t, 0 ≤ a ∧ a ≤ 2 := by decide +kernel
      exact this _ (List.getElem_mem hol)
    refine' LF_tup0 (as := t3 ordL[o]) (vs := q.2) (F := isI) (fun a v => isI ((t3 ts[i]).getD a.toNat 0) v) hqt hA H ?or3 rfl (by kernel_rfl!) ?hz3 (fun a v lc3 i3 ys s ha hf H => ?hG) (fun lc3 ys s hP H => ?hK)
    case or3 => repeat (first | exact hqr | refine Row.tail ?_)
    case hz3 => rw [← hqt.length]; show 3 ≤ sizeLine; decide
    case hG =>
      obtain ⟨ta, rfl⟩ := hf
      have hab := hob a ha
      have ha3 : a.toNat < (t3 ts[i]).length := by show a.toNat < 3; exact (Int.toNat_lt hab.1).mpr (Int.lt_of_le_of_lt hab.2 (by decide))
      obtain ⟨v, hv, tv, rfl⟩ := paired_get' hpt (List.getElem?_eq_getElem ha3)
      repeat' cell_call
      refine' sb_tuple H ?ok4 (r := ?or4) (h0 := hab.1) (h1 := ?oh1) (hf := Int.lt_of_le_of_lt hab.2 (by decide)) (hx := hv) (hs := by with_unfolding_all rfl)
      case or4 => repeat (first | exact hpr | refine Row.tail ?_)
      case oh1 => rw [← hpt.length]; show a < 3; exact Int.lt_of_le_of_lt hab.2 (by decide)
      refine ⟨⟨tv, ?_⟩, H⟩
      rw [List.getD_eq_getElem?_getD, List.getElem?_eq_getElem ha3]; rfl
    case hK =>
      refine cp_none H (fun s H => ?_) .head
      have hrz : (refs m2).length ≤ sizeLine := by
        rw [refs_len, ← hm2.length, List.length_take]; exact Nat.le_trans (Nat.min_le_left ..) (Nat.le_trans (show i ≤ 100 by omega) (by decide))
      repeat' cell_call
      rw [refs_snoc] at H
      have H2 := Inn.snocL (xs := [_, _, _, _, _, _, _, _, _, _, _]) (H.pick (.cons .head rfl (.skip .all)))
      refine ⟨_, _, _, ?_, H2⟩
      have hil : i < (ts.mapIdx fun i t => lightOf c6 i t).length := by rw [List.length_mapIdx]; exact hi
      rw [List.take_succ_eq_append_getElem hil]
      refine hm2.snoc ?_
      rw [List.getElem_mapIdx, hLO, hot]
      exact paired_map (F := isI) (fun a : Int => (t3 ts[i]).getD a.toNat 0) hP
  · clear H; obtain ⟨lc2, m2, v2, hm2, H⟩ := hI
    refine' nx_enum_end (vs := refs m) (l := DT) H hA (fun s H => ⟨rfl, ?_⟩) .all ?oe1 (by rw [refs_len]; omega)
    case oe1 => tb_rel
    refine cp_some (s₀ := s₀) ?_
    repeat' cell_call
    refine ⟨_, _, _, _, H, by tb_rel, fun s H => ?_⟩
    repeat' cell_call
    rw [show (ts.mapIdx fun i t => lightOf c6 i t).take ts.length = ts.mapIdx fun i t => lightOf c6 i t from List.take_of_length_le (by rw [List.length_mapIdx]; exact Nat.le_refl _)] at hm2
    have H := H.prune (L := L) (l' := [(Str.ofString "counts", .ref lc), (Str.ofString "lights", .ref DL)]) (by tb_rel) (by tb_rel)
    have H := H.pick (led' := (L, nsC [(Str.ofString "counts", .ref lc), (Str.ofString "lights", .ref DL)]) :: (cC, celC (some (.ref lcl))) :: (lcl, lstC vc) :: (DL, lstC (refs m2)) :: (lRows m2 ++ (tRows mo ++ (tRows m ++ led)))) (by tb_rel)
    refine k DL m2 s hm2 (H.pick (.cons .head rfl (.cons .head rfl (.cons .head rfl (.cons .head rfl (pick_app ?_))))))
    rw [← List.append_assoc]
    exact pick_drop
  · have H' := H.pick (led' := (E1, enC I 0) :: (I, liC DT 0) :: (C, nsC []) :: (cc, celC none) :: (DL, lstC []) :: (L, nsC [(Str.ofString "counts", .ref lc), (Str.ofString "totals", .ref DT)]) :: (cQ, celC (some (.ref DO))) :: (cC, celC (some (.ref lcl))) :: (lcl, lstC vc) :: (DT, lstC (refs m)) :: (DO, lstC (refs mo)) :: (tRows mo ++ (tRows m ++ led))) (by tb_rel)
    exact H'
end
/-! ### L12 -/
section
noncomputable abbrev isLt (l : List Int) (p : Addr × List Value) : Prop := Paired isI l p.2
noncomputable def codeL (l : List Int) : Int := l.getD 0 0 + 16 * l.getD 1 0 + 256 * l.getD 2 0
theorem zip_refs : ∀ {ls : List (List Int)} {m : Made}, Paired isLt ls m → Paired (fun (x : List Int × (Addr × List Value)) v => v = Value.ref x.2.1) (ls.zip m) (refs m)
  | _, _, .nil => .nil
  | _, _, .cons h t => .cons rfl (zip_refs t)
theorem zip_mem : ∀ {ls : List (List Int)} {m : Made}, Paired isLt ls m → ∀ x ∈ ls.zip m, isLt x.1 x.2 ∧ x.1 ∈ ls ∧ x.2 ∈ m
  | _, _, .nil, x, h => nomatch h
  | _, _, .cons h t, x, hx => by
    rcases List.mem_cons.mp hx with rfl | hx
    · exact ⟨h, List.mem_cons_self, List.mem_cons_self⟩
    · obtain ⟨a, b, c⟩ := zip_mem t x hx
      exact ⟨a, List.mem_cons_of_mem _ b, List.mem_cons_of_mem _ c⟩
theorem zip_fst {ls : List (List Int)} {m : Made} (p : Paired isLt ls m) : (ls.zip m).map (·.1) = ls := by
  induction p with
  | nil => rfl
  | cons _ _ ih => rw [List.zip_cons_cons, List.map_cons, ih]
theorem three_of {l : List Int} (h : l.length = 3) {vs : List Value} (hv : Paired isI l vs) : ∃ a b c ta tb tc, l = [a, b, c] ∧ vs = [.int a ta, .int b tb, .int c tc] := by
  obtain ⟨a, b, c, rfl⟩ := of_len3 h
  cases hv with
  | cons h1 hv => cases hv with
    | cons h2 hv => cases hv with
      | cons h3 hv => cases hv; obtain ⟨_, rfl⟩ := h1; obtain ⟨_, rfl⟩ := h2; obtain ⟨_, rfl⟩ := h3; exact ⟨a, b, c, _, _, _, rfl, rfl⟩
noncomputable def st17 : Stmt := pickSt (k := 17) _ rfl
theorem segJ3 {w : World} {A : Around} {n : Nat} {mg mb : Str → Option Value} {s₀ s : Shared} {led : Led} {gs : GL} {Q : Flow → Shared → Prop} {L cD cC cS cO cL cT cR cH cM cQ lc DT mS : Addr} {m : Made} {ls : List (List Int)} {S : Int → Bool} (G : GG w mg mb s₀.heap) (hA : AOk A (n + 8))
    (H : Inn s₀ ((L, nsC [(Str.ofString "counts", .ref lc), (Str.ofString "lights", .ref DT)]) :: (cM, celC (some (.ref mS))) :: (mS, setC (wb w) S) :: (DT, lstC (refs m)) :: (lRows m ++ led)) gs s)
    (hm : Paired isLt ls m) (hn : m.length ≤ 100) (h3 : ∀ l ∈ ls, l.length = 3) (hb : ∀ k, S k = true → 0 ≤ k ∧ k < 3000) (h9 : ∀ l ∈ ls, ∀ x ∈ l, -100 ≤ x ∧ x ≤ 100)
    (k : ∀ (D : Addr) (gv : List Value) (s' : Shared), Paired isB (ls.map fun l => S (codeL l)) gv → Inn s₀ ((L, nsC [(Str.ofString "counts", .ref lc), (Str.ofString "lights", .ref DT), (Str.ofString "good", .ref D)]) :: (D, lstC gv) :: (DT, lstC (refs m)) :: (lRows m ++ led)) gs s' → Q .next s') :
    wpAny (MM w) A (execs [st17] (lenv L cD cC cS cO cL cT cR cH cM cQ)) Q (fun _ _ => False) s := by
  unfold st17 pickSt
  repeat' cell_call
  have hrz : (refs m).length ≤ sizeLine := by rw [refs_len]; exact Nat.le_trans hn (by decide)
  refine' LF_list0 (fun (x : List Int × (Addr × List Value)) v => isB (S (codeL x.1)) v) (zip_refs hm) hA H ?ur rfl (by kernel_rfl!) hrz (fun x v lc2 i ys s hx hf H => ?hG) (fun lc2 ys s hP H => ?hK)
  case ur => tb_rel
  case hG =>
    subst hf
    obtain ⟨l, pa, pv⟩ := x
    obtain ⟨hl, hl2, hl3⟩ := zip_mem hm _ hx
    obtain ⟨a, b, c, ta, tb, tc, rfl, hpv⟩ := three_of (h3 _ hl2) hl
    dsimp only at hpv hl3 hl2
    subst hpv
    have hpr : Row pa (lstC [.int a ta, .int b tb, .int c tc]) (lRows m ++ led) := Row.of_mem (List.mem_append_left _ (mem_lRows hl3))
    have hxb := h9 _ hl2
    have ha := hxb a (by simp)
    have hb2 := hxb b (by simp)
    have hc2 := hxb c (by simp)
    repeat' cell_call
    refine' c_inset H ?ri hb (fun s H => ?_)
    case ri => tb_rel
    refine ⟨?_, H⟩
    rfl
  case hK =>
    refine cp_some (s₀ := s₀) ?_
    repeat' cell_call
    refine ⟨_, _, _, _, H, by tb_rel, fun s H => ?_⟩
    repeat' cell_call
    have hP2 := paired_map (F := fun b v => isB b v) (fun x : List Int × (Addr × List Value) => S (codeL x.1)) hP
    rw [show (ls.zip m).map (fun x : List Int × (Addr × List Value) => S (codeL x.1)) = ls.map fun l => S (codeL l) from by
      conv => rhs; rw [← zip_fst hm]
      rw [List.map_map]; rfl] at hP2
    have H := H.prune (L := L) (l' := [(Str.ofString "counts", .ref lc), (Str.ofString "lights", .ref DT), (Str.ofString "good", .ref D)]) (by tb_rel) (by tb_rel)
    exact k _ _ _ hP2 (H.pick (by tb_rel))
end
/-! ### Q1 -/
section
section
variable {w : World} {A : Around} {E : Value → Shared → Prop} {s₀ s : Shared} {led led' : Led} {gs : GL} {env : Env} {n : Nat} {t u : Tok}
theorem sorted_uniq : ∀ {a b : List Int}, a.Perm b → a.Pairwise (· ≤ ·) → b.Pairwise (· ≤ ·) → a = b
  | [], b, h, _, _ => (List.Perm.eq_nil h.symm).symm
  | x :: a, [], h, _, _ => List.Perm.eq_nil h
  | x :: a, y :: b, h, h1, h2 => by
    rw [List.pairwise_cons] at h1 h2
    have hx : x ∈ y :: b := h.subset List.mem_cons_self
    have hy : y ∈ x :: a := h.symm.subset List.mem_cons_self
    have e1 : y ≤ x := by
      rcases List.mem_cons.mp hx with e | hx
      · omega
      · exact h2.1 x hx
    have e2 : x ≤ y := by
      rcases List.mem_cons.mp hy with e | hy
      · omega
      · exact h1.1 y hy
    have e : x = y := by omega
    subst e
    rw [sorted_uniq (List.Perm.cons_inv h) h1.2 h2.2]
theorem l_ne_same {l b : Addr} {α : Type} {F : α → Value → Prop} {xs : List α} {vs us : List Value} {Q : Value → Shared → Prop} (hF : ∀ x v u, F x v → F x u → ∀ A s, SeqAt.EqAt A s v u true) (hA : AOk A n) (H : Inn s₀ led gs s) (r1 : Row l (lstC vs) led) (r2 : Row b (lstC us) led)
    (h1 : Paired F xs vs) (h2 : Paired F xs us) (k : Q (.bool false) s) : wpAny (MM w) A (compareOp .NotEq (.ref l) (.ref b)) Q E s := by
  have hl : vs.length = us.length := h1.length.symm.trans h2.length
  refine SeqAt.RcNeAt.lists (e := fun _ => true) (H.has r1.mem).lst (H.has r2.mem).lst (by simpa using hl) hA.units (fun j a b => ?_) _ _ E Q ?_
  · have hj : j < vs.length := by simpa using a
    have hjx : j < xs.length := by rw [h1.length]; exact hj
    obtain ⟨v, e1, f1⟩ := paired_get' h1 (List.getElem?_eq_getElem hjx)
    obtain ⟨u, e2, f2⟩ := paired_get' h2 (List.getElem?_eq_getElem hjx)
    have g1 : vs.toArray[j] = v := by
      have := List.getElem?_eq_some_iff.mp e1; simpa using this.2
    have g2 : us.toArray[j] = u := by
      have := List.getElem?_eq_some_iff.mp e2; simpa using this.2
    rw [g1, g2]; exact hF _ _ _ f1 f2 _ _
  · rw [List.all_eq_true.mpr (fun _ _ => rfl)]; exact k
theorem l_eq_same {l b : Addr} {α : Type} {F : α → Value → Prop} {xs : List α} {vs us : List Value} {Q : Value → Shared → Prop} (hF : ∀ x v u, F x v → F x u → ∀ A s, SeqAt.EqAt A s v u true) (hA : AOk A n) (H : Inn s₀ led gs s) (r1 : Row l (lstC vs) led) (r2 : Row b (lstC us) led)
    (h1 : Paired F xs vs) (h2 : Paired F xs us) (k : Q (.bool true) s) : wpAny (MM w) A (compareOp .Eq (.ref l) (.ref b)) Q E s := by
  have hl : vs.length = us.length := h1.length.symm.trans h2.length
  refine SeqAt.eq_listAt (e := fun _ => true) (H.has r1.mem).lst (H.has r2.mem).lst (by simpa using hl) hA.units (fun j a b => ?_) ?_
  · have hj : j < vs.length := by simpa using a
    have hjx : j < xs.length := by rw [h1.length]; exact hj
    obtain ⟨v, e1, f1⟩ := paired_get' h1 (List.getElem?_eq_getElem hjx)
    obtain ⟨u, e2, f2⟩ := paired_get' h2 (List.getElem?_eq_getElem hjx)
    have g1 : vs.toArray[j] = v := by
      have := List.getElem?_eq_some_iff.mp e1; simpa using this.2
    have g2 : us.toArray[j] = u := by
      have := List.getElem?_eq_some_iff.mp e2; simpa using this.2
    rw [g1, g2]; exact hF _ _ _ f1 f2 _ _
  · rw [List.all_eq_true.mpr (fun _ _ => rfl)]; exact k
theorem eqI (x : Int) (v u : Value) (h1 : isI x v) (h2 : isI x u) (A : Around) (s : Shared) : SeqAt.EqAt A s v u true := by
  obtain ⟨t1, rfl⟩ := h1; obtain ⟨t2, rfl⟩ := h2
  have := SeqAt.EqAt.int_int (A := A) (s := s) x t1 x t2
  rwa [beq_self_eq_true] at this
theorem eqS (x : Str) (v u : Value) (h1 : isS x v) (h2 : isS x u) (A : Around) (s : Shared) : SeqAt.EqAt A s v u true := by
  obtain ⟨t1, rfl⟩ := h1; obtain ⟨t2, rfl⟩ := h2
  have := SeqAt.EqAt.str_str (A := A) (s := s) x t1 x t2
  rwa [beq_self_eq_true] at this
theorem eqB (x : Bool) (v u : Value) (h1 : isB x v) (h2 : isB x u) (A : Around) (s : Shared) : SeqAt.EqAt A s v u true := by
  cases h1; cases h2
  have := SeqAt.EqAt.bool_bool (A := A) (s := s) x x
  rwa [beq_self_eq_true] at this
end
end
/-! ### Q2 -/
section
section
variable {w : World} {A : Around} {E : Value → Shared → Prop} {s₀ s : Shared} {led led' : Led} {gs : GL} {env : Env} {n : Nat} {t u : Tok}
theorem src_zip {x y : Str} {p1 p2 p3 : Pos} {x1 : Nat} {z TI TO i1 i2 l1 l2 C : Addr} {xs ys : List Value} {m : Nat} (hA : AOk A m) (hL : env.locals = C) (hk : env.scope.kind = .function) (hx : env.kindOf x = some .local) (hy : env.kindOf y = some .local) (hlen : ys.length ≤ xs.length) :
    Src w A env (.Tuple [.Name x p1, .Name y p2] x1 p3) (.ref z) s₀ gs C ys.length (fun i => [(z, zpC TI TO .none), (TI, prC (.ref i1) (.ref i2)), (TO, toC), (i1, liC l1 i), (i2, liC l2 i)]) (fun i b => ∃ v u, xs[i]? = some v ∧ ys[i]? = some u ∧ b = [(y, u), (x, v)]) (fun led => Row l1 (lstC xs) led ∧ Row l2 (lstC ys) led) where
  next := fun i lc led s R hi hok H hR => by
    have H : Inn s₀ (zRows z TI TO i1 i2 l1 l2 .none i ((C, nsC lc) :: led)) gs s := H.pick (pick_of (List.perm_middle (l₁ := [_, _, _, _, _])))
    have hi2 : i < xs.length := by omega
    refine nx_zip H (.tail hok.1) (.tail hok.2) (List.getElem?_eq_getElem hi2) (List.getElem?_eq_getElem hi) (fun T s₁ H => ?_)
    refine go_zip H (fun s₂ H => ?_) (.tail .head)
    refine as_tuple H hA (fun s₃ H => ?_) .head rfl rfl
    refine ao_cons (wpAny_assign_Name (st_local H (fun s₄ H => ?_) (.tail (.tail (.tail (.tail (.tail (.tail .head)))))) hL hk hx))
    refine ao_cons (wpAny_assign_Name (st_local H (fun s₅ H => ?_) (.tail (.tail (.tail (.tail (.tail (.tail .head)))))) hL hk hy))
    exact ao_nil (hR _ _ ⟨_, _, List.getElem?_eq_getElem hi2, List.getElem?_eq_getElem hi, rfl⟩ (H.pick (.skip (pick_of (List.perm_middle (l₁ := [_, _, _, _, _])).symm))))
  last := fun lc led s R hok H hR => by
    have H : Inn s₀ (zRows z TI TO i1 i2 l1 l2 .none ys.length ((C, nsC lc) :: led)) gs s := H.pick (pick_of (List.perm_middle (l₁ := [_, _, _, _, _])))
    exact nx_zip_end H hA (.tail hok.1) (.tail hok.2) (.inr (Nat.le_refl _)) (fun s' H => ⟨rfl, hR _ H⟩)
  self := fun i led s Q hok H q => it_zip H q .head
theorem s_rep {c : Nat} {k : Int} {Q : Value → Shared → Prop} (H : Inn s₀ led gs s) (hk : -1000 ≤ k ∧ k ≤ 1000) (kk : ∀ t s', Inn s₀ led gs s' → Q (.str (mk (List.replicate k.toNat c)) t) s') : wpAny (MM w) A (binaryOp .Mult (.str ⟨#[c]⟩ t) (.int k u)) Q E s := by
  have hfold : ∀ (m : Nat) (acc : Array Nat), (List.replicate m #[c]).foldl (· ++ ·) acc = acc ++ (List.replicate m c).toArray := by
    intro m
    induction m with
    | zero => intro acc; simp
    | succ m ih =>
      intro acc
      rw [List.replicate_succ, List.foldl_cons, ih, List.replicate_succ]
      apply Array.toList_inj.mp
      simp
  refine P.mul_str ?_ (fun h1 h2 => ?_) (fun h1 h2 => ?_) ?_
  · rw [decide_eq_false (by omega), decide_eq_false (by omega)]; rfl
  · have e : ((⟨#[c]⟩ : Str).length : Int) = 1 := rfl
    rw [e]
    have : (1 : Int) ≤ (2 ^ 63 - 1) / k := by
      refine (Int.le_ediv_iff_mul_le (by omega)).mpr ?_
      omega
    omega
  · have e : (⟨#[c]⟩ : Str).length = 1 := rfl
    rw [e]
    show decide (1 * k.toNat > 2 ^ 24) = false
    exact decide_eq_false (by omega)
  · split
    · rename_i h1
      have e : mk (List.replicate k.toNat c) = Str.empty := by
        rw [show k.toNat = 0 from by omega]; rfl
      have := kk s.toks _ (H.tok (s.toks + 1))
      rw [e] at this
      exact ⟨by decide, this⟩
    · split
      · rename_i h1 h2
        rw [Bool.or_eq_true, beq_iff_eq] at h2
        have hk1 : k = 1 := by
          rcases h2 with h2 | h2
          · exact h2
          · exact absurd (eq_of_beq h2) (by show ¬ (1 = 0); decide)
        subst hk1
        exact kk _ _ H
      · have e : (⟨(List.replicate k.toNat (⟨#[c]⟩ : Str).cps).foldl (· ++ ·) #[]⟩ : Str) = mk (List.replicate k.toNat c) := by
          unfold mk; congr 1
          rw [show (⟨#[c]⟩ : Str).cps = #[c] from rfl, hfold]; simp
        rw [e]
        have hl : (mk (List.replicate k.toNat c)).length ≤ sizeLine := by rw [mk_len, List.length_replicate]; exact Nat.le_trans (show k.toNat ≤ 1000 by omega) (by decide)
        exact ⟨hl, kk _ _ (H.tok _)⟩
end
end
/-! ### L13t -/
section
noncomputable def hidS : List Str := [Str.ofString "", Str.ofString "\\(", Str.ofString "\")\"", Str.ofString "\"(\"\\)", Str.ofString "\"\\\")\"", Str.ofString "\""]
noncomputable def lineL (cs : List Nat) (srt : List Int) : List Nat := ((cs.zip srt).map fun p => List.replicate p.1 40 ++ List.replicate p.2.toNat 41).flatten
noncomputable def lineS (cs : List Nat) (c6 i : Nat) (srt : List Int) : Str := hidS.getD ((c6 + i) % 6) (Str.ofString "") ++ mk (lineL cs srt)
noncomputable def st18 : Stmt := pickSt (k := 18) _ rfl
noncomputable def st19 : Stmt := pickSt (k := 19) _ rfl
noncomputable def forBody : Stmt → List Stmt
  | .For _ _ b _ _ => b
  | _ => []
noncomputable def tailK : List Stmt := (forBody st19).drop 5
theorem paired_unmap {α α' β : Type} {F : α → β → Prop} {f : α' → α} {as : List α'} : ∀ {vs : List β}, Paired F (as.map f) vs → Paired (fun a v => F (f a) v) as vs := by
  induction as with
  | nil => intro vs h; cases h; exact .nil
  | cons a as ih => intro vs h; cases h with
    | cons h t => exact .cons h (ih t)
theorem line_rows {cs : List Nat} {srt : List Int} (h4 : cs.length = 4) (h3 : srt.length = 3) : (List.range 3).map (fun i : Nat => mk (List.replicate (cs.getD i 0) 40 ++ List.replicate (srt.getD i 0).toNat 41)) = ((cs.zip srt).map fun p => List.replicate p.1 40 ++ List.replicate p.2.toNat 41).map mk := by
  obtain ⟨c0, c1, c2, c3, rfl⟩ := of_len4 h4
  obtain ⟨a, b, c, rfl⟩ := of_len3 h3
  rfl
theorem line_len {cs : List Nat} {srt : List Int} (h4 : cs.length = 4) (h3 : srt.length = 3) (hc9 : ∀ c ∈ cs, c ≤ 100) (hbd : ∀ x ∈ srt, -100 ≤ x ∧ x ≤ 100) : (lineL cs srt).length ≤ 600 := by
  obtain ⟨c0, c1, c2, c3, rfl⟩ := of_len4 h4
  obtain ⟨a, b, c, rfl⟩ := of_len3 h3
  have one : ∀ x ∈ [c0, c1, c2], ∀ y ∈ [a, b, c], (List.replicate x 40 ++ List.replicate y.toNat 41).length ≤ 200 := fun x hx y hy => by
    rw [List.length_append, List.length_replicate, List.length_replicate]
    exact Nat.add_le_add (hc9 x (List.mem_append_left [c3] hx)) (Int.toNat_le.mpr (hbd y hy).2)
  show ((List.replicate c0 40 ++ List.replicate a.toNat 41) ++ ((List.replicate c1 40 ++ List.replicate b.toNat 41) ++ ((List.replicate c2 40 ++ List.replicate c.toNat 41) ++ []))).length ≤ 600
  refine Nat.le_trans (Nat.le_of_eq List.length_append) (Nat.add_le_add (b := 200) (d := 400) (one c0 (.head _) a (.head _)) ?_)
  refine Nat.le_trans (Nat.le_of_eq List.length_append) (Nat.add_le_add (b := 200) (d := 200) (one c1 (.tail _ (.head _)) b (.tail _ (.head _))) ?_)
  rw [List.append_nil]; exact one c2 (.tail _ (.tail _ (.head _))) c (.tail _ (.tail _ (.head _)))
theorem rb_nat {n : Nat} (h : n ≤ 100) : -1000 ≤ (n : Int) ∧ (n : Int) ≤ 1000 := by omega
theorem rb_int {n : Int} (h : -100 ≤ n ∧ n ≤ 100) : -1000 ≤ n ∧ n ≤ 1000 := ⟨Int.le_trans (by decide) h.1, Int.le_trans h.2 (by decide)⟩
theorem segK2 {w : World} {A : Around} {n : Nat} {mg mb : Str → Option Value} {s₀ s : Shared} {led : Led} {gs : GL} {Q : Flow → Shared → Prop} {L cD cC cS cO cL cT cR cH cM cQ lc lcl DN Dp DT Dg : Addr} {srt : List Int} {cs ns : List Nat} {cv vc vp lv : List Value} {c6 i : Nat} {ti : Tok} (G : GG w mg mb s₀.heap) (hA : AOk A (n + 8))
    (H : Inn s₀ ((L, nsC [(Str.ofString "place", .int i ti), (Str.ofString "parts", .ref Dp), (Str.ofString "counts", .ref lc), (Str.ofString "lights", .ref DT), (Str.ofString "good", .ref Dg), (Str.ofString "lines", .ref DN)]) :: (DN, lstC lv) :: (Dp, lstC vp) :: (cC, celC (some (.ref lcl))) :: (lcl, lstC vc) :: (lc, lstC cv) :: led) gs s)
    (hvp : Paired isI (srt.map (65536 * ·)) vp) (hs3 : srt.length = 3) (hbd : ∀ x ∈ srt, -100 ≤ x ∧ x ≤ 100) (hcs : Paired isN cs cv) (hc4 : cs.length = 4) (hc9 : ∀ c ∈ cs, c ≤ 100) (hc : Paired isN ns vc) (hc6 : ns[6]? = some c6) (hlv : lv.length ≤ 1000)
    (k : ∀ (t : Tok) (s' : Shared), Inn s₀ ((L, nsC [(Str.ofString "counts", .ref lc), (Str.ofString "lights", .ref DT), (Str.ofString "good", .ref Dg), (Str.ofString "lines", .ref DN)]) :: (DN, lstC (lv ++ [.str (lineS cs c6 i srt) t])) :: (cC, celC (some (.ref lcl))) :: (lcl, lstC vc) :: (lc, lstC cv) :: led) gs s' → Q .next s') :
    wpAny (MM w) A (execs tailK (lenv L cD cC cS cO cL cT cR cH cM cQ)) Q (fun _ _ => False) s := by
  unfold tailK st19 pickSt forBody
  simp only [List.drop_succ_cons, List.drop_zero]
  repeat' cell_call
  have hvp2 : Paired (fun (x : Int) v => isI (65536 * x) v) srt vp := paired_unmap hvp
  have hvz : vp.length ≤ sizeLine := by rw [← hvp2.length, hs3]; decide
  refine' LF_list0 (w := w) (F := fun (x : Int) v => isI (65536 * x) v) (fun (x : Int) v => isI x v) hvp2 hA H ?ur rfl (by kernel_rfl!) hvz (fun x v lc2 ii ys s hx hf H => ?hG) (fun lc2 ys s hP H => ?hK)
  case ur => tb_rel
  case hG =>
    obtain ⟨tv, rfl⟩ := hf
    repeat' cell_call
    have hfd : (65536 * x).fdiv 65536 = x := by rw [Int.mul_comm]; exact Int.mul_fdiv_cancel x (by decide)
    exact ⟨⟨_, congrArg (fun y => Value.int y _) hfd⟩, H⟩
  case hK =>
    refine cp_none H (fun s H => ?_) .head
    repeat' cell_call
    refine' mk_zip (xs := cv) (ys := ys) H ?r1 .head (fun z TI TO i1 i2 s H => ?_)
    case r1 => tb_rel
    repeat' cell_call
    obtain ⟨v6, hv6, t6, rfl⟩ := paired_get' hc hc6
    refine' sb_list H ?qk (r := ?qr) (h0 := by decide) (hf := by decide) (hx := hv6) (hs := by with_unfolding_all rfl)
    case qr => tb_rel
    repeat' cell_call
    rw [show ((c6 : Nat) : Int) + (i : Int) = ((c6 + i : Nat) : Int) from rfl, show ((c6 + i : Nat) : Int).fmod 6 = (((c6 + i) % 6 : Nat) : Int) from fmodN _ 6]
    have ho6 : (c6 + i) % 6 < 6 := Nat.mod_lt _ (by decide)
    have hLS : lineS cs c6 i srt = hidS.getD ((c6 + i) % 6) (Str.ofString "") ++ mk (lineL cs srt) := rfl
    rw [hLS] at k
    clear hLS
    generalize (c6 + i) % 6 = o at ho6 k ⊢
    obtain ⟨Dh, rfl⟩ : ∃ J, J = D := ⟨_, rfl⟩
    obtain ⟨hv, hpd, Dy, H⟩ : ∃ hv, Paired isS hidS hv ∧ ∃ Dy, Inn s₀ ((Dh, lstC hv) :: (z, zpC TI TO .none) :: (TI, prC (.ref i1) (.ref i2)) :: (TO, toC) :: (i1, liC lc 0) :: (i2, liC Dy 0) :: (Dy, lstC ys) :: (L, nsC [(Str.ofString "pairs", .ref z), (Str.ofString "counts", .ref lc), (Str.ofString "lights", .ref DT), (Str.ofString "good", .ref Dg), (Str.ofString "lines", .ref DN)]) :: (DN, lstC lv) :: (cC, celC (some (.ref lcl))) :: (lcl, lstC vc) :: (lc, lstC cv) :: led) gs s := by
      refine ⟨_, ?_, _, (H.prune (L := L) (l' := [(Str.ofString "pairs", .ref z), (Str.ofString "counts", .ref lc), (Str.ofString "lights", .ref DT), (Str.ofString "good", .ref Dg), (Str.ofString "lines", .ref DN)]) (by tb_rel) (by tb_rel)).pick (by tb_rel)⟩
      exact .cons ⟨_, rfl⟩ (.cons ⟨_, rfl⟩ (.cons ⟨_, rfl⟩ (.cons ⟨_, rfl⟩ (.cons ⟨_, rfl⟩ (.cons ⟨_, rfl⟩ .nil)))))
    have hoh : o < hidS.length := ho6
    obtain ⟨vh, hvh, th, rfl⟩ := paired_get' hpd (List.getElem?_eq_getElem hoh)
    have hgd : hidS.getD o (Str.ofString "") = hidS[o] := by rw [List.getD_eq_getElem?_getD, List.getElem?_eq_getElem hoh]; rfl
    rw [hgd] at k
    have hhl : hidS[o].length ≤ 10 := by
      have : ∀ h ∈ hidS, h.length ≤ 10 := by decide +kernel
      exact this _ (List.getElem_mem hoh)
    generalize hidS[o] = hid at hvh k hhl
    refine' sb_list H ?qk2 (r := .head) (h0 := Int.natCast_nonneg _) (hf := Int.lt_of_lt_of_le (Int.ofNat_lt.mpr ho6) (by decide)) (hx := hvh) (hs := by with_unfolding_all rfl)
    repeat' cell_call
    have hyl : ys.length = 3 := by rw [← hP.length, hs3]
    have hcl : cv.length = 4 := by rw [← hcs.length, hc4]
    have hGl : ∀ i, i < 3 → ∃ a b, cs[i]? = some a ∧ srt[i]? = some b := fun i h => ⟨_, _, List.getElem?_eq_getElem (by rw [hc4]; exact Nat.lt_trans h (by decide)), List.getElem?_eq_getElem (by rw [hs3]; exact h)⟩
    refine' it_zip H ⟨_, _, H, fun D C s H => ?_⟩ ?rz
    case rz => tb_rel
    replace H : Inn s₀ ((C, nsC []) :: (z, zpC TI TO .none) :: (TI, prC (.ref i1) (.ref i2)) :: (TO, toC) :: (i1, liC lc 0) :: (i2, liC Dy 0) :: (D, lstC []) :: (Dh, lstC hv) :: (Dy, lstC ys) :: (L, nsC [(Str.ofString "hidden", .str hid th), (Str.ofString "pairs", .ref z), (Str.ofString "counts", .ref lc), (Str.ofString "lights", .ref DT), (Str.ofString "good", .ref Dg), (Str.ofString "lines", .ref DN)]) :: (DN, lstC lv) :: (cC, celC (some (.ref lcl))) :: (lcl, lstC vc) :: (lc, lstC cv) :: led) gs s := H.pick (by tb_rel)
    refine' LF (fun i => true) (fun i v => isS (mk (List.replicate (cs.getD i 0) 40 ++ List.replicate (srt.getD i 0).toNat 41)) v) (src_zip (xs := cv) (ys := ys) (z := z) (TI := TI) (TO := TO) (i1 := i1) (i2 := i2) (l1 := lc) (l2 := Dy) hA rfl rfl (by kernel_rfl!) (by kernel_rfl!) (by rw [hyl, hcl]; decide)) (led := (Dh, lstC hv) :: (Dy, lstC ys) :: (L, nsC [(Str.ofString "hidden", .str hid th), (Str.ofString "pairs", .ref z), (Str.ofString "counts", .ref lc), (Str.ofString "lights", .ref DT), (Str.ofString "good", .ref Dg), (Str.ofString "lines", .ref DN)]) :: (DN, lstC lv) :: (cC, celC (some (.ref lcl))) :: (lcl, lstC vc) :: (lc, lstC cv) :: led) (fun ys' => ⟨by tb_rel, by tb_rel⟩) (by rw [hyl]; decide) H
      (fun i b lc3 zs s hi hB H => wpAny_tests_nil ⟨rfl, H⟩) (fun i b lc3 zs s hi hB hpi H => ?hG2) (fun lc3 zs s hP2 H => ?hK2)
    case hG2 =>
      obtain ⟨v1, u1, e1, e2, rfl⟩ := hB
      have hi3 : i < 3 := by rw [hyl] at hi; exact hi
      have hic : i < cs.length := by rw [hc4]; exact Nat.lt_trans hi3 (by decide)
      have his : i < srt.length := by rw [hs3]; exact hi3
      obtain ⟨v1', e3, t1, rfl⟩ := paired_get' hcs (List.getElem?_eq_getElem hic)
      rw [e1] at e3; injection e3 with e3; subst e3
      obtain ⟨u1', e4, t2, rfl⟩ := paired_get' hP (List.getElem?_eq_getElem his)
      rw [e2] at e4; injection e4 with e4; subst e4
      have hcb := hc9 cs[i] (List.getElem_mem hic)
      have hsb := hbd srt[i] (List.getElem_mem his)
      have hcg : cs.getD i 0 = cs[i] := by rw [List.getD_eq_getElem?_getD, List.getElem?_eq_getElem hic]; rfl
      have hsg : srt.getD i 0 = srt[i] := by rw [List.getD_eq_getElem?_getD, List.getElem?_eq_getElem his]; rfl
      rw [hcg, hsg]
      replace H : Inn s₀ ((C, nsC ((Str.ofString "other", .int srt[i] t2) :: (Str.ofString "one", .int (cs[i] : Nat) t1) :: lc3)) :: (z, zpC TI TO .none) :: (TI, prC (.ref i1) (.ref i2)) :: (TO, toC) :: (i1, liC lc (i + 1)) :: (i2, liC Dy (i + 1)) :: (D, lstC zs) :: (Dh, lstC hv) :: (Dy, lstC ys) :: (L, nsC [(Str.ofString "hidden", .str hid th), (Str.ofString "pairs", .ref z), (Str.ofString "counts", .ref lc), (Str.ofString "lights", .ref DT), (Str.ofString "good", .ref Dg), (Str.ofString "lines", .ref DN)]) :: (DN, lstC lv) :: (cC, celC (some (.ref lcl))) :: (lcl, lstC vc) :: (lc, lstC cv) :: led) gs s := H
      repeat' cell_call
      rw [show Str.ofString "(" = ⟨#[40]⟩ from by decide +kernel]
      refine s_rep H (rb_nat hcb) (fun t3 s H => ?_)
      repeat' cell_call
      rw [show Str.ofString ")" = ⟨#[41]⟩ from by decide +kernel]
      refine s_rep H (rb_int hsb) (fun t4 s H => ?_)
      refine s_add H (fun t5 s H => ?_) ?zz
      case zz => rw [mk_len, mk_len, List.length_replicate, List.length_replicate]; exact Nat.le_trans (Nat.add_le_add (show Int.toNat (cs[i] : Nat) ≤ 100 from hcb) (Int.toNat_le.mpr hsb.2)) (by decide)
      rw [mk_app, Int.toNat_natCast]
      exact ⟨⟨_, rfl⟩, H⟩
    case hK2 =>
      refine cp_none H (fun s H => ?_) .head
      rw [hyl, List.filter_eq_self.mpr (fun _ _ => rfl)] at hP2
      have hP3 := paired_map (F := isS) (fun i : Nat => mk (List.replicate (cs.getD i 0) 40 ++ List.replicate (srt.getD i 0).toNat 41)) hP2
      rw [line_rows hc4 hs3] at hP3
      have hbig : (mk (lineL cs srt)).length ≤ 1000 := by rw [mk_len]; exact Nat.le_trans (line_len hc4 hs3 hc9 hbd) (by decide)
      repeat' cell_call
      refine' s_join (xs := ((cs.zip srt).map fun p => List.replicate p.1 40 ++ List.replicate p.2.toNat 41).map mk) H (fun tj s H => ?_) .head hP3 ?hzj
      case hzj =>
        rw [mk_sum, show (Str.ofString "").length = 0 from by decide +kernel]
        rw [mk_len] at hbig
        rw [Nat.mul_zero, Nat.add_zero]
        exact Nat.le_trans hbig (by decide)
      rw [join_mk, show ((cs.zip srt).map fun p => List.replicate p.1 40 ++ List.replicate p.2.toNat 41).flatten = lineL cs srt from rfl]
      have hsum : hid.length + (mk (lineL cs srt)).length ≤ sizeLine := Nat.le_trans (Nat.add_le_add hhl hbig) (by decide)
      have hlvz : lv.length ≤ sizeLine := Nat.le_trans hlv (by decide)
      repeat' cell_call
      have H := H.prune (L := L) (l' := [(Str.ofString "counts", .ref lc), (Str.ofString "lights", .ref DT), (Str.ofString "good", .ref Dg), (Str.ofString "lines", .ref DN)]) (by tb_rel) (by tb_rel)
      exact k _ _ (H.pick (by tb_rel))
end
/-! ### L13 -/
section
noncomputable def pv (x : UInt64) : Int := ((pOut x).getD 0).fdiv 2
noncomputable def pA (r g b : UInt64) : List UInt64 := pList (hsvH r g b) (Float64.mul (hsvS r g b) (fmax (fmax r g) b)) (fmax (fmax r g) b)
noncomputable def pB (r g b : UInt64) : List UInt64 := pList (hsvH r g b) (Float64.mul (Float64.mul (Float64.ofInt 2) (hlsL r g b)) (hlsS r g b)) (Float64.add (hlsL r g b) (Float64.mul (hlsL r g b) (hlsS r g b)))
structure LtOk (l : List Int) (srt : List Int) : Prop where
  inf : ∀ x ∈ l, Float64.isInf (sx x) = false
  hsv : hsvOk (sx (l.getD 0 0)) (sx (l.getD 1 0)) (sx (l.getD 2 0)) = true
  hls : (Float64.cmp (fmin (fmin (sx (l.getD 0 0)) (sx (l.getD 1 0))) (sx (l.getD 2 0))) (fmax (fmax (sx (l.getD 0 0)) (sx (l.getD 1 0))) (sx (l.getD 2 0))) == some Ordering.eq) = false →
    (hlsLow (sx (l.getD 0 0)) (sx (l.getD 1 0)) (sx (l.getD 2 0)) = true → Float64.isZero (Float64.add (fmax (fmax (sx (l.getD 0 0)) (sx (l.getD 1 0))) (sx (l.getD 2 0))) (fmin (fmin (sx (l.getD 0 0)) (sx (l.getD 1 0))) (sx (l.getD 2 0)))) = false) ∧
      (hlsLow (sx (l.getD 0 0)) (sx (l.getD 1 0)) (sx (l.getD 2 0)) = false → Float64.isZero (Float64.sub (Float64.sub 0x4000000000000000 (fmax (fmax (sx (l.getD 0 0)) (sx (l.getD 1 0))) (sx (l.getD 2 0)))) (fmin (fmin (sx (l.getD 0 0)) (sx (l.getD 1 0))) (sx (l.getD 2 0)))) = false) ∧
      Float64.isZero (Float64.sub (fmax (fmax (sx (l.getD 0 0)) (sx (l.getD 1 0))) (sx (l.getD 2 0))) (fmin (fmin (sx (l.getD 0 0)) (sx (l.getD 1 0))) (sx (l.getD 2 0)))) = false
  p1 : ∀ x ∈ pA (sx (l.getD 0 0)) (sx (l.getD 1 0)) (sx (l.getD 2 0)), (pOut x).isSome = true
  q1 : (pA (sx (l.getD 0 0)) (sx (l.getD 1 0)) (sx (l.getD 2 0))).map pv = srt.map (65536 * ·)
  p2 : ∀ x ∈ pB (sx (l.getD 0 0)) (sx (l.getD 1 0)) (sx (l.getD 2 0)), (pOut x).isSome = true
  q2 : (pB (sx (l.getD 0 0)) (sx (l.getD 1 0)) (sx (l.getD 2 0))).map pv = srt.map (65536 * ·)
  perm : srt.reverse.Perm l
  sorted : srt.reverse.Pairwise (· ≤ ·)
  bd : ∀ x ∈ srt, -100 ≤ x ∧ x ≤ 100
  len : srt.length = 3
theorem or_cons {w : World} {A : Around} {E : Value → Shared → Prop} {s : Shared} {env : Env} {x : Expr} {rest : List Expr} {Q : Bool → Shared → Prop} (h : wpAny (MM w) A (PySem.isTrue x env (eval x env)) (fun c s' => if c = true then Q true s' else wpAny (MM w) A (allTrue .Or rest env) Q E s') E s) : wpAny (MM w) A (allTrue .Or (x :: rest) env) Q E s := by
  show wpAny (MM w) A (do
    match BoolOp.Or, ← PySem.isTrue x env (eval x env) with
    | .And, false => pure false
    | .Or, true => pure true
    | _, _ => allTrue .Or rest env) Q E s
  refine wpAny_bind (wpAny_mono h (fun c s' h' => ?_) fun _ _ x => x)
  cases c with
  | false => exact h'
  | true => exact wpAny_pure h'
theorem or_nil {w : World} {A : Around} {E : Value → Shared → Prop} {s : Shared} {env : Env} {Q : Bool → Shared → Prop} (h : Q false s) : wpAny (MM w) A (allTrue .Or [] env) Q E s := wpAny_pure h
theorem pick_rev3 (x y z : Int) : pickNums [x, y, z] none none (some (-1)) = [z, y, x] := by
  unfold pickNums
  rw [show sliceRange (sliceBounds none none (some (-1)) [x, y, z].length).1 (sliceBounds none none (some (-1)) [x, y, z].length).2.1 (sliceBounds none none (some (-1)) [x, y, z].length).2.2 = [2, 1, 0] from by
    show sliceRange (sliceBounds none none (some (-1)) 3).1 (sliceBounds none none (some (-1)) 3).2.1 (sliceBounds none none (some (-1)) 3).2.2 = [2, 1, 0]
    decide +kernel]
  rfl
theorem segK {w : World} {A : Around} {n : Nat} {mg mb : Str → Option Value} {s₀ s : Shared} {led : Led} {gs : GL} {Q : Flow → Shared → Prop} {L cD cC cS cO cL cT cR cH cM cQ lc DT Dg lcl : Addr} {m : Made} {ls : List (List Int)} {srt : List Int → List Int} {cs ns : List Nat} {cv vc gv : List Value} {c6 : Nat} (G : GG w mg mb s₀.heap) (hA : AOk A (n + 8))
    (H : Inn s₀ ((L, nsC [(Str.ofString "counts", .ref lc), (Str.ofString "lights", .ref DT), (Str.ofString "good", .ref Dg)]) :: (cC, celC (some (.ref lcl))) :: (lcl, lstC vc) :: (lc, lstC cv) :: (Dg, lstC gv) :: (DT, lstC (refs m)) :: (lRows m ++ led)) gs s)
    (hm : Paired isLt ls m) (hn : m.length ≤ 100) (h3 : ∀ l ∈ ls, l.length = 3) (hlt : ∀ l ∈ ls, LtOk l (srt l)) (hcs : Paired isN cs cv) (hc4 : cs.length = 4) (hc9 : ∀ c ∈ cs, c ≤ 100) (hc : Paired isN ns vc) (hc6 : ns[6]? = some c6)
    (k : ∀ (D : Addr) (lv : List Value) (s' : Shared), Paired isS (ls.mapIdx fun i l => lineS cs c6 i (srt l)) lv → Inn s₀ ((L, nsC [(Str.ofString "lights", .ref DT), (Str.ofString "good", .ref Dg), (Str.ofString "lines", .ref D)]) :: (D, lstC lv) :: (Dg, lstC gv) :: (DT, lstC (refs m)) :: (lRows m ++ led)) gs s' → Q .next s') :
    wpAny (MM w) A (execs [st18, st19] (lenv L cD cC cS cO cL cT cR cH cM cQ)) Q (fun _ _ => False) s := by
  unfold st18 st19 pickSt
  repeat' cell_call
  obtain ⟨E1, rfl⟩ : ∃ J, J = D := ⟨_, rfl⟩
  obtain ⟨DN, rfl⟩ : ∃ J, J = D := ⟨_, rfl⟩
  have hlm : m.length = ls.length := hm.length.symm
  refine' for_ix (n := ls.length) (fun i s => ∃ lv, Paired isS ((ls.mapIdx fun i l => lineS cs c6 i (srt l)).take i) lv ∧ Inn s₀ ((E1, enC I i) :: (I, liC DT i) :: (L, nsC [(Str.ofString "counts", .ref lc), (Str.ofString "lights", .ref DT), (Str.ofString "good", .ref Dg), (Str.ofString "lines", .ref DN)]) :: (DN, lstC lv) :: (cC, celC (some (.ref lcl))) :: (lcl, lstC vc) :: (lc, lstC cv) :: (Dg, lstC gv) :: (DT, lstC (refs m)) :: (lRows m ++ led)) gs s) ?turn ?done ?h0
  case h0 =>
    have H := H.prune (L := L) (l' := [(Str.ofString "counts", .ref lc), (Str.ofString "lights", .ref DT), (Str.ofString "good", .ref Dg), (Str.ofString "lines", .ref DN)]) (by tb_rel) (by tb_rel)
    exact ⟨[], .nil, H.pick (by tb_rel)⟩
  case done =>
    clear H; rintro s ⟨lv, hlv, H⟩
    refine' nx_enum_end (vs := refs m) (l := DT) H hA (fun s H => ⟨rfl, ?_⟩) .all ?oe1 (by rw [refs_len]; omega)
    case oe1 => tb_rel
    repeat' cell_call
    rw [show (ls.mapIdx fun i l => lineS cs c6 i (srt l)).take ls.length = ls.mapIdx fun i l => lineS cs c6 i (srt l) from List.take_of_length_le (by rw [List.length_mapIdx]; exact Nat.le_refl _)] at hlv
    have H := H.prune (L := L) (l' := [(Str.ofString "lights", .ref DT), (Str.ofString "good", .ref Dg), (Str.ofString "lines", .ref DN)]) (by tb_rel) (by tb_rel)
    exact k DN lv s hlv (H.pick (by tb_rel))
  case turn =>
    clear H; rintro i s hi ⟨lv, hlv, H⟩
    obtain ⟨p, hp, hpt⟩ := paired_get' hm (List.getElem?_eq_getElem hi)
    have hrf : (refs m)[i]? = some (.ref p.1) := by unfold refs; rw [List.getElem?_map, hp]; rfl
    have hl3 := h3 ls[i] (List.getElem_mem hi)
    have hok := hlt ls[i] (List.getElem_mem hi)
    have hil : i < (ls.mapIdx fun i l => lineS cs c6 i (srt l)).length := by rw [List.length_mapIdx]; exact hi
    rw [List.take_succ_eq_append_getElem hil, List.getElem_mapIdx]
    generalize ls[i] = l at hpt hl3 hok ⊢
    intro Rq hRq
    obtain ⟨pa, pvs⟩ := p
    obtain ⟨a, b, c, ta, tb, tc, rfl, hpv⟩ := three_of hl3 hpt
    dsimp only at hpv hrf hp
    subst hpv
    have hpr : Row pa (lstC [.int a ta, .int b tb, .int c tc]) (lRows m ++ led) := Row.of_mem (List.mem_append_left _ (mem_lRows (List.mem_of_getElem? hp)))
    have f1 : ¬Float64.isInf (Float64.ofFrac (decide (a < 0) != decide ((16 : Int) < 0)) a.natAbs (16 : Int).natAbs) = true := by
      have := hok.inf a (by simp)
      unfold sx at this; rw [this]; decide
    have f2 : ¬Float64.isInf (Float64.ofFrac (decide (b < 0) != decide ((16 : Int) < 0)) b.natAbs (16 : Int).natAbs) = true := by
      have := hok.inf b (by simp)
      unfold sx at this; rw [this]; decide
    have f3 : ¬Float64.isInf (Float64.ofFrac (decide (c < 0) != decide ((16 : Int) < 0)) c.natAbs (16 : Int).natAbs) = true := by
      have := hok.inf c (by simp)
      unfold sx at this; rw [this]; decide
    refine' nx_enum (vs := refs m) (l := DT) H (fun T t s H => ?_) .all ?rw hrf
    case rw => tb_rel
    refine go_enum H (fun s H => ?_) (.tail .head)
    refine as_tuple H hA (fun s H => ?_) .head rfl rfl
    repeat' cell_call
    refine hsv_ct (r := sx a) (g := sx b) (b := sx c) G (hA.le (Nat.add_le_add_left (by decide) n : n + 3 ≤ n + 8)) H ?hz1 (fun D' s u1 u2 u3 H => ?_)
    case hz1 =>
      intro hcf
      have hv : hsvOk (sx a) (sx b) (sx c) = true := hok.hsv
      unfold hsvOk at hv
      rw [hcf, Bool.false_or, Bool.and_eq_true, Bool.not_eq_true', Bool.not_eq_true'] at hv
      exact hv
    repeat' cell_call
    have hsome : ∀ x, (pOut x).isSome = true → pOut x = some ((pOut x).getD 0) := fun x h => by
      obtain ⟨v, e⟩ := Option.isSome_iff_exists.mp h; rw [e]; rfl
    refine parts_ct (f := fun x => (pOut x).getD 0) G (hA.le (Nat.add_le_add_left (by decide) n : n + 3 ≤ n + 8)) H (fun x hx => hsome x (hok.p1 x hx)) (fun Dp vp s hvp H => ?_)
    replace hvp : Paired isI ((srt [a, b, c]).map (65536 * ·)) vp := by
      have := paired_map (F := isI) pv hvp
      rw [← hok.q1]; exact this
    repeat' cell_call
    refine hls_ct (r := sx a) (g := sx b) (b := sx c) G (hA.le (Nat.add_le_add_left (by decide) n : n + 3 ≤ n + 8)) H hok.hls (fun D2 s w1 w2 w3 H => ?_)
    repeat' cell_call
    refine parts_ct (f := fun x => (pOut x).getD 0) G (hA.le (Nat.add_le_add_left (by decide) n : n + 3 ≤ n + 8)) H (fun x hx => hsome x (hok.p2 x hx)) (fun Dq vq s hvq H => ?_)
    replace hvq : Paired isI ((srt [a, b, c]).map (65536 * ·)) vq := by
      have := paired_map (F := isI) pv hvq
      rw [← hok.q2]; exact this
    repeat' cell_call
    refine wpAny_isTrue_BoolOp (or_cons ?_)
    repeat' cell_call
    refine' c_sorted H (fun Ds out ns' s hout hperm hsort H => ?_) ?rs hpt (by show 3 < 64; decide)
    case rs => tb_rel
    have hns : ns' = (srt [a, b, c]).reverse := sorted_uniq (hperm.trans hok.perm.symm) hsort hok.sorted
    subst hns
    have hol : out.length = 3 := by rw [← hout.length, List.length_reverse, hok.len]
    repeat' cell_call
    refine' sl_list3 H (fun Dr s H => ?_) (r := ?rsl) .head .none .none (.int _ _) (by decide) (by rw [hol]; decide) (by with_unfolding_all rfl)
    case rsl => tb_rel
    have hrev := pick_ints hout none none (some (-1))
    rw [show pickNums (srt [a, b, c]).reverse none none (some (-1)) = srt [a, b, c] from by
      have := hok.len
      match srt [a, b, c], this with
      | [x, y, z], _ => exact pick_rev3 z y x] at hrev
    generalize (slicePick out.toArray none none (some (-1))).toList = rv at hrev H
    have hrz : rv.length ≤ sizeLine := by rw [← hrev.length, hok.len]; decide
    repeat' cell_call
    refine' LF_list0 (w := w) (fun (x : Int) v => isI (65536 * x) v) hrev hA H ?rL rfl (by kernel_rfl!) hrz (fun x v lc2 ii ys s hx hf H => ?hG) (fun lc2 ys s hP H => ?hK)
    case rL => tb_rel
    case hG =>
      obtain ⟨tv, rfl⟩ := hf
      repeat' cell_call
      exact ⟨⟨_, rfl⟩, H⟩
    case hK =>
      refine cp_none H (fun s H => ?_) .head
      have hP2 := paired_map (F := isI) (fun x : Int => 65536 * x) hP
      repeat' cell_call
      refine' l_ne_same eqI hA H ?rp1 .head hvp hP2 ?kk1
      case rp1 => tb_rel
      repeat' cell_call
      refine or_cons ?_
      repeat' cell_call
      refine' l_ne_same eqI hA H ?rp2 ?rp3 hvq hvp ?kk2
      case rp2 => tb_rel
      case rp3 => tb_rel
      repeat' cell_call
      refine or_nil ?_
      refine if_ff ?_
      cell_call
      cell_call
      have hlvz : lv.length ≤ 1000 := by rw [← hlv.length, List.length_take]; exact Nat.le_trans (Nat.min_le_left ..) (by omega)
      have H := H.prune (L := L) (l' := [(Str.ofString "place", .int i _), (Str.ofString "parts", .ref Dp), (Str.ofString "counts", .ref lc), (Str.ofString "lights", .ref DT), (Str.ofString "good", .ref Dg), (Str.ofString "lines", .ref DN)]) (by tb_rel) (by tb_rel)
      refine segK2 (led := (E1, enC I (i + 1)) :: (I, liC DT (i + 1)) :: (Dg, lstC gv) :: (DT, lstC (refs m)) :: (lRows m ++ led)) G hA (H.pick (by tb_rel)) hvp hok.len hok.bd hcs hc4 hc9 hc hc6 hlvz (fun t s H => ?_)
      refine hRq.go _ _ ?_
      exact ⟨_, hlv.snoc ⟨t, rfl⟩, H.pick (by tb_rel)⟩
end
/-! ### L14 -/
section
noncomputable def st20 : Stmt := pickSt (k := 20) _ rfl
noncomputable def st21 : Stmt := pickSt (k := 21) _ rfl
noncomputable def st22 : Stmt := pickSt (k := 22) _ rfl
theorem range_getD (f : Str → Str) (l : List Str) : (List.range l.length).map (fun i : Nat => f (l.getD i (Str.ofString ""))) = l.map f := by
  refine List.ext_getElem (by simp) fun i h1 h2 => ?_
  rw [List.getElem_map, List.getElem_map, List.getElem_range]
  have : i < l.length := by simpa using h2
  rw [List.getD_eq_getElem?_getD, List.getElem?_eq_getElem this]; rfl
theorem segL {w : World} {A : Around} {n : Nat} {mg mb : Str → Option Value} {s₀ s : Shared} {led : Led} {Q : Flow → Shared → Prop} {L cD cC cS cO cL cT cR cH cM cQ DT Dg DN : Addr} {lines : List Str} {goods : List Bool} {lv gv : List Value} (G : GG w mg mb s₀.heap) (hA : AOk A (n + 10))
    (H : Inn s₀ ((L, nsC [(Str.ofString "lights", .ref DT), (Str.ofString "good", .ref Dg), (Str.ofString "lines", .ref DN)]) :: (DN, lstC lv) :: (Dg, lstC gv) :: led) [] s)
    (hlv : Paired isS lines lv) (hgv : Paired isB goods gv) (hn : lines.length = goods.length) (hn1 : lines.length ≤ 100) (hlo : ∀ x ∈ lines, LineOk x) (hchk : lines.map chkS = goods)
    (k : ∀ (s' : Shared), Inn s₀ ((L, nsC [(Str.ofString "lights", .ref DT), (Str.ofString "good", .ref Dg)]) :: (Dg, lstC gv) :: led) [] s' → Q .next s') :
    wpAny (MM w) A (execs [st20, st21, st22] (lenv L cD cC cS cO cL cT cR cH cM cQ)) Q (fun _ _ => False) s := by
  unfold st20 st21 st22 pickSt
  repeat' cell_call
  have hlz : lv.length ≤ sizeLine := by rw [← hlv.length]; exact Nat.le_trans hn1 (by decide)
  refine' sl_list H (fun Dh s H => ?_) (r := ?rsl) .head .none .none .none (by decide) hlz (by with_unfolding_all rfl)
  case rsl => tb_rel
  rw [show (slicePick lv.toArray none none none).toList = lv from by rw [slicePick_all]] at H
  repeat' cell_call
  refine' pre_ct G hA H ?rp hlv (by rw [← hlv.length]; exact hn1) hlo (fun Dk kv s hkv H => ?_)
  case rp => tb_rel
  repeat' cell_call
  refine wpAny_isTrue_BoolOp (or_cons ?_)
  repeat' cell_call
  refine' mk_zip (xs := lv) (ys := gv) H ?r1 ?r2 (fun z TI TO i1 i2 s H => ?_)
  case r1 => tb_rel
  case r2 => tb_rel
  repeat' cell_call
  have hgl : gv.length = lines.length := by rw [← hgv.length, hn]
  have hll : lv.length = lines.length := hlv.length.symm
  refine' it_zip H ⟨_, _, H, fun D C s H => ?_⟩ ?rz
  case rz => tb_rel
  replace H : Inn s₀ ((C, nsC []) :: (z, zpC TI TO .none) :: (TI, prC (.ref i1) (.ref i2)) :: (TO, toC) :: (i1, liC DN 0) :: (i2, liC Dg 0) :: (D, lstC []) :: (Dk, lstC kv) :: (Dh, lstC lv) :: (L, nsC [(Str.ofString "kept", .ref Dk), (Str.ofString "handed", .ref Dh), (Str.ofString "lights", .ref DT), (Str.ofString "good", .ref Dg), (Str.ofString "lines", .ref DN)]) :: (DN, lstC lv) :: (Dg, lstC gv) :: led) [] s := (H.prune (L := L) (l' := [(Str.ofString "kept", .ref Dk), (Str.ofString "handed", .ref Dh), (Str.ofString "lights", .ref DT), (Str.ofString "good", .ref Dg), (Str.ofString "lines", .ref DN)]) (by tb_rel) (by tb_rel)).pick (by tb_rel)
  refine' LF (fun i => true) (fun i v => isS (keptS (lines.getD i (Str.ofString ""))) v) (src_zip (xs := lv) (ys := gv) (z := z) (TI := TI) (TO := TO) (i1 := i1) (i2 := i2) (l1 := DN) (l2 := Dg) hA rfl rfl (by kernel_rfl!) (by kernel_rfl!) (by omega)) (led := (Dk, lstC kv) :: (Dh, lstC lv) :: (L, nsC [(Str.ofString "kept", .ref Dk), (Str.ofString "handed", .ref Dh), (Str.ofString "lights", .ref DT), (Str.ofString "good", .ref Dg), (Str.ofString "lines", .ref DN)]) :: (DN, lstC lv) :: (Dg, lstC gv) :: led) (fun ys' => ⟨by tb_rel, by tb_rel⟩) (by rw [hgl]; exact Nat.le_trans hn1 (by decide)) H
      (fun i b lc3 zs s hi hB H => wpAny_tests_nil ⟨rfl, H⟩) (fun i b lc3 zs s hi hB hpi H => ?hG2) (fun lc3 zs s hP2 H => ?hK2)
  case hG2 =>
    obtain ⟨v1, u1, e1, e2, rfl⟩ := hB
    have hil : i < lines.length := by omega
    have hig : i < goods.length := by omega
    obtain ⟨v1', e3, t1, rfl⟩ := paired_get' hlv (List.getElem?_eq_getElem hil)
    rw [e1] at e3; injection e3 with e3; subst e3
    obtain ⟨u1', e4, hu⟩ := paired_get' hgv (List.getElem?_eq_getElem hig)
    rw [e2] at e4; injection e4 with e4; subst e4
    unfold isB at hu
    subst hu
    have hgi : goods[i] = chkS lines[i] := by
      have : (lines.map chkS)[i]'(by rw [List.length_map]; exact hil) = goods[i] := by simp only [hchk]
      rw [← this, List.getElem_map]
    have hLg : lines.getD i (Str.ofString "") = lines[i] := by rw [List.getD_eq_getElem?_getD, List.getElem?_eq_getElem hil]; rfl
    rw [hLg]
    replace H : Inn s₀ ((C, nsC ((Str.ofString "fit", .bool goods[i]) :: (Str.ofString "line", .str lines[i] t1) :: lc3)) :: (z, zpC TI TO .none) :: (TI, prC (.ref i1) (.ref i2)) :: (TO, toC) :: (i1, liC DN (i + 1)) :: (i2, liC Dg (i + 1)) :: (D, lstC zs) :: (Dk, lstC kv) :: (Dh, lstC lv) :: (L, nsC [(Str.ofString "kept", .ref Dk), (Str.ofString "handed", .ref Dh), (Str.ofString "lights", .ref DT), (Str.ofString "good", .ref Dg), (Str.ofString "lines", .ref DN)]) :: (DN, lstC lv) :: (Dg, lstC gv) :: led) [] s := H
    rw [hgi] at H ⊢
    generalize lines[i] = x at H ⊢
    repeat' cell_call
    cases hb : chkS x <;> rw [hb] at H
    · rw [show keptS x = badS from by unfold keptS; rw [hb]; rfl]
      repeat' cell_call
      exact ⟨⟨_, rfl⟩, H⟩
    · rw [show keptS x = x from by unfold keptS; rw [hb]; rfl]
      repeat' cell_call
      exact ⟨⟨_, rfl⟩, H⟩
  case hK2 =>
    refine cp_none H (fun s H => ?_) .head
    rw [hgl, List.filter_eq_self.mpr (fun _ _ => rfl)] at hP2
    have hP3 := paired_map (F := isS) (fun i : Nat => keptS (lines.getD i (Str.ofString ""))) hP2
    rw [range_getD keptS lines] at hP3
    repeat' cell_call
    refine' l_ne_same eqS hA H ?rp1 .head hkv hP3 ?kk1
    case rp1 => tb_rel
    repeat' cell_call
    refine or_cons ?_
    repeat' cell_call
    refine' l_ne_same eqS hA H ?rp2 ?rp3 hlv hlv ?kk2
    case rp2 => tb_rel
    case rp3 => tb_rel
    repeat' cell_call
    refine or_nil ?_
    repeat' cell_call
    have H := H.prune (L := L) (l' := [(Str.ofString "lights", .ref DT), (Str.ofString "good", .ref Dg)]) (by tb_rel) (by tb_rel)
    exact k _ (H.pick (by tb_rel))
end
/-! ### L15 -/
section
noncomputable def st23 : Stmt := pickSt (k := 23) _ rfl
noncomputable def tup3 (l : List Int) : Int × Int × Int := (l.getD 0 0, l.getD 1 0, l.getD 2 0)
theorem segM {w : World} {A : Around} {n : Nat} {mg mb : Str → Option Value} {s₀ s : Shared} {led : Led} {gs : GL} {Q : Flow → Shared → Prop} {L cD cC cS cO cL cT cR cH cM cQ DT Dg lr : Addr} {m : Made} {ls : List (List Int)} {rows : List Str} {goods : List Bool} {gv rvs : List Value} (G : GG w mg mb s₀.heap) (hA : AOk A (n + 10))
    (H : Inn s₀ ((L, nsC [(Str.ofString "lights", .ref DT), (Str.ofString "good", .ref Dg)]) :: (cR, celC (some (.ref lr))) :: (lr, lstC rvs) :: (Dg, lstC gv) :: (DT, lstC (refs m)) :: (lRows m ++ led)) gs s)
    (hm : Paired isLt ls m) (hn : m.length ≤ 100) (h3 : ∀ l ∈ ls, l.length = 3) (hgv : Paired isB goods gv) (hrv : Paired isS rows rvs) (hlen : ∀ r ∈ rows, 1 ≤ r.length ∧ r.length ≤ 3) (hrn : rvs.length ≤ 100) (hr1 : rows ≠ [])
    (hok : ∀ l ∈ ls, okL (rows.map (·.length)) (tup3 l) = true) (htk : ls.map (fun l => takenL (rows.map (·.length)) (tup3 l)) = goods)
    (k : ∀ (s' : Shared), Inn s₀ [] gs s' → Q (.ret (.bool true)) s') :
    wpAny (MM w) A (execs [st23] (lenv L cD cC cS cO cL cT cR cH cM cQ)) Q (fun _ _ => False) s := by
  unfold st23 pickSt
  repeat' cell_call
  have hrz : (refs m).length ≤ sizeLine := by rw [refs_len]; exact Nat.le_trans hn (by decide)
  refine' LF_list0 (w := w) (fun (x : List Int × (Addr × List Value)) v => isB (takenL (rows.map (·.length)) (tup3 x.1)) v) (zip_refs hm) hA H ?ur rfl (by kernel_rfl!) hrz (fun x v lc2 i ys s hx hf H => ?hG) (fun lc2 ys s hP H => ?hK)
  case ur => tb_rel
  case hG =>
    subst hf
    obtain ⟨l, pa, pv⟩ := x
    obtain ⟨hl, hl2, hl3⟩ := zip_mem hm _ hx
    have hokl := hok _ hl2
    obtain ⟨a, b, c, ta, tb, tc, rfl, hpv⟩ := three_of (h3 _ hl2) hl
    dsimp only at hpv hl3 hl2
    subst hpv
    have hpr : Row pa (lstC [.int a ta, .int b tb, .int c tc]) (lRows m ++ led) := Row.of_mem (List.mem_append_left _ (mem_lRows hl3))
    repeat' cell_call
    refine' taken_ct (a := a) (b := b) (c := c) (rows := rows) G (hA.le (Nat.le_refl _ : (n + 4) + 6 ≤ n + 10)) H ?rt1 ?rt2 hrv hlen hrn (fun h0 => ?z0) hokl (fun s H => ⟨rfl, H⟩)
    case rt1 => repeat (first | exact hpr | refine Row.tail ?_)
    case rt2 => tb_rel
    case z0 =>
      rw [← hrv.length] at h0
      exact absurd (List.length_eq_zero_iff.mp h0) hr1
  case hK =>
    refine cp_none H (fun s H => ?_) .head
    have hP2 := paired_map (F := fun b v => isB b v) (fun x : List Int × (Addr × List Value) => takenL (rows.map (·.length)) (tup3 x.1)) hP
    rw [show (ls.zip m).map (fun x : List Int × (Addr × List Value) => takenL (rows.map (·.length)) (tup3 x.1)) = goods from by
      rw [← htk]
      conv => rhs; rw [← zip_fst hm]
      rw [List.map_map]; rfl] at hP2
    repeat' cell_call
    refine' l_eq_same eqB hA H .head ?rp1 hP2 hgv ?kk1
    case rp1 => tb_rel
    repeat' cell_call
    exact k s (H.pick .nil)
end
/-! ### W2 -/
section
/-- a long list, looked through in two parts -/
theorem all_cut {α : Type} {p : α → Bool} {l : List α} (n : Nat) (h1 : (l.take n).all p = true) (h2 : (l.drop n).all p = true) : l.all p = true := by rw [← List.take_append_drop n l, List.all_append, h1, h2]; rfl
noncomputable abbrev Sh := List (Nat × Bool)
noncomputable def shOf (ps : List Pc) : Sh := ps.map fun p => (p.1.length, p.2)
noncomputable def canF : Nat → Sh → List Pc
  | _, [] => []
  | a, (n, b) :: r => (List.range' a n, b) :: canF (a + n) r
noncomputable def mapP (f : Nat → Nat) (ps : List Pc) : List Pc := ps.map fun p => (p.1.map f, p.2)
theorem canF_eq (f : Nat → Nat) : ∀ (ps : List Pc) (a : Nat), (∀ i (h : i < (wholeOf ps).length), f (a + i) = (wholeOf ps)[i]) → ps = mapP f (canF a (shOf ps))
  | [], _, _ => rfl
  | p :: r, a, h => by
    have hw : wholeOf (p :: r) = p.1 ++ wholeOf r := rfl
    have e1 : (List.range' a p.1.length).map f = p.1 := by
      refine List.ext_getElem (by simp) fun i h1 h2 => ?_
      rw [List.getElem_map, List.getElem_range']
      have := h i (by rw [hw, List.length_append]; omega)
      rw [Nat.one_mul, this]
      simp only [hw]
      exact List.getElem_append_left h2
    have e2 := canF_eq f r (a + p.1.length) fun i hi => by
      have := h (p.1.length + i) (by rw [hw, List.length_append]; omega)
      rw [Nat.add_assoc, this]
      simp only [hw]
      rw [List.getElem_append_right (by omega)]
      congr 1; omega
    show p :: r = ((List.range' a p.1.length).map f, p.2) :: mapP f (canF (a + p.1.length) (shOf r))
    rw [e1, ← e2]
theorem tot_mapP (f : Nat → Nat) (ps : List Pc) : tot (mapP f ps) = tot ps := by
  unfold tot mapP; rw [List.map_map]; congr 1
  exact List.map_congr_left fun p _ => by simp
theorem stp_mapP (f : Nat → Nat) (ps : List Pc) : stp (mapP f ps) = stp ps := by
  unfold stp
  rw [show (mapP f ps).length = ps.length from by unfold mapP; rw [List.length_map]]
  refine List.map_congr_left fun i _ => ?_
  rw [← tot_mapP f (ps.take i)]
  unfold mapP; rw [List.map_take]
theorem whole_mapP (f : Nat → Nat) (ps : List Pc) : wholeOf (mapP f ps) = (wholeOf ps).map f := by
  unfold wholeOf mapP; rw [List.map_map, List.map_flatten, List.map_map]; rfl
theorem whole_can : ∀ (sh : Sh) (a : Nat), wholeOf (canF a sh) = List.range' a (tot (canF a sh))
  | [], _ => rfl
  | (n, b) :: r, a => by
    have ih := whole_can r (a + n)
    show List.range' a n ++ wholeOf (canF (a + n) r) = List.range' a ((List.range' a n).length + tot (canF (a + n) r))
    rw [ih, List.length_range', List.range'_append_1]
/-- one step of _max_append, in lists -/
noncomputable def stepR (rows : List (List Nat)) (flag : Bool) (l : List Nat) : List (List Nat) :=
  match rows.reverse with
  | [] => [l]
  | y :: r => if y.length + ((if flag = true then 2 else 0) + l.length) ≤ 3 then r.reverse ++ [y ++ l] else rows ++ [l]
noncomputable def eL (starts : List Nat) : List Pc → List Nat → List (List Nat) → List (List Nat)
  | p :: ps, f :: fs, rows => eL starts ps fs (stepR rows (starts.contains f && !p.2) p.1)
  | _, _, rows => rows
theorem pref_mk : prefS = mk [32, 9] := by decide +kernel
theorem az_nospace {l : List Nat} (h : AZ l) : ∀ c ∈ l, Unicode.isSpace c = false := fun c hc => let_sp (.inl (.inr (h c hc)))
theorem maxA_mk {rows : List (List Nat)} {l : List Nat} {flag : Bool} (hr : ∀ y ∈ rows, 1 ≤ y.length) (hl : 1 ≤ l.length) (haz : AZ l) :
    maxA (rows.map mk) (if flag = true then prefS ++ mk l else mk l) = (stepR rows flag l).map mk := by
  have hs : Txt.lstrip (if flag = true then prefS ++ mk l else mk l) = mk l := by
    cases flag
    · rw [if_neg (by decide)]
      have := lstrip_cut (sp := []) (l := l) (fun _ h => nomatch h) (az_nospace haz)
      rwa [List.nil_append] at this
    · rw [if_pos rfl, pref_mk, mk_app]
      exact lstrip_cut (sp := [32, 9]) (by decide +kernel) (az_nospace haz)
  have hlen : (if flag = true then prefS ++ mk l else mk l).length = (if flag = true then 2 else 0) + l.length := by
    cases flag
    · rw [if_neg (by decide), if_neg (by decide), mk_len]; omega
    · rw [if_pos rfl, if_pos rfl, app_len, mk_len, pref_mk, mk_len]; rfl
  unfold maxA stepR
  rw [← List.map_reverse]
  cases hrev : rows.reverse with
  | nil =>
    show [Txt.lstrip _] = _
    rw [hs]; rfl
  | cons y r =>
    have hy : 1 ≤ y.length := hr y (by rw [← List.mem_reverse, hrev]; exact List.mem_cons_self)
    show (if (mk y).length + _ ≤ 3 then (r.map mk).reverse ++ [mk y ++ _] else rows.map mk ++ [Txt.lstrip _]) = (if y.length + ((if flag = true then 2 else 0) + l.length) ≤ 3 then r.reverse ++ [y ++ l] else rows ++ [l]).map mk
    rw [hlen, mk_len, hs]
    by_cases hle : y.length + ((if flag = true then 2 else 0) + l.length) ≤ 3
    · rw [if_pos hle, if_pos hle]
      cases flag
      · rw [if_neg (by decide), mk_app, List.map_append, List.map_reverse]; rfl
      · rw [if_pos rfl] at hle; omega
    · rw [if_neg hle, if_neg hle, List.map_append]; rfl
theorem stepR_pos {rows : List (List Nat)} {l : List Nat} {flag : Bool} (hr : ∀ y ∈ rows, 1 ≤ y.length) (hl : 1 ≤ l.length) : ∀ y ∈ stepR rows flag l, 1 ≤ y.length := by
  unfold stepR
  cases hrev : rows.reverse with
  | nil => intro y hy; rw [List.mem_singleton.mp hy]; exact hl
  | cons z r =>
    have hmem : ∀ y ∈ z :: r, y ∈ rows := fun y hy => by rw [← List.mem_reverse, hrev]; exact hy
    show ∀ y ∈ (if z.length + ((if flag = true then 2 else 0) + l.length) ≤ 3 then r.reverse ++ [z ++ l] else rows ++ [l]), 1 ≤ y.length
    intro y hy
    by_cases hle : z.length + ((if flag = true then 2 else 0) + l.length) ≤ 3
    · rw [if_pos hle] at hy
      rcases List.mem_append.mp hy with hy | hy
      · exact hr y (hmem y (List.mem_cons_of_mem _ (List.mem_reverse.mp hy)))
      · rw [List.mem_singleton.mp hy, List.length_append]; omega
    · rw [if_neg hle] at hy
      rcases List.mem_append.mp hy with hy | hy
      · exact hr y hy
      · rw [List.mem_singleton.mp hy]; exact hl
theorem eRun_mk (starts : List Nat) : ∀ (ps : List Pc) (fs : List Nat) (rows : List (List Nat)), (∀ p ∈ ps, PcOk p) → (∀ y ∈ rows, 1 ≤ y.length) → eRun starts ps fs (rows.map mk) = (eL starts ps fs rows).map mk
  | [], fs, rows, _, _ => by cases fs <;> rfl
  | p :: ps, [], rows, _, _ => rfl
  | p :: ps, f :: fs, rows, h, hr => by
    have hp := h p List.mem_cons_self
    show eRun starts ps fs (maxA (rows.map mk) (handE starts p f)) = (eL starts ps fs (stepR rows (starts.contains f && !p.2) p.1)).map mk
    unfold handE
    rw [maxA_mk hr hp.lo hp.az]
    exact eRun_mk starts ps fs _ (fun q hq => h q (List.mem_cons_of_mem _ hq)) (stepR_pos hr hp.lo)
theorem stepR_map (f : Nat → Nat) (rows : List (List Nat)) (flag : Bool) (l : List Nat) : stepR (rows.map (List.map f)) flag (l.map f) = (stepR rows flag l).map (List.map f) := by
  unfold stepR
  rw [← List.map_reverse]
  cases rows.reverse with
  | nil => rfl
  | cons y r =>
    show (if (y.map f).length + _ ≤ 3 then (r.map (List.map f)).reverse ++ [y.map f ++ l.map f] else rows.map (List.map f) ++ [l.map f]) = (if y.length + ((if flag = true then 2 else 0) + l.length) ≤ 3 then r.reverse ++ [y ++ l] else rows ++ [l]).map (List.map f)
    rw [List.length_map, List.length_map]
    by_cases hle : y.length + ((if flag = true then 2 else 0) + l.length) ≤ 3
    · rw [if_pos hle, if_pos hle, List.map_append, List.map_reverse]; simp
    · rw [if_neg hle, if_neg hle, List.map_append]; rfl
theorem eL_map (f : Nat → Nat) (starts : List Nat) : ∀ (ps : List Pc) (fs : List Nat) (rows : List (List Nat)), eL starts (mapP f ps) fs (rows.map (List.map f)) = (eL starts ps fs rows).map (List.map f)
  | [], fs, rows => by cases fs <;> rfl
  | p :: ps, [], rows => rfl
  | p :: ps, g :: fs, rows => by
    show eL starts (mapP f ps) fs (stepR (rows.map (List.map f)) (starts.contains g && !p.2) (p.1.map f)) = _
    rw [stepR_map, eL_map f starts ps fs]; rfl
theorem dRun_map (f : Nat → Nat) (W stops : List Nat) : ∀ n, dRun (W.map f) stops n = ((dRun W stops n).1.map (List.map f), (dRun W stops n).2)
  | 0 => rfl
  | n + 1 => by
    show dStep (W.map f) stops (dRun (W.map f) stops n) = _
    rw [dRun_map f W stops n]
    show _ = ((dStep W stops (dRun W stops n)).1.map (List.map f), (dStep W stops (dRun W stops n)).2)
    generalize dRun W stops n = q
    unfold dStep
    dsimp only
    rw [← List.map_flatten, List.length_map, List.length_map]
    split
    · rw [List.map_append, ← List.map_drop, ← List.map_take]; rfl
    · rfl
noncomputable def kinds : List (Nat × Bool) := [(1, true), (1, false), (2, false), (3, false)]
noncomputable def gen : Nat → Nat → List Sh
  | 0, _ => [[]]
  | k + 1, rem => [] :: (kinds.filter fun x => decide (x.1 ≤ rem)).flatMap fun x => (gen k (rem - x.1)).map (x :: ·)
theorem mem_gen : ∀ (sh : Sh) (k rem : Nat), sh.length ≤ k → (sh.map (·.1)).sum ≤ rem → (∀ x ∈ sh, x ∈ kinds) → sh ∈ gen k rem
  | [], 0, _, _, _, _ => List.mem_cons_self
  | [], k + 1, _, _, _, _ => List.mem_cons_self
  | x :: r, 0, _, h, _, _ => by cases h
  | x :: r, k + 1, rem, h, hs, hk => by
    have hs' : x.1 + (r.map (·.1)).sum ≤ rem := by simpa using hs
    refine List.mem_cons_of_mem _ (List.mem_flatMap.mpr ⟨x, List.mem_filter.mpr ⟨hk x List.mem_cons_self, decide_eq_true (by omega)⟩, List.mem_map.mpr ⟨r, ?_, rfl⟩⟩)
    exact mem_gen r k _ (by simpa using h) (by omega) fun y hy => hk y (List.mem_cons_of_mem _ hy)
noncomputable def shOk (sh : Sh) : Bool :=
  let ps := canF 0 sh
  let st := stp ps
  let N := (sh.map (·.1)).sum
  let q := dRun (List.range N) st 6
  (eL q.2 ps st [] == q.1) && (q.1.all fun r => decide (1 ≤ r.length) && decide (r.length ≤ 3)) && (q.1.map (·.length)).sum == N && decide (q.1.length ≤ 6) && ((List.range N).all fun s => decide (s ≤ mxOf st (s + 3)))
end
/-! ### W2b -/
section
theorem all_sh : (gen 6 8).all shOk = true := all_cut 250 (by decide +kernel) (all_cut 250 (by decide +kernel) (all_cut 250 (by decide +kernel) (all_cut 250 (by decide +kernel) (all_cut 250 (by decide +kernel) (by decide +kernel)))))
end
/-! ### W3 -/
section
theorem pieces_len : ∀ (cs : List Nat) (ps : List Pc), tot ps ≤ 8 → (cs.foldl bStep ps).length ≤ ps.length + cs.length ∧ tot (cs.foldl bStep ps) ≤ 8 ∧ ps.length ≤ (cs.foldl bStep ps).length
  | [], ps, h => ⟨Nat.le_refl _, h, Nat.le_refl _⟩
  | c :: r, ps, h => by
    have h0 : tot (bStep ps c) ≤ 8 ∧ (bStep ps c).length ≤ ps.length + 1 ∧ ps.length ≤ (bStep ps c).length := by
      unfold bStep
      by_cases hle : tot ps + (1 + c % 3) ≤ 8
      · rw [if_pos hle]
        have hl : (pieceOf c).1.length = 1 + c % 3 := by unfold pieceOf; simp
        refine ⟨?_, by simp, by simp⟩
        unfold tot at hle ⊢
        rw [List.map_append, List.sum_append]; simp [hl]; omega
      · rw [if_neg hle]; exact ⟨h, by omega, Nat.le_refl _⟩
    obtain ⟨h1, h2, h3⟩ := pieces_len r (bStep ps c) h0.1
    rw [List.foldl_cons, List.length_cons]
    exact ⟨by omega, h2, by omega⟩
theorem pieces_ne {cs : List Nat} (h : cs ≠ []) : 1 ≤ (piecesOf cs).length := by
  cases cs with
  | nil => exact absurd rfl h
  | cons c r =>
    have h0 : (bStep [] c).length = 1 ∧ tot (bStep [] c) ≤ 8 := by
      unfold bStep
      have : tot [] + (1 + c % 3) ≤ 8 := by show 0 + _ ≤ 8; omega
      rw [if_pos this]
      have hl : (pieceOf c).1.length = 1 + c % 3 := by unfold pieceOf; simp
      refine ⟨rfl, ?_⟩
      show ((([] ++ [pieceOf c]) : List Pc).map fun p => p.1.length).sum ≤ 8
      simp [hl]; omega
    have := (pieces_len r (bStep [] c) h0.2).2.2
    show 1 ≤ (r.foldl bStep (bStep [] c)).length
    omega
/-- what stands of the pieces, the rows and the due rows -/
structure DueOk (ps : List Pc) : Prop where
  rows : eRun (dRun (wholeOf ps) (stp ps) 6).2 ps (stp ps) [] = (dRun (wholeOf ps) (stp ps) 6).1.map mk
  len : ∀ r ∈ (dRun (wholeOf ps) (stp ps) 6).1, 1 ≤ r.length ∧ r.length ≤ 3
  az : ∀ r ∈ (dRun (wholeOf ps) (stp ps) 6).1, AZ r
  sum : ((dRun (wholeOf ps) (stp ps) 6).1.map (·.length)).sum = tot ps
  n : (dRun (wholeOf ps) (stp ps) 6).1.length ≤ 6
  mx : ∀ st, st < (wholeOf ps).length → st ≤ mxOf (stp ps) (st + 3)
theorem one3 (n : Nat) (h : 1 ≤ n) (h2 : n ≤ 3) : n = 1 ∨ n = 2 ∨ n = 3 := (by decide : ∀ n, n < 4 → 1 ≤ n → n = 1 ∨ n = 2 ∨ n = 3) n (Nat.lt_succ_of_le h2) h
theorem sh_kinds {ps : List Pc} (h : ∀ p ∈ ps, PcOk p) : ∀ x ∈ shOf ps, x ∈ kinds := fun x hx => by
  obtain ⟨p, hp, rfl⟩ := List.mem_map.mp hx
  have hk := h p hp
  have h1 := hk.lo; have h2 := hk.hi; have h3 := hk.num
  cases hb : p.2
  · rcases one3 _ h1 h2 with e | e | e <;> rw [e] <;> decide
  · rw [h3 hb]; decide
theorem tot_sh (ps : List Pc) : ((shOf ps).map (·.1)).sum = tot ps := by
  unfold shOf tot; rw [List.map_map]; rfl
theorem due_ok {ps : List Pc} (h : ∀ p ∈ ps, PcOk p) (hn : ps.length ≤ 6) (ht : tot ps ≤ 8) : DueOk ps := by
  have hg := mem_gen (shOf ps) 6 8 (by unfold shOf; rw [List.length_map]; exact hn) (by rw [tot_sh]; exact ht) (sh_kinds h)
  have hok := List.all_eq_true.mp all_sh _ hg
  unfold shOk at hok
  rw [tot_sh] at hok
  have hps := canF_eq (fun i => (wholeOf ps).getD i 0) ps 0 fun i hi => by
    show (wholeOf ps).getD (0 + i) 0 = _
    rw [Nat.zero_add, List.getD_eq_getElem?_getD, List.getElem?_eq_getElem hi]; rfl
  have htc : tot (canF 0 (shOf ps)) = tot ps := by
    have := congrArg tot hps
    rw [tot_mapP] at this; exact this.symm
  have hwc : wholeOf (canF 0 (shOf ps)) = List.range (tot ps) := by
    rw [whole_can, htc, List.range_eq_range']
  have hst : stp (canF 0 (shOf ps)) = stp ps := by
    have := congrArg stp hps
    rw [stp_mapP] at this; exact this.symm
  have hwf : wholeOf ps = (List.range (tot ps)).map fun i => (wholeOf ps).getD i 0 := by
    have := congrArg wholeOf hps
    rw [whole_mapP, hwc] at this; exact this
  generalize (fun i => (wholeOf ps).getD i 0) = f at hps hwf
  dsimp only at hok
  rw [hst] at hok
  simp only [Bool.and_eq_true, beq_iff_eq] at hok
  obtain ⟨⟨⟨⟨k1, k2⟩, k3⟩, k4⟩, k5⟩ := hok
  have hd : dRun (wholeOf ps) (stp ps) 6 = ((dRun (List.range (tot ps)) (stp ps) 6).1.map (List.map f), (dRun (List.range (tot ps)) (stp ps) 6).2) := by
    rw [hwf]; exact dRun_map f _ _ 6
  have hwl : (wholeOf ps).length = tot ps := wholeOf_len ps
  have hlen : ∀ r ∈ (dRun (wholeOf ps) (stp ps) 6).1, 1 ≤ r.length ∧ r.length ≤ 3 := fun r hr => by
    rw [hd] at hr
    obtain ⟨q, hq, rfl⟩ := List.mem_map.mp hr
    have := List.all_eq_true.mp k2 q hq
    rw [Bool.and_eq_true, decide_eq_true_eq, decide_eq_true_eq] at this
    rw [List.length_map]; exact this
  refine ⟨?_, hlen, ?_, ?_, ?_, ?_⟩
  · have e1 := eRun_mk (dRun (wholeOf ps) (stp ps) 6).2 ps (stp ps) [] h (fun _ h => nomatch h)
    rw [show ([] : List (List Nat)).map mk = [] from rfl] at e1
    rw [e1]
    congr 1
    have e2 := eL_map f (dRun (wholeOf ps) (stp ps) 6).2 (canF 0 (shOf ps)) (stp ps) []
    rw [← hps, show ([] : List (List Nat)).map (List.map f) = [] from rfl] at e2
    rw [e2, hd]
    show (eL (dRun (List.range (tot ps)) (stp ps) 6).2 _ _ []).map _ = _
    rw [k1]
  · intro r hr x hx
    have hsub : x ∈ wholeOf ps := by
      have hfl : ∀ n, ∀ r ∈ (dRun (wholeOf ps) (stp ps) n).1, ∀ x ∈ r, x ∈ wholeOf ps := by
        intro n
        induction n with
        | zero => intro r hr; cases hr
        | succ n ih =>
          intro r hr x hx
          have hr' : r ∈ (dStep (wholeOf ps) (stp ps) (dRun (wholeOf ps) (stp ps) n)).1 := hr
          unfold dStep at hr'
          dsimp only at hr'
          split at hr'
          · rcases List.mem_append.mp hr' with hr' | hr'
            · exact ih r hr' x hx
            · rw [List.mem_singleton.mp hr'] at hx
              exact List.mem_of_mem_drop (List.mem_of_mem_take hx)
          · exact ih r hr' x hx
      exact hfl 6 r hr x hx
    unfold wholeOf at hsub
    obtain ⟨l, hl, hxl⟩ := List.mem_flatten.mp hsub
    obtain ⟨p, hp, rfl⟩ := List.mem_map.mp hl
    exact (h p hp).az x hxl
  · rw [hd]
    show (((dRun (List.range (tot ps)) (stp ps) 6).1.map (List.map f)).map (·.length)).sum = _
    rw [List.map_map]
    refine Eq.trans ?_ k3
    congr 1
    exact List.map_congr_left fun q _ => List.length_map ..
  · rw [hd]
    show ((dRun (List.range (tot ps)) (stp ps) 6).1.map (List.map f)).length ≤ 6
    rw [List.length_map]; exact of_decide_eq_true k4
  · intro st hst'
    have := List.all_eq_true.mp k5 st (List.mem_range.mpr (by omega))
    exact of_decide_eq_true this
end
/-! ### W4 -/
section
noncomputable def insD (x : Int) : List Int → List Int
  | [] => [x]
  | y :: r => if y ≤ x then x :: y :: r else y :: insD x r
noncomputable def srtD (l : List Int) : List Int := l.foldr insD []
noncomputable def permL (o : Nat) (t : T3) : List Int := (t3 (ordL.getD o (0, 0, 0))).map fun j => (t3 t).getD j.toNat 0
noncomputable def totA (N : Nat) : List T3 := totL N (N + 1) ++ (match totL N (N + 1) with | t :: _ => moreL t | [] => [])
noncomputable def sortedB : List Int → Bool
  | x :: y :: r => decide (x ≤ y) && sortedB (y :: r)
  | _ => true
noncomputable def hlsB (r g b : UInt64) : Bool := (Float64.cmp (fmin (fmin r g) b) (fmax (fmax r g) b) == some Ordering.eq) ||
  ((!hlsLow r g b || !Float64.isZero (Float64.add (fmax (fmax r g) b) (fmin (fmin r g) b))) && (hlsLow r g b || !Float64.isZero (Float64.sub (Float64.sub 0x4000000000000000 (fmax (fmax r g) b)) (fmin (fmin r g) b))) && !Float64.isZero (Float64.sub (fmax (fmax r g) b) (fmin (fmin r g) b)))
noncomputable def ltB (l : List Int) : Bool :=
  (l.all fun x => !Float64.isInf (sx x)) && hsvOk (sx (l.getD 0 0)) (sx (l.getD 1 0)) (sx (l.getD 2 0)) && hlsB (sx (l.getD 0 0)) (sx (l.getD 1 0)) (sx (l.getD 2 0)) &&
  ((pA (sx (l.getD 0 0)) (sx (l.getD 1 0)) (sx (l.getD 2 0))).all fun x => (pOut x).isSome) && ((pA (sx (l.getD 0 0)) (sx (l.getD 1 0)) (sx (l.getD 2 0))).map pv == (srtD l).map (65536 * ·)) &&
  ((pB (sx (l.getD 0 0)) (sx (l.getD 1 0)) (sx (l.getD 2 0))).all fun x => (pOut x).isSome) && ((pB (sx (l.getD 0 0)) (sx (l.getD 1 0)) (sx (l.getD 2 0))).map pv == (srtD l).map (65536 * ·))
noncomputable def lightsN (N : Nat) : List (List Int) := (totA N).flatMap fun t => (List.range 6).map fun o => permL o t
noncomputable def strongT (l : T3) : Int := if l.2.1 ≤ l.1 && l.2.2 ≤ l.1 then (if l.2.1 == l.1 && l.2.2 < l.1 then 1 else 0) else if l.2.2 ≤ l.2.1 then (if l.2.2 == l.2.1 then 2 else 1) else 2
noncomputable def weakT (l : T3) : Int := if l.2.1 ≤ l.1 && l.2.2 ≤ l.1 then (if l.2.2 ≤ l.2.1 then 2 else 1) else if l.2.2 ≤ l.2.1 then (if l.1 ≤ l.2.2 then 0 else 2) else (if l.2.1 ≤ l.1 then 1 else 0)
noncomputable def box : List T3 := (List.range 10).flatMap fun (a : Nat) => (List.range 10).flatMap fun (b : Nat) => ((List.range 10).filter fun (c : Nat) => decide (a + b + c ≤ 9)).map fun (c : Nat) => ((a : Int), (b : Int), (c : Int))
noncomputable def boxB (l : T3) : Bool := lightOk l && strongOf l == strongT l && weakOf l == weakT l
noncomputable def lts : List (List Int) := (lightsN 6 ++ lightsN 7 ++ lightsN 8).eraseDups
/-- the lamps, in whole numbers -/
noncomputable def lampsT (l : T3) (len : Nat) : List Int := if len = 1 then [strongT l] else if len = 2 then [0, 1, 2].filter (fun x => x != weakT l) else [0, 1, 2]
noncomputable def stepT (l : T3) (len : Nat) : T3 := (offOne (lampsT l len) 0 l.1, offOne (lampsT l len) 1 l.2.1, offOne (lampsT l len) 2 l.2.2)
noncomputable def takT : List Nat → T3 → Bool
  | [], l => l.1 == 0 && l.2.1 == 0 && l.2.2 == 0
  | n :: r, l => if negL (stepT l n) = true then false else takT r (stepT l n)
/-- the mixes as the bits of a number -/
noncomputable def orBits (M : Nat) (os : List Int) (A : Nat) : Nat := os.foldl (fun A o => A ||| (M <<< o.toNat)) A
noncomputable def maskS (sizes : List Nat) : Nat := sizes.foldl (fun M z => orBits M (ones z) 0) 1
noncomputable def chkQ : List Nat → Int → Bool
  | [], o => o == 0
  | c :: r, o => if c = 40 then chkQ r (o + 1) else if c = 41 then (if o - 1 < 0 then false else chkQ r (o - 1)) else chkQ r o
noncomputable def cntS (sizes : List Nat) : List Nat := (List.range 4).map fun j => (sizes.filter fun z => decide (j < z)).length
noncomputable def comp : Nat → Nat → List (List Nat)
  | 0, rem => if rem = 0 then [[]] else []
  | k + 1, rem => if rem = 0 then [[]] else [1, 2, 3].flatMap fun z => if z ≤ rem then (comp k (rem - z)).map (z :: ·) else []
noncomputable def finB (sizes : List Nat) (l : List Int) : Bool := (takT sizes (tup3 l) == (maskS sizes).testBit (codeL l).toNat) && (chkQ (lineL (cntS sizes) (srtD l)) 0 == (maskS sizes).testBit (codeL l).toNat)
noncomputable def finP (N : Nat) (sizes : List Nat) : Bool := (lightsN N).eraseDups.all fun l => finB sizes l
noncomputable def finN (N : Nat) : Bool := (comp 6 N).all (finP N)
end
/-! ### W4b -/
section
theorem fin6 : finN 6 = true := by decide +kernel
theorem fin7 : finN 7 = true := all_cut 22 (by decide +kernel) (by decide +kernel)
theorem fin8 : finN 8 = true := all_cut 25 (by decide +kernel) (all_cut 25 (by decide +kernel) (by decide +kernel))
theorem box_all : box.all boxB = true := all_cut 55 (by decide +kernel) (all_cut 55 (by decide +kernel) (all_cut 55 (by decide +kernel) (by decide +kernel)))
noncomputable def ltsL : List (List Int) := [[2, 2, 2], [3, 2, 1], [3, 1, 2], [2, 3, 1], [2, 1, 3], [1, 3, 2], [1, 2, 3], [3, 3, 0], [3, 0, 3], [0, 3, 3], [4, 1, 1], [1, 4, 1], [1, 1, 4], [4, 2, 0], [4, 0, 2], [2, 4, 0], [2, 0, 4], [0, 4, 2], [0, 2, 4], [5, 1, 0], [5, 0, 1], [1, 5, 0], [1, 0, 5], [0, 5, 1], [0, 1, 5], [6, 0, 0], [0, 6, 0], [0, 0, 6], [2, 2, 1], [2, 1, 2], [1, 2, 2], [2, 2, 3], [2, 3, 2], [3, 2, 2], [3, 3, 1], [3, 1, 3], [1, 3, 3], [4, 2, 1], [4, 1, 2], [2, 4, 1], [2, 1, 4], [1, 4, 2], [1, 2, 4], [4, 3, 0], [4, 0, 3], [3, 4, 0], [3, 0, 4], [0, 4, 3], [0, 3, 4], [5, 1, 1], [1, 5, 1], [1, 1, 5], [5, 2, 0], [5, 0, 2], [2, 5, 0], [2, 0, 5], [0, 5, 2], [0, 2, 5], [6, 1, 0], [6, 0, 1], [1, 6, 0], [1, 0, 6], [0, 6, 1], [0, 1, 6], [7, 0, 0], [0, 7, 0], [0, 0, 7], [3, 2, 3], [3, 3, 2], [2, 3, 3], [4, 2, 2], [2, 4, 2], [2, 2, 4], [4, 3, 1], [4, 1, 3], [3, 4, 1], [3, 1, 4], [1, 4, 3], [1, 3, 4], [4, 4, 0], [4, 0, 4], [0, 4, 4], [5, 2, 1], [5, 1, 2], [2, 5, 1], [2, 1, 5], [1, 5, 2], [1, 2, 5], [5, 3, 0], [5, 0, 3], [3, 5, 0], [3, 0, 5], [0, 5, 3], [0, 3, 5], [6, 1, 1], [1, 6, 1], [1, 1, 6], [6, 2, 0], [6, 0, 2], [2, 6, 0], [2, 0, 6], [0, 6, 2], [0, 2, 6], [7, 1, 0], [7, 0, 1], [1, 7, 0], [1, 0, 7], [0, 7, 1], [0, 1, 7], [8, 0, 0], [0, 8, 0], [0, 0, 8], [3, 3, 3]]
theorem lts_is : lts = ltsL := by decide +kernel
theorem ltsL_all : ltsL.all ltB = true := all_cut 23 (by decide +kernel) (all_cut 23 (by decide +kernel) (all_cut 23 (by decide +kernel) (all_cut 23 (by decide +kernel) (by decide +kernel))))
theorem lts_all : lts.all ltB = true := by rw [lts_is]; exact ltsL_all
theorem lts_sm : lts.all (fun l => l.length == 3 && l.all fun x => decide (0 ≤ x) && decide (x ≤ 9)) = true := by rw [lts_is]; decide +kernel
theorem lts_box : lts.all (fun l => decide (l.getD 0 0 + l.getD 1 0 + l.getD 2 0 ≤ 9)) = true := by rw [lts_is]; decide +kernel
theorem tot_ne : (totL 6 7 != []) = true ∧ (totL 7 8 != []) = true ∧ (totL 8 9 != []) = true := by decide +kernel
end
/-! ### W5 -/
section
theorem ins_perm (x : Int) : ∀ l, (insD x l).Perm (x :: l)
  | [] => .refl _
  | y :: r => by
    unfold insD
    split
    · exact .refl _
    · exact ((ins_perm x r).cons y).trans (.swap _ _ _)
theorem srt_perm : ∀ l, (srtD l).Perm l
  | [] => .refl _
  | x :: r => (ins_perm x (srtD r)).trans ((srt_perm r).cons x)
theorem ins_sort (x : Int) : ∀ l : List Int, l.Pairwise (fun a b => b ≤ a) → (insD x l).Pairwise (fun a b => b ≤ a)
  | [], _ => List.pairwise_singleton ..
  | y :: r, h => by
    unfold insD
    rw [List.pairwise_cons] at h
    split
    · rename_i hle
      rw [List.pairwise_cons]
      exact ⟨fun z hz => by
        rcases List.mem_cons.mp hz with rfl | hz
        · exact hle
        · exact Int.le_trans (h.1 z hz) hle, List.pairwise_cons.mpr h⟩
    · rename_i hle
      rw [List.pairwise_cons]
      refine ⟨fun z hz => ?_, ins_sort x r h.2⟩
      rcases List.mem_cons.mp ((ins_perm x r).subset hz) with rfl | hz
      · omega
      · exact h.1 z hz
theorem srt_sort : ∀ l, (srtD l).Pairwise (fun a b => b ≤ a)
  | [] => .nil
  | x :: r => ins_sort x _ (srt_sort r)
theorem light_ok {l : List Int} (h : l ∈ lts) : LtOk l (srtD l) := by
  have hb := List.all_eq_true.mp lts_all l h
  have hs := List.all_eq_true.mp lts_sm l h
  rw [Bool.and_eq_true, beq_iff_eq] at hs
  unfold ltB at hb
  simp only [Bool.and_eq_true, beq_iff_eq] at hb
  obtain ⟨⟨⟨⟨⟨⟨b1, b2⟩, b3⟩, b4⟩, b5⟩, b6⟩, b7⟩ := hb
  refine ⟨fun x hx => ?_, b2, fun hc => ?_, fun x hx => List.all_eq_true.mp b4 x hx, b5, fun x hx => List.all_eq_true.mp b6 x hx, b7, (List.reverse_perm _).trans (srt_perm l), List.pairwise_reverse.mpr (srt_sort l), fun x hx => ?_, ?_⟩
  · have := List.all_eq_true.mp b1 x hx
    rwa [Bool.not_eq_true'] at this
  · unfold hlsB at b3
    rw [hc, Bool.false_or, Bool.and_eq_true, Bool.and_eq_true, Bool.or_eq_true, Bool.or_eq_true, Bool.not_eq_true', Bool.not_eq_true', Bool.not_eq_true', Bool.not_eq_true'] at b3
    obtain ⟨⟨c1, c2⟩, c3⟩ := b3
    exact ⟨fun hl => c1.resolve_left (by rw [hl]; decide), fun hl => c2.resolve_left (by rw [hl]; decide), c3⟩
  · have := List.all_eq_true.mp hs.2 x ((srt_perm l).subset hx)
    rw [Bool.and_eq_true, decide_eq_true_eq, decide_eq_true_eq] at this
    exact ⟨Int.le_trans (by decide) this.1, Int.le_trans this.2 (by decide)⟩
  · rw [(srt_perm l).length_eq, hs.1]
theorem box3 {a b c : Nat} (h : a + b + c ≤ 9) : a < 10 ∧ b < 10 ∧ c < 10 :=
  ⟨Nat.lt_succ_of_le (Nat.le_trans (Nat.le_trans (Nat.le_add_right a b) (Nat.le_add_right _ c)) h), Nat.lt_succ_of_le (Nat.le_trans (Nat.le_trans (Nat.le_add_left b a) (Nat.le_add_right _ c)) h), Nat.lt_succ_of_le (Nat.le_trans (Nat.le_add_left c _) h)⟩
theorem mem_box {a b c : Int} (ha : 0 ≤ a) (hb : 0 ≤ b) (hc : 0 ≤ c) (h : a + b + c ≤ 9) : (a, b, c) ∈ box := by
  unfold box
  obtain ⟨a, rfl⟩ := Int.eq_ofNat_of_zero_le ha
  obtain ⟨b, rfl⟩ := Int.eq_ofNat_of_zero_le hb
  obtain ⟨c, rfl⟩ := Int.eq_ofNat_of_zero_le hc
  have h : a + b + c ≤ 9 := Int.ofNat_le.mp h
  obtain ⟨h1, h2, h3⟩ := box3 h
  exact List.mem_flatMap.mpr ⟨a, List.mem_range.mpr h1, List.mem_flatMap.mpr ⟨b, List.mem_range.mpr h2, List.mem_map.mpr ⟨c, List.mem_filter.mpr ⟨List.mem_range.mpr h3, decide_eq_true h⟩, rfl⟩⟩⟩
theorem off_le (ls : List Int) (i a : Int) : offOne ls i a ≤ a ∧ a - 1 ≤ offOne ls i a := by unfold offOne; split <;> omega
theorem tak_eq : ∀ (sizes : List Nat) (a b c : Int), 0 ≤ a → 0 ≤ b → 0 ≤ c → a + b + c ≤ 9 → okL sizes (a, b, c) = true ∧ takenL sizes (a, b, c) = takT sizes (a, b, c)
  | [], a, b, c, _, _, _, _ => ⟨rfl, rfl⟩
  | n :: r, a, b, c, ha, hb, hc, h => by
    have hbx := List.all_eq_true.mp box_all _ (mem_box ha hb hc h)
    unfold boxB at hbx
    simp only [Bool.and_eq_true, beq_iff_eq] at hbx
    obtain ⟨⟨h1, h2⟩, h3⟩ := hbx
    have hlamp : lampsOf (a, b, c) n = lampsT (a, b, c) n := by unfold lampsOf lampsT; rw [h2, h3]
    have hstep : stepL (a, b, c) n = stepT (a, b, c) n := by unfold stepL stepT; rw [hlamp]
    show (lightOk (a, b, c) && (negL (stepL (a, b, c) n) || okL r (stepL (a, b, c) n))) = true ∧ (if negL (stepL (a, b, c) n) = true then false else takenL r (stepL (a, b, c) n)) = (if negL (stepT (a, b, c) n) = true then false else takT r (stepT (a, b, c) n))
    rw [h1, hstep, Bool.true_and]
    have e : stepT (a, b, c) n = (offOne (lampsT (a, b, c) n) 0 a, offOne (lampsT (a, b, c) n) 1 b, offOne (lampsT (a, b, c) n) 2 c) := rfl
    rw [e]
    have o1 := off_le (lampsT (a, b, c) n) 0 a
    have o2 := off_le (lampsT (a, b, c) n) 1 b
    have o3 := off_le (lampsT (a, b, c) n) 2 c
    generalize offOne (lampsT (a, b, c) n) 0 a = a' at *
    generalize offOne (lampsT (a, b, c) n) 1 b = b' at *
    generalize offOne (lampsT (a, b, c) n) 2 c = c' at *
    cases hneg : negL (a', b', c')
    · unfold negL at hneg
      simp only [Bool.or_eq_false_iff, decide_eq_false_iff_not] at hneg
      have ih := tak_eq r a' b' c' (Int.not_lt.mp hneg.1.1) (Int.not_lt.mp hneg.1.2) (Int.not_lt.mp hneg.2) (Int.le_trans (Int.add_le_add (Int.add_le_add o1.1 o2.1) o3.1) h)
      rw [ih.1, ih.2]; exact ⟨rfl, rfl⟩
    · exact ⟨rfl, rfl⟩
theorem one23 (z : Nat) (h : 1 ≤ z) (h2 : z ≤ 3) : z ∈ [1, 2, 3] := (by decide : ∀ z, z < 4 → 1 ≤ z → z ∈ [1, 2, 3]) z (Nat.lt_succ_of_le h2) h
theorem mem_comp : ∀ (sizes : List Nat) (k : Nat), sizes.length ≤ k → (∀ z ∈ sizes, 1 ≤ z ∧ z ≤ 3) → sizes ∈ comp k sizes.sum
  | [], 0, _, _ => by decide
  | [], k + 1, _, _ => by unfold comp; rw [if_pos (by rfl)]; exact List.mem_cons_self
  | z :: r, 0, h, _ => by cases h
  | z :: r, k + 1, h, hz => by
    have h1 := hz z List.mem_cons_self
    have ih := mem_comp r k (by simpa using h) fun y hy => hz y (List.mem_cons_of_mem _ hy)
    unfold comp
    rw [List.sum_cons, if_neg (fun e => absurd (Nat.eq_zero_of_add_eq_zero_right e) (Nat.ne_of_gt h1.1))]
    refine List.mem_flatMap.mpr ⟨z, one23 z h1.1 h1.2, ?_⟩
    rw [if_pos (Nat.le_add_right ..), Nat.add_sub_cancel_left]
    exact List.mem_map.mpr ⟨r, ih, rfl⟩
theorem or_bits (M k : Nat) : ∀ (os : List Int) (A : Nat), (orBits M os A).testBit k = true ↔ (A.testBit k = true ∨ ∃ o ∈ os, o.toNat ≤ k ∧ M.testBit (k - o.toNat) = true)
  | [], A => ⟨.inl, fun h => h.elim _root_.id fun ⟨_, h, _⟩ => nomatch h⟩
  | o :: r, A => by
    show (orBits M r (A ||| (M <<< o.toNat))).testBit k = true ↔ _
    rw [or_bits M k r, Nat.testBit_or, Nat.testBit_shiftLeft, Bool.or_eq_true, Bool.and_eq_true, decide_eq_true_eq]
    constructor
    · rintro ((h | ⟨h1, h2⟩) | ⟨x, hx, h⟩)
      · exact .inl h
      · exact .inr ⟨o, List.mem_cons_self, h1, h2⟩
      · exact .inr ⟨x, List.mem_cons_of_mem _ hx, h⟩
    · rintro (h | ⟨x, hx, h1, h2⟩)
      · exact .inl (.inl h)
      · rcases List.mem_cons.mp hx with rfl | hx
        · exact .inl (.inr ⟨h1, h2⟩)
        · exact .inr ⟨x, hx, h1, h2⟩
/-- the bits are the mixes -/
structure BitsOk (M : Nat) (ms : List Int) : Prop where
  lo : ∀ m ∈ ms, 0 ≤ m
  bit : ∀ k : Nat, M.testBit k = true ↔ (k : Int) ∈ ms
theorem bits_step {M z : Nat} {ms : List Int} (h : BitsOk M ms) : BitsOk (orBits M (ones z) 0) (ms.flatMap fun m => (ones z).map (m + ·)) := by
  refine ⟨fun x hx => ?_, fun k => ?_⟩
  · obtain ⟨m, hm, hx⟩ := List.mem_flatMap.mp hx
    obtain ⟨o, ho, rfl⟩ := List.mem_map.mp hx
    exact Int.add_nonneg (h.lo m hm) (ones_bound ho).1
  · rw [or_bits, Nat.zero_testBit, List.mem_flatMap]
    refine ⟨fun q => ?_, fun ⟨m, hm, hx⟩ => .inr ?_⟩
    · obtain ⟨o, ho, hle, hb⟩ := q.resolve_left Bool.false_ne_true
      refine ⟨_, (h.bit _).mp hb, List.mem_map.mpr ⟨o, ho, ?_⟩⟩
      have e := Int.toNat_of_nonneg (ones_bound ho).1
      rw [Int.ofNat_sub hle, e]; exact Int.sub_add_cancel ..
    · obtain ⟨o, ho, e⟩ := List.mem_map.mp hx
      obtain ⟨a, rfl⟩ := Int.eq_ofNat_of_zero_le (h.lo m hm)
      obtain ⟨b, rfl⟩ := Int.eq_ofNat_of_zero_le (ones_bound ho).1
      have e : a + b = k := Int.ofNat.inj e
      subst e
      exact ⟨_, ho, Nat.le_add_left .., by rw [Int.toNat_natCast, Nat.add_sub_cancel]; exact (h.bit a).mpr hm⟩
theorem bits_all : ∀ (sizes : List Nat) (M : Nat) (ms : List Int), BitsOk M ms → BitsOk (sizes.foldl (fun M z => orBits M (ones z) 0) M) (sizes.foldl (fun ms z => ms.flatMap fun m => (ones z).map (m + ·)) ms)
  | [], _, _, h => h
  | z :: r, _, _, h => bits_all r _ _ (bits_step h)
theorem mem_mix (sizes : List Nat) {k : Int} (hk : 0 ≤ k) : memS (mixL sizes) k = (maskS sizes).testBit k.toNat := by
  obtain ⟨k, rfl⟩ := Int.eq_ofNat_of_zero_le hk
  have h : BitsOk (maskS sizes) (mixL sizes) := bits_all sizes 1 [0] ⟨fun m hm => by rw [List.mem_singleton.mp hm]; decide, fun k => by
    rw [List.mem_singleton]
    cases k with
    | zero => exact ⟨fun _ => rfl, fun _ => rfl⟩
    | succ k => exact ⟨fun e => absurd e (by simp [Nat.testBit_succ]), fun e => nomatch e⟩⟩
  rw [Int.toNat_natCast, Bool.eq_iff_iff]
  exact (decide_eq_true_iff).trans (h.bit k).symm
theorem mem_lts {N : Nat} (hN : N = 6 ∨ N = 7 ∨ N = 8) {l : List Int} (h : l ∈ lightsN N) : l ∈ lts := by
  unfold lts
  rw [List.mem_eraseDups]
  rcases hN with rfl | rfl | rfl
  · exact List.mem_append_left _ (List.mem_append_left _ h)
  · exact List.mem_append_left _ (List.mem_append_right _ h)
  · exact List.mem_append_right _ h
theorem fin_all {N : Nat} (hN : N = 6 ∨ N = 7 ∨ N = 8) {sizes : List Nat} (hs : sizes ∈ comp 6 N) {l : List Int} (h : l ∈ lightsN N) : finB sizes l = true := by
  have h' := List.mem_eraseDups.mpr h
  have key : finN N = true := by
    rcases hN with rfl | rfl | rfl
    · exact fin6
    · exact fin7
    · exact fin8
  exact List.all_eq_true.mp (List.all_eq_true.mp key sizes hs) l h'
end
/-! ### W6 -/
section
noncomputable def Par (l : List Nat) : Prop := ∀ c ∈ l, c = 40 ∨ c = 41
theorem chk_idx : ∀ (l : List Nat) (k : Nat) (o : Int), chkL (l.mapIdx fun i c => (k + i, [c])) o = chkQ l o
  | [], _, _ => rfl
  | c :: r, k, o => by
    rw [List.mapIdx_cons]
    have e : (fun i c => (k + (i + 1), [c]) : Nat → Nat → Nat × List Nat) = fun i c => (k + 1 + i, [c]) := by funext i c; rw [show k + (i + 1) = k + 1 + i from by omega]
    show chkL ((k + 0, [c]) :: (r.mapIdx fun i c => (k + (i + 1), [c]))) o = _
    rw [e]
    show (if [c] = [40] then chkL _ (o + 1) else if [c] = [41] then (if o - 1 < 0 then false else chkL _ (o - 1)) else chkL _ o) = (if c = 40 then chkQ r (o + 1) else if c = 41 then (if o - 1 < 0 then false else chkQ r (o - 1)) else chkQ r o)
    rw [chk_idx r (k + 1), chk_idx r (k + 1), chk_idx r (k + 1)]
    simp only [List.cons.injEq, and_true]
theorem par_no {l : List Nat} (h : Par l) {d : Nat} (hd : d ≠ 40 ∧ d ≠ 41) : d ∉ l := fun hm => (h d hm).elim hd.1 hd.2
theorem esc_par {l : List Nat} (h : Par l) (k : Nat) : escL k false l = l.mapIdx fun i c => (k + i, [c]) := esc_plain l k (par_no h (by decide))
theorem fold_skip {x : Str} : ∀ (l : List Nat) (k : Nat) (q : Nat × Option Nat × List Str), 34 ∉ l → (l.mapIdx fun i c => (k + i, [c])).foldl (stStep x) q = q
  | [], _, _, _ => rfl
  | c :: r, k, q, h => by
    have hc : c ≠ 34 := fun e => h (e ▸ List.mem_cons_self)
    rw [fold_idx, show stStep x q (k, [c]) = q from by unfold stStep; rw [if_neg (by simpa using hc)]]
    exact fold_skip r (k + 1) q fun hm => h (List.mem_cons_of_mem _ hm)
theorem line_of {x : Str} {y l : List Nat} (hxe : endE false x.cps.toList = false) (hxl : x.length ≤ 1000) (hs : stripS x = mk y) (hy : y.length ≤ 1000) (hye : endE false y = false) (hc : chkL (escL 0 false y) 0 = chkQ l 0) : LineOk x ∧ chkS x = chkQ l 0 := by
  refine ⟨⟨hxl, hxe, by rw [hs, mk_len]; exact hy, by rw [hs, mk_cps]; exact hye⟩, ?_⟩
  unfold chkS
  rw [hs, mk_cps]; exact hc
theorem strip_no {y : List Nat} (h : 34 ∉ y) : stripS (mk y) = mk y := by unfold stripS; rw [mk_cps, if_neg h]
theorem strip_at {y : List Nat} {n : Nat} (h : 34 ∈ y) (hrun : stripRun (mk y) = (n, none, []) ∨ ∃ m, stripRun (mk y) = (n, some m, [])) (hn : n ≤ y.length) : stripS (mk y) = mk (y.drop n) := by
  have h1 : (stripRun (mk y)).1 = n ∧ (stripRun (mk y)).2.2 = [] := by
    rcases hrun with e | ⟨m, e⟩ <;> rw [e] <;> exact ⟨rfl, rfl⟩
  unfold stripS
  rw [mk_cps, if_pos h, h1.1, h1.2, List.nil_append, mk_len]
  split
  · have hf := StrLaws.sliceText_from (x := mk y) (i := (n : Int)) ⟨by omega, by rw [len_mk', mk_len]; omega⟩
    refine str_ext ?_
    rw [join_e, mk_cps, List.toList_toArray]
    rw [show Txt.slice (mk y) (some (n : Int)) none = _ from hf]
    simp only [List.map_cons, List.map_nil, List.flatten_cons, List.flatten_nil, List.append_nil, mk_cps]
    exact List.take_of_length_le (by simp)
  · refine str_ext ?_
    rw [join_e, mk_cps, List.drop_of_length_le (by omega)]; rfl
theorem end_par {l : List Nat} (h : Par l) : endE false l = false := q_end _ rfl (par_no h (by decide))
theorem hid_line {h : Nat} (hh : h < 6) {l : List Nat} (hp : Par l) (hl : l.length ≤ 900) : LineOk (hidS.getD h (Str.ofString "") ++ mk l) ∧ chkS (hidS.getD h (Str.ofString "") ++ mk l) = chkQ l 0 := by
  have h34 : 34 ∉ l := par_no hp (by decide)
  have he := end_par hp
  have hc0 : chkL (escL 0 false l) 0 = chkQ l 0 := by rw [esc_par hp]; exact chk_idx l 0 0
  match h, hh with
  | 0, _ =>
    rw [show hidS.getD 0 (Str.ofString "") = mk [] from by decide +kernel, mk_app, List.nil_append]
    exact line_of (by rw [mk_cps]; exact he) (by rw [mk_len]; omega) (strip_no h34) (by omega) he hc0
  | 1, _ =>
    rw [show hidS.getD 1 (Str.ofString "") = mk [92, 40] from by decide +kernel, mk_app]
    refine line_of (y := [92, 40] ++ l) (by rw [mk_cps]; exact he) (by rw [mk_len]; simp; omega) (strip_no (by simpa using h34)) (by simp; omega) he ?_
    show chkL ((1, [92, 40]) :: escL 2 false l) 0 = _
    show (if [92, 40] = [40] then _ else if [92, 40] = [41] then _ else chkL (escL 2 false l) 0) = _
    rw [if_neg (by decide), if_neg (by decide), esc_par hp, chk_idx]
  | 2, _ =>
    rw [show hidS.getD 2 (Str.ofString "") = mk [34, 41, 34] from by decide +kernel, mk_app]
    refine line_of (y := l) (by rw [mk_cps]; exact he) (by rw [mk_len]; simp; omega) ?_ (by omega) he hc0
    have hr : stripRun (mk ([34, 41, 34] ++ l)) = (3, none, []) := by
      unfold stripRun
      rw [mk_cps]
      show ((0, [34]) :: (1, [41]) :: (2, [34]) :: escL 3 false l).foldl _ _ = _
      rw [List.foldl_cons, List.foldl_cons, List.foldl_cons, esc_par hp, fold_skip l 3 _ h34]
      rfl
    exact strip_at (by simp) (.inl hr) (by simp)
  | 3, _ =>
    rw [show hidS.getD 3 (Str.ofString "") = mk [34, 40, 34, 92, 41] from by decide +kernel, mk_app]
    refine line_of (y := [92, 41] ++ l) (by rw [mk_cps]; exact he) (by rw [mk_len]; simp; omega) ?_ (by simp; omega) he ?_
    · have hr : stripRun (mk ([34, 40, 34, 92, 41] ++ l)) = (3, none, []) := by
        unfold stripRun
        rw [mk_cps]
        show ((0, [34]) :: (1, [40]) :: (2, [34]) :: (4, [92, 41]) :: escL 5 false l).foldl _ _ = _
        rw [List.foldl_cons, List.foldl_cons, List.foldl_cons, List.foldl_cons, esc_par hp, fold_skip l 5 _ h34]
        rfl
      exact strip_at (by simp) (.inl hr) (by simp)
    · show chkL ((1, [92, 41]) :: escL 2 false l) 0 = _
      show (if [92, 41] = [40] then _ else if [92, 41] = [41] then _ else chkL (escL 2 false l) 0) = _
      rw [if_neg (by decide), if_neg (by decide), esc_par hp, chk_idx]
  | 4, _ =>
    rw [show hidS.getD 4 (Str.ofString "") = mk [34, 92, 34, 41, 34] from by decide +kernel, mk_app]
    refine line_of (y := l) (by rw [mk_cps]; exact he) (by rw [mk_len]; simp; omega) ?_ (by omega) he hc0
    have hr : stripRun (mk ([34, 92, 34, 41, 34] ++ l)) = (5, none, []) := by
      unfold stripRun
      rw [mk_cps]
      show ((0, [34]) :: (2, [92, 34]) :: (3, [41]) :: (4, [34]) :: escL 5 false l).foldl _ _ = _
      rw [List.foldl_cons, List.foldl_cons, List.foldl_cons, List.foldl_cons, esc_par hp, fold_skip l 5 _ h34]
      rfl
    exact strip_at (by simp) (.inl hr) (by simp)
  | 5, _ =>
    rw [show hidS.getD 5 (Str.ofString "") = mk [34] from by decide +kernel, mk_app]
    refine line_of (y := [34] ++ l) (by rw [mk_cps]; exact he) (by rw [mk_len]; simp; omega) ?_ (by simp; omega) he ?_
    · have hr : stripRun (mk ([34] ++ l)) = (0, some 0, []) := by
        unfold stripRun
        rw [mk_cps]
        show ((0, [34]) :: escL 1 false l).foldl _ _ = _
        rw [List.foldl_cons, esc_par hp, fold_skip l 1 _ h34]
        rfl
      exact strip_at (n := 0) (by simp) (.inr ⟨0, hr⟩) (by simp)
    · show chkL ((0, [34]) :: escL 1 false l) 0 = _
      show (if [34] = [40] then _ else if [34] = [41] then _ else chkL (escL 1 false l) 0) = _
      rw [if_neg (by decide), if_neg (by decide), esc_par hp, chk_idx]
theorem line_par (cs : List Nat) (srt : List Int) : Par (lineL cs srt) := fun c hc => by
  unfold lineL at hc
  obtain ⟨y, hy, hcy⟩ := List.mem_flatten.mp hc
  obtain ⟨p, _, rfl⟩ := List.mem_map.mp hy
  rcases List.mem_append.mp hcy with h | h
  · exact .inl (List.eq_of_mem_replicate h)
  · exact .inr (List.eq_of_mem_replicate h)
end
/-! ### W7 -/
section
theorem pb_add {a b m r : Nat} (h : 6 ≤ a ∨ a + (r + 1) ≥ 6) (e : b = a + (1 + m)) : 6 ≤ b ∨ b + r ≥ 6 := by omega
theorem pb_six {a c : Nat} (h : ¬ a + (1 + c % 3) ≤ 8) : 6 ≤ a := by omega
theorem pieces_big : ∀ (cs : List Nat) (ps : List Pc), (6 ≤ tot ps ∨ tot ps + cs.length ≥ 6) → 6 ≤ tot (cs.foldl bStep ps)
  | [], ps, h => by simpa using h
  | c :: r, ps, h => by
    rw [List.foldl_cons]
    refine pieces_big r _ ?_
    have hl : (pieceOf c).1.length = 1 + c % 3 := by unfold pieceOf; simp
    unfold bStep
    by_cases hle : tot ps + (1 + c % 3) ≤ 8
    · rw [if_pos hle]
      have e : tot (ps ++ [pieceOf c]) = tot ps + (1 + c % 3) := by
        unfold tot; rw [List.map_append, List.sum_append]; simp [hl]
      rw [e]
      rw [List.length_cons] at h
      exact pb_add h rfl
    · rw [if_neg hle]
      exact .inl (pb_six hle)
theorem tot_range {ns : List Nat} (h : ns.length = 7) : 6 ≤ tot (piecesOf (ns.take 6)) ∧ tot (piecesOf (ns.take 6)) ≤ 8 ∧ (piecesOf (ns.take 6)).length ≤ 6 := by
  have hl : (ns.take 6).length = 6 := by rw [List.length_take]; omega
  have h1 := pieces_len (ns.take 6) [] (by decide)
  refine ⟨pieces_big _ _ (.inr (by rw [hl]; decide)), h1.2.1, ?_⟩
  have := h1.1
  rw [hl] at this
  exact Nat.le_trans this (Nat.le_refl 6)
theorem stp_len (ps : List Pc) : (stp ps).length = ps.length + 1 := by unfold stp; simp
theorem stp_zero (ps : List Pc) : 0 ∈ stp ps := by
  unfold stp
  exact List.mem_map.mpr ⟨0, List.mem_range.mpr (by omega), rfl⟩
theorem stp_le (ps : List Pc) : ∀ x ∈ stp ps, x ≤ (wholeOf ps).length := fun x hx => by
  unfold stp at hx
  obtain ⟨i, hi, rfl⟩ := List.mem_map.mp hx
  rw [wholeOf_len]
  have : tot ps = tot (ps.take i) + tot (ps.drop i) := by
    conv => lhs; rw [← List.take_append_drop i ps]
    unfold tot; rw [List.map_append, List.sum_append]
  omega
theorem due_rows {ps : List Pc} (h : DueOk ps) (h6 : 6 ≤ tot ps) : RowsOk (dRun (wholeOf ps) (stp ps) 6).1 where
  ne := fun e => by
    have := h.sum
    rw [e] at this
    have h2 : tot ps = 0 := this.symm
    omega
  n := Nat.le_trans h.n (by decide)
  sz := fun c hc => Nat.le_trans (h.len c hc).2 (by decide)
  az := h.az
theorem cnt_turn (due : List (List Nat)) (j : Nat) : cntU (turnR due j) = ((due.map (·.length)).filter fun z => decide (j < z)).length := by
  unfold cntU turnR
  rw [List.filter_map, List.filter_map, List.length_map, List.length_map]
  congr 1
  refine List.filter_congr fun c _ => ?_
  show (!(c.drop j).isEmpty) = decide (j < c.length)
  rw [Bool.eq_iff_iff, Bool.not_eq_true', decide_eq_true_eq, List.isEmpty_eq_false_iff, ne_eq, List.drop_eq_nil_iff]
  omega
theorem cnts_eq (due : List (List Nat)) : cntsOf due 4 = cntS (due.map (·.length)) := by
  unfold cntsOf cntS
  exact List.map_congr_left fun j _ => cnt_turn due j
theorem totA_eq {N : Nat} {t0 : T3} {ts : List T3} (h : totL N (N + 1) = t0 :: ts) : totA N = (t0 :: ts) ++ moreL t0 := by unfold totA; rw [h]
theorem totL_cons {N : Nat} (hN : N = 6 ∨ N = 7 ∨ N = 8) : ∃ t0 ts, totL N (N + 1) = t0 :: ts := by
  have h := tot_ne
  rcases hN with rfl | rfl | rfl
  · cases e : totL 6 (6 + 1) with
    | nil => have := h.1; rw [e] at this; cases this
    | cons a r => exact ⟨a, r, rfl⟩
  · cases e : totL 7 (7 + 1) with
    | nil => have := h.2.1; rw [e] at this; cases this
    | cons a r => exact ⟨a, r, rfl⟩
  · cases e : totL 8 (8 + 1) with
    | nil => have := h.2.2; rw [e] at this; cases this
    | cons a r => exact ⟨a, r, rfl⟩
theorem light_in {N c6 i : Nat} {t : T3} (h : t ∈ totA N) : lightOf c6 i t ∈ lightsN N := by
  unfold lightsN
  exact List.mem_flatMap.mpr ⟨t, h, List.mem_map.mpr ⟨(c6 / 6 ^ (i % 6) + i) % 6, List.mem_range.mpr (Nat.mod_lt _ (by decide)), rfl⟩⟩
theorem lights_in {N c6 : Nat} : ∀ l ∈ (totA N).mapIdx (fun i t => lightOf c6 i t), l ∈ lightsN N := fun l hl => by
  obtain ⟨i, hi, rfl⟩ := List.mem_mapIdx.mp hl
  exact light_in (List.getElem_mem hi)
structure LtSm (l : List Int) : Prop where
  len : l.length = 3
  lo : ∀ x ∈ l, 0 ≤ x ∧ x ≤ 9
  sum : l.getD 0 0 + l.getD 1 0 + l.getD 2 0 ≤ 9
theorem lt_sm {l : List Int} (h : l ∈ lts) : LtSm l := by
  have hs := List.all_eq_true.mp lts_sm l h
  rw [Bool.and_eq_true, beq_iff_eq] at hs
  refine ⟨hs.1, fun x hx => ?_, of_decide_eq_true (List.all_eq_true.mp lts_box l h)⟩
  have := List.all_eq_true.mp hs.2 x hx
  rwa [Bool.and_eq_true, decide_eq_true_eq, decide_eq_true_eq] at this
theorem getD_mem3 {l : List Int} (h : l.length = 3) {i : Nat} (hi : i < 3) : l.getD i 0 ∈ l := by
  have : i < l.length := by rw [h]; exact hi
  rw [List.getD_eq_getElem?_getD, List.getElem?_eq_getElem this]
  exact List.getElem_mem this
theorem code_lo {l : List Int} (h : LtSm l) : 0 ≤ codeL l :=
  Int.add_nonneg (Int.add_nonneg (h.lo _ (getD_mem3 h.len (by decide))).1 (Int.mul_nonneg (by decide) (h.lo _ (getD_mem3 h.len (by decide))).1)) (Int.mul_nonneg (by decide) (h.lo _ (getD_mem3 h.len (by decide))).1)
theorem tak_good {N : Nat} (hN : N = 6 ∨ N = 7 ∨ N = 8) {sizes : List Nat} (hs : sizes ∈ comp 6 N) {l : List Int} (h : l ∈ lightsN N) : okL sizes (tup3 l) = true ∧ takenL sizes (tup3 l) = memS (mixL sizes) (codeL l) := by
  have hl := lt_sm (mem_lts hN h)
  have hf := fin_all hN hs h
  unfold finB at hf
  rw [Bool.and_eq_true, beq_iff_eq] at hf
  have := tak_eq sizes (l.getD 0 0) (l.getD 1 0) (l.getD 2 0) (hl.lo _ (getD_mem3 hl.len (by decide))).1 (hl.lo _ (getD_mem3 hl.len (by decide))).1 (hl.lo _ (getD_mem3 hl.len (by decide))).1 hl.sum
  refine ⟨this.1, ?_⟩
  rw [mem_mix _ (code_lo hl), ← hf.1]; exact this.2
theorem line_good {N : Nat} (hN : N = 6 ∨ N = 7 ∨ N = 8) {sizes : List Nat} (hs : sizes ∈ comp 6 N) {l : List Int} (h : l ∈ lightsN N) (hc : ∀ c ∈ cntS sizes, c ≤ 100) (c6 i : Nat) : LineOk (lineS (cntS sizes) c6 i (srtD l)) ∧ chkS (lineS (cntS sizes) c6 i (srtD l)) = memS (mixL sizes) (codeL l) := by
  have hok := light_ok (mem_lts hN h)
  have hlen : (lineL (cntS sizes) (srtD l)).length ≤ 900 := by
    have h4 : (cntS sizes).length = 4 := by unfold cntS; simp
    exact Nat.le_trans (line_len h4 hok.len hc hok.bd) (by decide)
  have hf := fin_all hN hs h
  unfold finB at hf
  rw [Bool.and_eq_true, beq_iff_eq, beq_iff_eq] at hf
  have := hid_line (h := (c6 + i) % 6) (Nat.mod_lt _ (by decide)) (line_par (cntS sizes) (srtD l)) hlen
  refine ⟨this.1, ?_⟩
  rw [mem_mix _ (code_lo (lt_sm (mem_lts hN h))), ← hf.2]; exact this.2
end
/-! ### W8 -/
section
theorem execs_app {w : World} {A : Around} {E : Value → Shared → Prop} {env : Env} {s : Shared} {Q : Flow → Shared → Prop} (l1 l2 : List Stmt)
    (h : wpAny (MM w) A (execs l1 env) (fun f s' => match f with | .next => wpAny (MM w) A (execs l2 env) Q E s' | f => Q f s') E s) : wpAny (MM w) A (execs (l1 ++ l2) env) Q E s := by
  have e : ∀ l1 : List Stmt, execs (l1 ++ l2) env = (do match ← execs l1 env with | .next => execs l2 env | f => pure f) := by
    intro l1
    induction l1 with
    | nil => show execs l2 env = _; rw [arm_execs_nil, pure_bind]
    | cons x r ih =>
      show execs (x :: (r ++ l2)) env = _
      rw [arm_execs_cons, arm_execs_cons, bind_assoc, ih]
      congr 1
      funext f
      cases f with
      | next => rfl
      | _ => rw [pure_bind]
  rw [e]
  refine wpAny_bind (wpAny_mono h (fun f s' h' => ?_) fun _ _ x => x)
  cases f with
  | next => exact h'
  | _ => exact wpAny_pure h'
theorem tot_len' (N : Nat) (hN : N ≤ 8) : (totL N (N + 1)).length ≤ 90 := Nat.le_trans (tot_all N (Nat.lt_succ_of_le hN) (N + 1) (Nat.succ_lt_succ (Nat.lt_succ_of_le hN))) (Nat.le_trans (Nat.mul_le_mul_left 9 (Nat.succ_le_succ hN)) (by decide))
theorem perm_tail {a b : Led} : (b ++ a).Perm (a ++ b) := List.perm_append_comm
theorem perm3 {X m mo : Led} : (mo ++ (m ++ X)).Perm (X ++ (m ++ mo)) := by
  have h1 : (mo ++ (m ++ X)).Perm ((m ++ X) ++ mo) := List.perm_append_comm
  have h2 : ((m ++ X) ++ mo).Perm (X ++ (m ++ mo)) := by
    refine (List.Perm.append_right mo (List.perm_append_comm (l₁ := m) (l₂ := X))).trans ?_
    rw [List.append_assoc]
  exact h1.trans h2
theorem law_back {w : World} {A : Around} {n : Nat} {mg mb : Str → Option Value} {s₀ s : Shared} {Q : Flow → Shared → Prop} {L cD cC cS cO cL cT cR cH cM cQ lc lc2 lr mS : Addr} {N c6 : Nat} {sizes ns : List Nat} {rowsS : List Str} {vr cv vc : List Value} {t2 : Tok} {v1 : Option Value} (G : GG w mg mb s₀.heap) (hA10 : AOk A (n + 10))
    (hN : N = 6 ∨ N = 7 ∨ N = 8) (hcomp : sizes ∈ comp 6 N) (hs6 : sizes.length ≤ 6) (hc100 : ∀ c ∈ cntS sizes, c ≤ 100) (hrl : rowsS.map (·.length) = sizes) (hrn : rowsS ≠ []) (hrlen : ∀ r ∈ rowsS, 1 ≤ r.length ∧ r.length ≤ 3) (hr : Paired isS rowsS vr) (hcv : Paired isN (cntS sizes) cv) (hns : Paired isN ns vc) (hc6 : ns[6]? = some c6)
    (H : Inn s₀ ((L, nsC [(Str.ofString "counts", .ref lc2)]) :: (cM, celC (some (.ref mS))) :: (mS, setC (wb w) (memS (mixL sizes))) :: (lc2, lstC cv) :: (cR, celC (some (.ref lr))) :: (lr, lstC vr) :: (cL, celC (some (.int (N : Nat) t2))) :: (cC, celC (some (.ref lc))) :: (lc, lstC vc) :: (cQ, celC v1) :: []) [] s)
    (k : ∀ s', Inn s₀ [] [] s' → Q (.ret (.bool true)) s') :
    wpAny (MM w) A (execs ([st13] ++ ([st14] ++ ([st15] ++ ([st16] ++ ([st17] ++ ([st18, st19] ++ ([st20, st21, st22] ++ [st23]))))))) (lenv L cD cC cS cO cL cT cR cH cM cQ)) Q (fun _ _ => False) s := by
  have hA8 : AOk A ((n + 2) + 8) := hA10
  refine execs_app _ _ (segI1 G hA8 (N := N) (led := (cQ, celC v1) :: (cM, celC (some (.ref mS))) :: (mS, setC (wb w) (memS (mixL sizes))) :: (lc2, lstC cv) :: (cR, celC (some (.ref lr))) :: (lr, lstC vr) :: (cC, celC (some (.ref lc))) :: (lc, lstC vc) :: []) (H.pick (by tb_rel)) (by omega) (fun D m s hm H => ?_))
  dsimp only
  obtain ⟨t0, ts, hts⟩ := totL_cons hN
  have htA := totA_eq hts
  have hml : m.length ≤ 90 := by rw [← hm.length]; exact tot_len' N (by omega)
  rw [hts] at hm
  refine execs_app _ _ (segI2 G hA8 H hm (by omega) (fun D2 m2 s hm2 H => ?_))
  dsimp only
  rw [← htA] at hm2
  have hm2l : m2.length ≤ 100 := by
    rw [← hm2.length, htA, List.length_append, hm.length]
    show m.length + 2 ≤ 100
    omega
  replace H : Inn s₀ ((L, nsC [(Str.ofString "counts", .ref lc2), (Str.ofString "totals", .ref D2)]) :: (D2, lstC (refs m2)) :: (cL, celC (some (.int (N : Nat) t2))) :: (cQ, celC v1) :: (cM, celC (some (.ref mS))) :: (mS, setC (wb w) (memS (mixL sizes))) :: (lc2, lstC cv) :: (cR, celC (some (.ref lr))) :: (lr, lstC vr) :: (cC, celC (some (.ref lc))) :: (lc, lstC vc) :: tRows m2) [] s := H.pick (pick_of (.cons _ (.cons _ (perm_tail (b := [_, _, _, _, _, _, _, _, _])))))
  refine execs_app _ _ ?_
  have e := fun (Q : Flow → Shared → Prop) h k => @segJ1 w A (n + 2) mg mb s₀ s ((D2, lstC (refs m2)) :: (cM, celC (some (.ref mS))) :: (mS, setC (wb w) (memS (mixL sizes))) :: (lc2, lstC cv) :: (cR, celC (some (.ref lr))) :: (lr, lstC vr) :: (cC, celC (some (.ref lc))) :: (lc, lstC vc) :: tRows m2) [] Q L cD cC cS cO cL cT cR cH cM cQ lc2 D2 v1 G hA8 h k
  generalize execs [st15] (lenv L cD cC cS cO cL cT cR cH cM cQ) = X at e ⊢
  refine e _ (H.pick (by tb_rel)) (fun DO mo s hmo H => ?_)
  clear e
  dsimp only
  replace H : Inn s₀ ((L, nsC [(Str.ofString "counts", .ref lc2), (Str.ofString "totals", .ref D2)]) :: (cQ, celC (some (.ref DO))) :: (DO, lstC (refs mo)) :: (D2, lstC (refs m2)) :: (cM, celC (some (.ref mS))) :: (mS, setC (wb w) (memS (mixL sizes))) :: (lc2, lstC cv) :: (cR, celC (some (.ref lr))) :: (lr, lstC vr) :: (cC, celC (some (.ref lc))) :: (lc, lstC vc) :: (tRows m2 ++ tRows mo)) [] s := H.pick (pick_of (.cons _ (.cons _ (.cons _ (perm_tail (a := tRows mo) (b := [_, _, _, _, _, _, _, _] ++ tRows m2))))))
  replace H : Inn s₀ ((L, nsC [(Str.ofString "counts", .ref lc2), (Str.ofString "totals", .ref D2)]) :: (cQ, celC (some (.ref DO))) :: (cC, celC (some (.ref lc))) :: (lc, lstC vc) :: (D2, lstC (refs m2)) :: (DO, lstC (refs mo)) :: (cM, celC (some (.ref mS))) :: (mS, setC (wb w) (memS (mixL sizes))) :: (lc2, lstC cv) :: (cR, celC (some (.ref lr))) :: (lr, lstC vr) :: (tRows m2 ++ tRows mo)) [] s := H.pick (by tb_rel)
  have H := H.pick (pick_of (.cons _ (.cons _ (.cons _ (.cons _ (.cons _ (.cons _ (perm3 (X := [_, _, _, _, _])))))))))
  refine execs_app _ _ (segJ2 G hA8 H hm2 hmo hm2l hns hc6 (fun DL ml s hml2 H => ?_))
  dsimp only
  generalize hls : ((totA N).mapIdx fun i t => lightOf c6 i t) = lsx at hml2
  have hlin : ∀ l ∈ lsx, l ∈ lightsN N := by rw [← hls]; exact lights_in
  have hlsm : ∀ l ∈ lsx, LtSm l := fun l hl => lt_sm (mem_lts hN (hlin l hl))
  have hlsl : lsx.length ≤ 100 := by rw [← hls, List.length_mapIdx]; rw [← hm2.length] at hm2l; exact hm2l
  have hmll : ml.length ≤ 100 := by rw [← hml2.length]; exact hlsl
  have hbS : ∀ k, memS (mixL sizes) k = true → 0 ≤ k ∧ k < 3000 := fun k hk => by
    have := mix_bound sizes hs6 k (of_decide_eq_true hk); omega
  replace H : Inn s₀ ((L, nsC [(Str.ofString "counts", .ref lc2), (Str.ofString "lights", .ref DL)]) :: (cC, celC (some (.ref lc))) :: (lc, lstC vc) :: (DL, lstC (refs ml)) :: (cM, celC (some (.ref mS))) :: (mS, setC (wb w) (memS (mixL sizes))) :: (lc2, lstC cv) :: (cR, celC (some (.ref lr))) :: (lr, lstC vr) :: lRows ml) [] s := H.pick (pick_of (.cons _ (.cons _ (.cons _ (.cons _ (perm_tail (b := [_, _, _, _, _])))))))
  replace H : Inn s₀ ((L, nsC [(Str.ofString "counts", .ref lc2), (Str.ofString "lights", .ref DL)]) :: (cM, celC (some (.ref mS))) :: (mS, setC (wb w) (memS (mixL sizes))) :: (DL, lstC (refs ml)) :: (cC, celC (some (.ref lc))) :: (lc, lstC vc) :: (lc2, lstC cv) :: (cR, celC (some (.ref lr))) :: (lr, lstC vr) :: lRows ml) [] s := H.pick (by tb_rel)
  have H := H.pick (pick_of (.cons _ (.cons _ (.cons _ (.cons _ (perm_tail (a := [_, _, _, _, _]) (b := lRows ml)))))))
  refine execs_app _ _ (segJ3 G hA8 H hml2 hmll (fun l hl => (hlsm l hl).len) hbS (fun l hl x hx => by have := (hlsm l hl).lo x hx; omega) (fun Dg gv s hgv H => ?_))
  dsimp only
  replace H : Inn s₀ ((L, nsC [(Str.ofString "counts", .ref lc2), (Str.ofString "lights", .ref DL), (Str.ofString "good", .ref Dg)]) :: (Dg, lstC gv) :: (DL, lstC (refs ml)) :: (cC, celC (some (.ref lc))) :: (lc, lstC vc) :: (lc2, lstC cv) :: (cR, celC (some (.ref lr))) :: (lr, lstC vr) :: lRows ml) [] s := H.pick (pick_of (.cons _ (.cons _ (.cons _ (perm_tail (b := [_, _, _, _, _]))))))
  replace H : Inn s₀ ((L, nsC [(Str.ofString "counts", .ref lc2), (Str.ofString "lights", .ref DL), (Str.ofString "good", .ref Dg)]) :: (cC, celC (some (.ref lc))) :: (lc, lstC vc) :: (lc2, lstC cv) :: (Dg, lstC gv) :: (DL, lstC (refs ml)) :: (cR, celC (some (.ref lr))) :: (lr, lstC vr) :: lRows ml) [] s := H.pick (by tb_rel)
  have H := H.pick (pick_of (.cons _ (.cons _ (.cons _ (.cons _ (.cons _ (.cons _ (perm_tail (a := [_, _]) (b := lRows ml)))))))))
  have hcl4 : (cntS sizes).length = 4 := by unfold cntS; simp
  refine execs_app _ _ (segK (srt := srtD) G hA8 H hml2 hmll (fun l hl => (hlsm l hl).len) (fun l hl => light_ok (mem_lts hN (hlin l hl))) hcv hcl4 hc100 hns hc6 (fun DN lv s hlv H => ?_))
  dsimp only
  have hlc : ∀ (i : Nat) (l : List Int), l ∈ lsx → LineOk (lineS (cntS sizes) c6 i (srtD l)) ∧ chkS (lineS (cntS sizes) c6 i (srtD l)) = memS (mixL sizes) (codeL l) := fun i l hl => line_good hN hcomp (hlin l hl) hc100 c6 i
  refine execs_app _ _ (segL (n := n) G hA10 (led := (DL, lstC (refs ml)) :: (lRows ml ++ [(cR, celC (some (.ref lr))), (lr, lstC vr)])) H hlv hgv (by rw [List.length_mapIdx, List.length_map]) (by rw [List.length_mapIdx]; exact hlsl) (fun x hx => ?_) ?_ (fun s H => ?_))
  · obtain ⟨i, hi, rfl⟩ := List.mem_mapIdx.mp hx
    exact (hlc i _ (List.getElem_mem hi)).1
  · refine List.ext_getElem (by simp) fun i h1 h2 => ?_
    rw [List.getElem_map, List.getElem_mapIdx, List.getElem_map]
    exact (hlc i _ (List.getElem_mem _)).2
  dsimp only
  replace H : Inn s₀ ((L, nsC [(Str.ofString "lights", .ref DL), (Str.ofString "good", .ref Dg)]) :: (Dg, lstC gv) :: (DL, lstC (refs ml)) :: (cR, celC (some (.ref lr))) :: (lr, lstC vr) :: lRows ml) [] s := H.pick (pick_of (.cons _ (.cons _ (.cons _ (perm_tail (b := [_, _]))))))
  replace H : Inn s₀ ((L, nsC [(Str.ofString "lights", .ref DL), (Str.ofString "good", .ref Dg)]) :: (cR, celC (some (.ref lr))) :: (lr, lstC vr) :: (Dg, lstC gv) :: (DL, lstC (refs ml)) :: lRows ml) [] s := H.pick (by tb_rel)
  rw [← List.append_nil (lRows ml)] at H
  refine segM (n := n) G hA10 H hml2 hmll (fun l hl => (hlsm l hl).len) hgv hr hrlen ?_ hrn (fun l hl => ?_) ?_ (fun s H => k s H)
  · have h1 : vr.length = sizes.length := by rw [← hr.length, ← hrl, List.length_map]
    omega
  · rw [hrl]; exact (tak_good hN hcomp (hlin l hl)).1
  · rw [hrl]; exact List.map_congr_left fun l hl => (tak_good hN hcomp (hlin l hl)).2
end
/-! ### W9 -/
section
theorem six_eight {N : Nat} (h : 6 ≤ N) (h2 : N ≤ 8) : N = 6 ∨ N = 7 ∨ N = 8 := by omega
theorem law_front {w : World} {A' : Around} {n : Nat} {mg mb : Str → Option Value} {s₀ s : Shared} {Q : Flow → Shared → Prop} {L cD cC cS cO cL cT cR cH cM cQ la : Addr} {vs : List Value} {xs : List Int} (G : GG w mg mb s₀.heap) (hA8 : AOk A' ((n + 3) + 8)) (hA10 : AOk A' ((n + 1) + 10)) (hl : s₀.heap.IsList la vs.toArray) (hv : Paired isI xs vs) (hn : xs.length ≤ 1000)
    (H : Inn s₀ ((L, nsC [(Str.ofString "script", .ref la)]) :: (cQ, celC none) :: (cM, celC none) :: (cH, celC none) :: (cR, celC none) :: (cT, celC none) :: (cL, celC none) :: (cO, celC none) :: (cS, celC none) :: (cC, celC none) :: (cD, celC none) :: []) [] s)
    (k : ∀ s', Inn s₀ [] [] s' → Q (.ret (.bool true)) s') :
    wpAny (MM w) A' (execs ([st0, st1, st2] ++ ([st3, st4] ++ ([st5] ++ ([st6, st7] ++ ([st8] ++ ([st9] ++ ([st10] ++ ([st11, st12] ++ ([st13] ++ ([st14] ++ ([st15] ++ ([st16] ++ ([st17] ++ ([st18, st19] ++ ([st20, st21, st22] ++ [st23]))))))))))))))) (lenv L cD cC cS cO cL cT cR cH cM cQ)) Q (fun _ _ => False) s := by
  refine execs_app _ _ ?_
  have e := fun (Q : Flow → Shared → Prop) h k => @segA w A' (n + 3) mg mb s₀ s ((cQ, celC none) :: (cM, celC none) :: (cH, celC none) :: (cR, celC none) :: (cT, celC none) :: (cL, celC none) :: (cO, celC none) :: (cS, celC none) :: []) [] Q L cD cC cS cO cL cT cR cH cM cQ la xs vs G hA8 h hl hv hn k
  generalize execs [st0, st1, st2] (lenv L cD cC cS cO cL cT cR cH cM cQ) = X at e ⊢
  refine e _ (H.pick (by tb_rel)) (fun lc vc ns s hns hn7 H => ?_)
  clear e
  dsimp only
  refine execs_app _ _ ?_
  have e := fun (Q : Flow → Shared → Prop) h k => @segB w A' (n + 3) mg mb s₀ s ((cQ, celC none) :: (cM, celC none) :: (cH, celC none) :: (cR, celC none) :: (cT, celC none) :: (cL, celC none) :: []) [] Q L cD cC cS cO cL cT cR cH cM cQ lc ns vc none none G hA8 h hns hn7 k
  generalize execs [st3, st4] (lenv L cD cC cS cO cL cT cR cH cM cQ) = X at e ⊢
  refine e _ (H.pick (by tb_rel)) (fun lp lt vp vt w1 s hp ht H => ?_)
  clear e
  dsimp only
  obtain ⟨hbig, hsm, hlen⟩ := tot_range hn7
  have hpok : ∀ p ∈ piecesOf (ns.take 6), PcOk p := piecesOf_ok _ [] (fun _ h => nomatch h)
  obtain ⟨c6, hc6⟩ : ∃ c6, ns[6]? = some c6 := ⟨_, List.getElem?_eq_getElem (by rw [hn7]; decide)⟩
  generalize piecesOf (ns.take 6) = ps at hp ht hbig hsm hlen hpok
  refine execs_app _ _ ?_
  have e := fun (Q : Flow → Shared → Prop) h k => @segC w A' (n + 3) mg mb s₀ s ((cS, celC w1) :: (cC, celC (some (.ref lc))) :: (lc, lstC vc) :: (cQ, celC none) :: (cM, celC none) :: (cH, celC none) :: (cR, celC none) :: (cT, celC none) :: []) [] Q L cD cC cS cO cL cT cR cH cM cQ lp lt ps vp vt none G hA8 h hp ht hpok hlen k
  generalize execs [st5] (lenv L cD cC cS cO cL cT cR cH cM cQ) = X at e ⊢
  refine e _ (H.pick (by tb_rel)) (fun t1 t2 s H => ?_)
  clear e
  dsimp only
  have hdue := due_ok hpok hlen hsm
  have hN : tot ps = 6 ∨ tot ps = 7 ∨ tot ps = 8 := six_eight hbig hsm
  rw [← wholeOf_len] at H
  refine execs_app _ _ ?_
  have e := fun (Q : Flow → Shared → Prop) h k => @segD w A' (n + 3) mg mb s₀ s ((lp, lstC vp) :: (cS, celC w1) :: (cC, celC (some (.ref lc))) :: (lc, lstC vc) :: (cQ, celC none) :: (cM, celC none) :: (cH, celC none) :: []) [] Q L cD cC cS cO cL cT cR cH cM cQ lp lt vt (wholeOf ps) (stp ps) none none t1 t2 G hA8 h ht (by rw [wholeOf_len]; omega) (by rw [stp_len]; omega) (stp_zero ps) (stp_le ps) hdue.mx k
  generalize execs [st6, st7] (lenv L cD cC cS cO cL cT cR cH cM cQ) = X at e ⊢
  refine e _ (H.pick (by tb_rel)) (fun ld lst lr vd vs2 s hd hst H => ?_)
  clear e
  dsimp only
  rw [wholeOf_len] at H
  refine execs_app _ _ (segE G hA8 (ps := ps) (stops := stp ps) (starts := (dRun (wholeOf ps) (stp ps) 6).2) (led := (ld, lstC vd) :: (cL, celC (some (.int (tot ps : Nat) t2))) :: (cS, celC w1) :: (cC, celC (some (.ref lc))) :: (lc, lstC vc) :: (cQ, celC none) :: (cM, celC none) :: (cH, celC none) :: []) (H.pick (by tb_rel)) hp ht hst hpok hlen (stp_len ps) (fun vr s hr H => ?_))
  dsimp only
  rw [hdue.rows] at hr
  have hrows := due_rows hdue hbig
  have hlens := hdue.len
  have hsum := hdue.sum
  have hn6 := hdue.n
  generalize (dRun (wholeOf ps) (stp ps) 6).1 = due at hd hr hrows hlens hsum hn6
  generalize tot ps = N at H hN hsum
  refine execs_app _ _ (segF G hA8 (due := due) (rows := due.map mk) (led := (cL, celC (some (.int (N : Nat) t2))) :: (cS, celC w1) :: (cC, celC (some (.ref lc))) :: (lc, lstC vc) :: (cQ, celC none) :: (cM, celC none) :: (cH, celC none) :: []) (H.pick (by tb_rel)) hd hr (by omega) (by rw [List.length_map]; omega) (fun y hy => ?_) (fun y hy => ?_) (fun ls lc2 vs2 tpg s hsz H => ?_))
  · obtain ⟨c, hc, rfl⟩ := List.mem_map.mp hy
    rw [mk_len]; have := hlens c hc; omega
  · have := hlens y hy; omega
  dsimp only
  refine execs_app _ _ (segG (lr := lr) G hA10 (due := due) (led := (cR, celC (some (.ref lr))) :: (lr, lstC vr) :: (cL, celC (some (.int (N : Nat) t2))) :: (cS, celC w1) :: (cC, celC (some (.ref lc))) :: (lc, lstC vc) :: (cQ, celC none) :: (cM, celC none) :: (cH, celC none) :: []) (H.pick (by tb_rel)) hd hrows (fun cv s hcv H => ?_))
  dsimp only
  rw [cnts_eq] at hcv
  have hszlo : ∀ z ∈ due.map (·.length), 1 ≤ z ∧ z ≤ 3 := fun z hz => by
    obtain ⟨c, hc, rfl⟩ := List.mem_map.mp hz
    exact hlens c hc
  have hcomp := mem_comp (due.map (·.length)) 6 (by rw [List.length_map]; exact hn6) hszlo
  rw [hsum] at hcomp
  have hs6 : (due.map (·.length)).length ≤ 6 := by rw [List.length_map]; exact hn6
  have hrl : (due.map mk).map (·.length) = due.map (·.length) := by rw [List.map_map]; exact List.map_congr_left fun c _ => mk_len c
  generalize hsizes : due.map (·.length) = sizes at hcv hszlo hcomp hs6 hrl hsz
  have hc100 : ∀ c ∈ cntS sizes, c ≤ 100 := fun c hc => by
    unfold cntS at hc
    obtain ⟨j, _, rfl⟩ := List.mem_map.mp hc
    exact Nat.le_trans (List.length_filter_le ..) (by omega)
  refine execs_app _ _ ?_
  have e := fun (Q : Flow → Shared → Prop) h k => @segH w A' (n + 3) mg mb s₀ s ((lc2, lstC cv) :: (cR, celC (some (.ref lr))) :: (lr, lstC vr) :: (cL, celC (some (.int (N : Nat) t2))) :: (cC, celC (some (.ref lc))) :: (lc, lstC vc) :: (cQ, celC none) :: []) [] Q L cD cC cS cO cL cT cR cH cM cQ ls lc2 vs2 sizes w1 none none G hA8 h hsz hs6 (fun z hz => (hszlo z hz).2) k
  generalize execs [st11, st12] (lenv L cD cC cS cO cL cT cR cH cM cQ) = X at e ⊢
  refine e _ (H.pick (by tb_rel)) (fun mS s H => ?_)
  clear e
  dsimp only
  refine law_back (n := n + 1) G hA10 hN hcomp hs6 hc100 hrl (by have := hrows.ne; simpa using this) (fun r hr => ?_) hr hcv hns hc6 H (fun s H => k s H)
  obtain ⟨c, hc, rfl⟩ := List.mem_map.mp hr
  rw [mk_len]; exact hlens c hc
end
/-! ### W1 -/
section
theorem law_split : lawBody = [st0, st1, st2] ++ ([st3, st4] ++ ([st5] ++ ([st6, st7] ++ ([st8] ++ ([st9] ++ ([st10] ++ ([st11, st12] ++ ([st13] ++ ([st14] ++ ([st15] ++ ([st16] ++ ([st17] ++ ([st18, st19] ++ ([st20, st21, st22] ++ [st23])))))))))))))) := rfl
theorem law_ct {w : World} {A : Around} {n : Nat} {mg mb : Str → Option Value} {s₀ s : Shared} {E : Value → Shared → Prop} (G : GG w mg mb s₀.heap) (hA : AOk A (n + 12)) {la : Addr} {vs : List Value} {xs : List Int} (hl : s₀.heap.IsList la vs.toArray) (hv : Paired isI xs vs) (hn : xs.length ≤ 1000) (H : Inn s₀ [] [] s) :
    wpAny (MM w) A (call (.ref 102) [.ref la]) (fun v s' => v = .bool true ∧ Inn s₀ [] [] s') E s := by
  refine' enterC (fd := fdLaw) (rb := [(Str.ofString "script", .ref la)]) (fun L => lcs (L + 1) (L + 2) (L + 3) (L + 4) (L + 5) (L + 6) (L + 7) (L + 8) (L + 9) (L + 10)) (body := lawBody) G hA H ?ho ?hdat ?hcd ?hbody ?hbind ?hclo ?hcs ?hloc ?hcn ?h ?hco ?hgen ?hk
  case ho => rfl
  case hdat => rfl
  case hcd => kernel_rfl!
  case hbody => rfl
  case hbind => kernel_rfl!
  case hclo => rfl
  case hcs => intro L; rfl
  case hloc => kernel_rfl!
  case hcn => intro L; show [Str.ofString "orders", Str.ofString "mixes", Str.ofString "choices", Str.ofString "rows", Str.ofString "starts", Str.ofString "letters", Str.ofString "code", Str.ofString "size", Str.ofString "cells", Str.ofString "drawn"].Nodup; decide +kernel
  case hco => rfl
  case hgen => rfl
  case hk => rfl
  clear H; intro L s hA H
  replace H : Inn s₀ ((L, nsC [(Str.ofString "script", .ref la)]) :: (L + 10, celC none) :: (L + 9, celC none) :: (L + 8, celC none) :: (L + 7, celC none) :: (L + 6, celC none) :: (L + 5, celC none) :: (L + 4, celC none) :: (L + 3, celC none) :: (L + 2, celC none) :: (L + 1, celC none) :: []) [] s := H
  have hA8 : AOk _ ((n + 3) + 8) := hA
  have hA10 : AOk _ ((n + 1) + 10) := hA
  generalize L + 10 = cQ at H hA8 hA10 ⊢
  generalize L + 9 = cM at H hA8 hA10 ⊢
  generalize L + 8 = cH at H hA8 hA10 ⊢
  generalize L + 7 = cR at H hA8 hA10 ⊢
  generalize L + 6 = cT at H hA8 hA10 ⊢
  generalize L + 5 = cL at H hA8 hA10 ⊢
  generalize L + 4 = cO at H hA8 hA10 ⊢
  generalize L + 3 = cS at H hA8 hA10 ⊢
  generalize L + 2 = cC at H hA8 hA10 ⊢
  generalize L + 1 = cD at H hA8 hA10 ⊢
  generalize A.deeper (envC fdLaw L 102 (lcs cD cC cS cO cL cT cR cH cM cQ)) = A' at hA8 hA10 ⊢
  rw [law_split]
  have e := fun (Q : Flow → Shared → Prop) k => law_front (Q := Q) G hA8 hA10 hl hv hn H k
  generalize execs ([st0, st1, st2] ++ ([st3, st4] ++ ([st5] ++ ([st6, st7] ++ ([st8] ++ ([st9] ++ ([st10] ++ ([st11, st12] ++ ([st13] ++ ([st14] ++ ([st15] ++ ([st16] ++ ([st17] ++ ([st18, st19] ++ ([st20, st21, st22] ++ [st23]))))))))))))))) (lenv L cD cC cS cO cL cT cR cH cM cQ) = X at e ⊢
  exact e _ (fun s H => ⟨rfl, H⟩)
end
/-! ### Wh -/
section
theorem items_int {R : WRecords} : ∀ {xs : List WData}, WShape.hasItems R xs .int = true → ∃ ns : List Int, xs = ns.map WData.int
  | [], _ => ⟨[], rfl⟩
  | x :: r, h => by
    replace h : (WShape.has R x .int && WShape.hasItems R r .int) = true := h
    rw [Bool.and_eq_true] at h
    obtain ⟨i, rfl⟩ := hasW_int h.1
    obtain ⟨ns, rfl⟩ := items_int h.2
    exact ⟨i :: ns, rfl⟩
theorem has_list {R : WRecords} {x : WData} (h : WShape.has R x (.list .int) = true) : ∃ ns : List Int, x = .list (ns.map WData.int) := by
  obtain ⟨xs, rfl, h2⟩ := hasW_list h
  obtain ⟨ns, rfl⟩ := items_int h2
  exact ⟨ns, rfl⟩
theorem reads_ints {R : WRecords} {cl : Str → Option Addr} {h : Heap} {ns : List Int} : ∀ {vs : List Value} {as : List Addr}, ReadsAllW R cl h vs (ns.map WData.int) as → Paired isI ns vs := by
  induction ns with
  | nil => intro vs as x; cases x; exact .nil
  | cons n ns ih =>
    intro vs as x
    obtain ⟨v, vs', bs, cs, rfl, rfl, h1, h2⟩ := readsAllW_cons_inv x
    obtain ⟨t, rfl, _⟩ := readsW_int_inv h1
    exact .cons ⟨_, rfl⟩ (ih h2)
theorem pre_ints {args : List WData} (h : Challenge.rw_wz0010_01.row.claim.pre args = true) : ∃ ns : List Int, args = [.list (ns.map WData.int)] ∧ ns.length ≤ 1000 := by
  have h' : (WShape.hasAll [] args [.list .int] && Challenge.rw_wz0010_01.pre.holds [] { args := args }) = true := h
  rw [Bool.and_eq_true] at h'
  obtain ⟨h1, h2⟩ := h'
  obtain ⟨d, r, rfl, hd, hr⟩ := hasAllW_cons h1
  have hr' := hasAllW_nil hr
  subst hr'
  obtain ⟨ns, rfl⟩ := has_list hd
  refine ⟨ns, rfl, ?_⟩
  apply Classical.byContradiction
  intro hl
  have h3 : (WTm.and (.not (.lt (.lit (.int 63)) (.len (.arg 0)))) (.lit (.bool true))).holds [] { args := [.list (ns.map WData.int)] } = true := h2
  have hb : decide ((63 : Int) < (((ns.map WData.int).length : Nat) : Int)) = true := by rw [List.length_map]; exact decide_eq_true (by omega)
  have e : less? (.int 63) (.int (((ns.map WData.int).length : Nat) : Int)) = some true := by
    unfold less?
    show Num.less? _ _ = _
    unfold Num.less?
    show some (decide ((63 : Int) < (((ns.map WData.int).length : Nat) : Int))) = some true
    rw [hb]
  have ev : (WTm.and (.not (.lt (.lit (.int 63)) (.len (.arg 0)))) (.lit (.bool true))).value [] { args := [.list (ns.map WData.int)] } = some (.bool false) := by
    have e1 : (WTm.len (.arg 0)).value [] { args := [.list (ns.map WData.int)] } = some (.int (((ns.map WData.int).length : Nat) : Int)) := rfl
    have e2 : (WTm.lt (.lit (.int 63)) (.len (.arg 0))).value [] { args := [.list (ns.map WData.int)] } = some (.bool true) := by
      unfold WTm.value
      rw [e1]
      show (less? (.int 63) (.int (((ns.map WData.int).length : Nat) : Int))).map WData.bool = _
      rw [e]; rfl
    have e3 : (WTm.not (.lt (.lit (.int 63)) (.len (.arg 0)))).value [] { args := [.list (ns.map WData.int)] } = some (.bool false) := by
      unfold WTm.value
      rw [e2]; rfl
    unfold WTm.value
    rw [e3]
  unfold WTm.holds at h3
  rw [ev] at h3
  cases h3
theorem post_ok (args ds : List WData) : Challenge.rw_wz0010_01.row.claim.post args (.bool true) ds = true := by
  show (WShape.has [] (WData.bool true) .bool && (WTm.eq .res (.lit (.bool true))).holds [] { args := args, res := some (.bool true), after := ds }) = true
  have e : same (WData.bool true) (WData.bool true) = true := by first | rfl | decide +kernel | simp [same]
  rw [show WShape.has [] (WData.bool true) .bool = true from rfl, Bool.true_and]
  first | (with_unfolding_all rfl) | kernel_rfl | simp [WTm.holds, WTm.value, e]
theorem reads_one {R : WRecords} {cl : Str → Option Addr} {h : Heap} {vals : List Value} {ns : List Int} {as : List Addr} (x : ReadsAllW R cl h vals [.list (ns.map WData.int)] as) : ∃ a vs, vals = [.ref a] ∧ h.IsList a vs.toArray ∧ Paired isI ns vs := by
  obtain ⟨v, vs', bs, cs, rfl, rfl, h1, h2⟩ := readsAllW_cons_inv x
  obtain ⟨a, vs, as', rfl, hl, hr, _⟩ := readsW_list_inv h1
  cases h2
  exact ⟨a, vs.toList, rfl, hl, reads_ints hr⟩
end
end Mine
theorem PySem.Challenge.cw_wz0010_01_holds : PySem.Challenge.rw_wz0010_01.Holds := by
  refine Mine.hd (by
    k_fill
    intro w s₀ s₁ mg mb G Y fa o pm cd doc dV kV hfa hdata hcode hdf hname hgens args vals as hpre hlay hread hwell hsys
    have GG' : Mine.GG w mg mb s₁.heap := ⟨kIn_of Y, G.T.g, G.T.b, G.T.nolimit, G.T.builtins⟩
    have e102 : mg (Str.ofString "law") = some (.ref 102) := mg_of GG'.k GG'.g rfl
    have hfa2 : fa = 102 := by
      have : some (Value.ref fa) = some (.ref 102) := hname.symm.trans e102
      injection this with this; injection this
    subst hfa2
    obtain ⟨xs, hargs, hsz⟩ := Mine.pre_ints hpre
    subst hargs
    obtain ⟨a, vs, rfl, hl, hv⟩ := Mine.reads_one hread
    refine wpAny_mono (Mine.law_ct (n := 0) (E := fun _ _ => False) GG' ⟨rfl, by decide, by decide⟩ hl hv hsz (Mine.Inn.start (AllBare.of_eq hgens))) (fun v s' h => ?_) (fun _ _ f => f.elim)
    obtain ⟨rfl, H⟩ := h
    exact ⟨.inl ⟨.bool true, .bool true, [], rfl, fun cls => rfl, .bool true, Mine.post_ok _ _, fun _ => ⟨List.nodup_nil, fun _ h => (nomatch h)⟩⟩, .of_keep H.keep, H.os, H.bare⟩)
